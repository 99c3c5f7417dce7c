/- A part of the proof, joined out of the texts A7, A8, A9, A10, A11, B0, A12, A13; each theorem bears its own conditions. -/
import Derived.Lib.SliceRun
import Derived.Test.YtfmmdamgcpiciaaGreatDoorT01
set_option linter.unusedVariables false
set_option linter.unusedSimpArgs false
set_option linter.all false
set_option maxHeartbeats 9000000
set_option exponentiation.threshold 400000
set_option maxRecDepth 1000000
namespace Go.Proofs.YtfmmdamgcpiciaaGreatDoor
open Go Go.RowKit
def NatAt (w : World) (s : Option Addr) (n c X : Nat) : Prop :=∃ xs,xs.length = n ∧ n ≤ c ∧ c ≤ (8388607 * Big + 1099511627775) ∧ n ≤ Big ∧ SlOk w s c ∧ Words w s xs ∧ Lt W64 xs ∧ Nz xs ∧ val W64 xs = X
def GotNat (w : World) (s : Option Addr) (c X : Nat) (e : Ending) (w' : World) : Prop :=∃ s' n' c',e = .returned (.slice s' n' c') ∧ NatAt w' s' n' c' X ∧ Fr w s c s' c' ∧ Chg w w' (Blk s)
theorem Row.one {w : World} {b o : Nat} (x : Nat) (hw : ∃ u,w.cell? ⟨b,o,none⟩ = some u) : Row .u64 (w.setCell ⟨b,o,none⟩ (.int .u64 x)) b o [x] :=
  Row.store (zs :=[]) Row.nil x hw
theorem Nz.nil : Nz [] :=fun x h => by simp at h
theorem Nz.one {x : Nat} (h : x ≠ 0) : Nz [x] :=fun y hy => by simp at hy;omega
theorem Lt.nil {B : Nat} : Lt B [] :=fun x h => by cases h
theorem Lt.one {B x : Nat} (h : x < B) : Lt B [x] :=fun y hy => by
  obtain rfl :=List.mem_singleton.1 hy
  exact h
theorem Fr.blk {w : World} {s s' : Option Addr} {c c' b o b' : Nat} (h : Fr w s c s' c') (hs : s' = some ⟨b,o,none⟩) (hb : b' < w.heap.size) (he : b' = b) : ∃ o',s = some ⟨b',o',none⟩ :=by
  subst he
  rcases h with ⟨h,_⟩ | ⟨b2,h,h6⟩
  · exact ⟨o,by rw [← h,hs]⟩
  · rw [h] at hs
    simp only [Option.some.injEq,Addr.mk.injEq] at hs
    omega
theorem Chg.fr {w w1 w2 : World} {s s' : Option Addr} {c c' b o : Nat} {M : Nat → Nat → Prop} (h : Chg w w1 (Blk s)) (hf : Fr w s c s' c') (hs : s' = some ⟨b,o,none⟩) (k : Chg w1 w2 M) (hm : ∀ b' o',M b' o' → b' = b) : Chg w w2 (Blk s) :=
  h.trans k fun b' o' hb hM => by
    obtain ⟨o2,h2⟩ :=hf.blk hs hb (hm b' o' hM)
    exact ⟨o2,h2⟩
theorem nat_setWord (w : World) (s : Option Addr) (n0 c x : Nat) (hc : SlOk w s c) (hcc : c ≤ (8388607 * Big + 1099511627775)) (hx : x < W64) :
    Calls Tryz.prog 158 #[.slice s n0 c,.int .u64 x] w (GotNat w s c x) :=by
  unfold Big at hcc
  by_cases h0 : x = 0
  · subst h0
    go_enter Tryz.func158,Tryz.ntmps158
    go_wp2
    go_ret
    exact ⟨s,0,c,rfl,⟨[],rfl,Nat.zero_le _,hcc,Nat.zero_le _,hc,.inl rfl,Lt.nil,Nz.nil,rfl⟩,.inl ⟨rfl,rfl⟩,Chg.refl _ _⟩
  · have hm :=nat_make w s n0 c 1 hc (by unfold Big;omega) (by omega)
    go_enter Tryz.func158,Tryz.ntmps158
    go_wp2_with (go_at_call 134;refine hm.mono ?_;rintro e w1 ⟨s',c',rfl,h1,h2,h3,h4,h5⟩;obtain ⟨b,o,rfl,hw,hf,hb⟩ :=h3.pos (by omega);obtain ⟨⟨u,hu⟩,hz⟩ :=hw 0 (by omega);simp only [Nat.add_zero] at hu hz)
    go_ret
    refine ⟨some ⟨b,o,none⟩,1,c',rfl,⟨[x],rfl,by omega,by unfold Big at *;omega,by unfold Big;omega,h3.chg (Chg.setCell _ _ _ _ (fun _ _ => True) fun _ => trivial),.inr ⟨b,o,rfl,Row.one x ⟨u,hu⟩⟩,Lt.one hx,Nz.one h0,by simp [val]⟩,h4,?_⟩
    exact (h5.any (Blk s)).fr h4 rfl (Chg.setCell w1 b o _ (fun b' _ => b' = b) fun _ => rfl) fun _ _ h => h
theorem Words.keep {w w' : World} {s : Option Addr} {xs : List Nat} (h : Words w s xs) (hk : Kept w w') : Words w' s xs :=h.chg hk fun _ _ _ _ x => x
theorem Row.keep {k : IntKind} {w w' : World} {b o : Nat} {xs : List Nat} (h : Row k w b o xs) (hk : Kept w w') : Row k w' b o xs :=h.chg hk fun _ _ x => x
theorem Row.lt {k : IntKind} {w : World} {b o : Nat} {xs : List Nat} (h : Row k w b o xs) (hn : 0 < xs.length) : b < w.heap.size :=lt_of_cell (h.cell 0 hn)
theorem Sep.ahead {w : World} {s : Option Addr} {c bx ox b o c' : Nat} (n : Nat) (h : Sep (some ⟨bx,ox,none⟩) s) (hf : Fr w s c (some ⟨b,o,none⟩) c') (hb : bx < w.heap.size) : Ahead bx ox b o n :=by
  rcases hf with ⟨h1,_⟩ | ⟨b2,h1,h2⟩
  · rcases h with h | h
    · rw [← h1] at h
      simp only [Option.some.injEq,Addr.mk.injEq] at h
      exact .inr (.inl (by omega))
    · exact .inl (h _ _ rfl h1.symm)
  · simp only [Option.some.injEq,Addr.mk.injEq] at h1
    exact .inl (by omega)
theorem trim_nat {w : World} {s : Option Addr} {c : Nat} {zs : List Nat} {X : Nat} (hl : zs.length ≤ c) (hc : c ≤ (8388607 * Big + 1099511627775)) (hb : zs.length ≤ Big) (ho : SlOk w s c) (hw : Words w s zs) (hlt : Lt W64 zs) (hv : val W64 zs = X) : NatAt w s (trimZ zs).length c X :=by
  obtain ⟨h1,h2,h3⟩ :=trimZ_spec W64 zs
  refine ⟨trimZ zs,rfl,by omega,hc,by omega,ho,?_,?_,Nz.trimZ zs,by rw [h1,hv]⟩
  · rw [h3];exact hw.take _
  · rw [h3];exact hlt.take _
theorem val_snoc (B : Nat) (zs : List Nat) (z : Nat) : val B (zs ++ [z]) = val B zs + B ^ zs.length * z :=by
  rw [val_append];simp [val]
theorem nat_mulAddWW (w : World) (s sx : Option Addr) (n0 c n cx y r : Nat) (xs : List Nat) (hc : SlOk w s c) (hcc : c ≤ (8388607 * Big + 1099511627775)) (hx : Words w sx xs) (hl : xs.length = n) (hlt : Lt W64 xs) (hn : n < Big) (hy : y < W64) (hr : r < W64) (hsep : Sep sx s) :
    Calls Tryz.prog 148 #[.slice s n0 c,.slice sx n cx,.int .u64 y,.int .u64 r] w (GotNat w s c (val W64 xs * y + r)) :=by
  have hs :=nat_setWord w s n0 c r hc hcc hr
  by_cases hn0 : n = 0
  · subst hn0
    obtain rfl :=List.length_eq_zero_iff.1 hl
    go_enter Tryz.func148,Tryz.ntmps148
    go_wp2_with (go_at_call 158;refine hs.mono ?_;rintro e w1 ⟨s',n',c',rfl,hg⟩)
    go_ret
    refine ⟨s',n',c',rfl,?_⟩
    simpa [val] using hg
  by_cases hy0 : y = 0
  · subst hy0
    go_enter Tryz.func148,Tryz.ntmps148
    go_wp2_with (go_at_call 158;refine hs.mono ?_;rintro e w1 ⟨s',n',c',rfl,hg⟩)
    go_ret
    refine ⟨s',n',c',rfl,?_⟩
    simpa using hg
  have hm :=nat_make w s n0 c (n + 1) hc (by omega) (by unfold Big at *;omega)
  obtain ⟨bx,ox,rfl,hrx⟩ :=hx.some (by omega)
  unfold Big at hn hcc
  go_enter Tryz.func148,Tryz.ntmps148
  go_wp2_with (first
    | (go_at_call 134;refine hm.mono ?_;rintro e w1 ⟨s',c',rfl,h1,h2,h3,h4,h5⟩;obtain ⟨b,o,rfl,hw,hf,hb⟩ :=h3.pos (by omega))
    | (go_at_call 171;refine mulAddVWW _ _ _ _ _ _ ?_;refine (mulAddVWW_g w1 _ _ b o bx ox n _ _ y r xs (by omega) (fun _ => rfl) (fun _ => rfl) (hrx.keep h5) hl hlt hy hr (fun j hj => hw j (by omega)) (hsep.ahead n h4 (hrx.lt (by omega)))).mono ?_;
       rintro e w2 ⟨zs,cy,rfl,g1,g2,g3,g4,g5,g6,g7⟩;refine ⟨_,rfl,?_⟩;obtain ⟨⟨u,hu⟩,hz⟩ :=(hw.chg g6) n (by omega);
       have hrow : Row .u64 (w2.setCell ⟨b,o + n,none⟩ (.int .u64 cy)) b o (zs ++ [cy]) :=(by rw [← g1];exact g2.store cy ⟨u,by rw [g1];exact hu⟩))
    | (go_at_call 158;exfalso;simp_all)
    | (go_at_call 106;refine (nat_norm _ _ (n + 1) c' (zs ++ [cy]) (.inr ⟨b,o,rfl,hrow⟩) (by simp [g1]) (by omega) h1).mono ?_;rintro e w3 ⟨rfl,hw3⟩;rw [hw3]))

  go_ret
  have hsc :=Chg.setCell w2 b (o + n) (.int .u64 cy) (In b o (n + 1)) (fun _ => ⟨rfl,by omega,by omega⟩)
  refine ⟨_,_,c',rfl,trim_nat (by simp [g1];omega) (by unfold Big at *;omega) (by simp [g1];unfold Big;omega) ((h3.chg g6).chg hsc) (.inr ⟨b,o,rfl,hrow⟩) (g3.snoc g5) (by rw [val_snoc,g1];exact g4),h4,?_⟩
  exact (((h5.any (Blk s)).fr h4 rfl g6 fun _ _ h => h.1)).fr h4 rfl hsc fun _ _ h => h.1
end Go.Proofs.YtfmmdamgcpiciaaGreatDoor
namespace Go.Proofs.YtfmmdamgcpiciaaGreatDoor
open Go Go.RowKit
theorem Row.setAt {w : World} {b o : Nat} {xs : List Nat} (h : Row .u64 w b o xs) (k : Nat) (v : Nat) : Row .u64 (w.setCell ⟨b,o + k,none⟩ (.int .u64 v)) b o (xs.set k v) :=fun j x hj => by
  rw [List.getElem?_set] at hj
  split at hj
  · rename_i e
    subst e
    split at hj
    · simp only [Option.some.injEq] at hj
      subst hj
      exact cell_setCell_eq (h k _ (List.getElem?_eq_getElem (by assumption)))
    · cases hj
  · rename_i e
    rw [cell_setCell_ne (fun c => e (by omega))]
    exact h j x hj
theorem val_split {B : Nat} {xs : List Nat} {k x : Nat} (h : xs[k]? = some x) : val B xs = val B (xs.take k) + B ^ k * (x + B * val B (xs.drop (k + 1))) :=by
  obtain ⟨hl,hx⟩ :=List.getElem?_eq_some_iff.1 h
  have e : xs = xs.take k ++ x :: xs.drop (k + 1) :=by
    rw [← hx,← List.drop_eq_getElem_cons hl,List.take_append_drop]
  have e2 : val B xs = val B (xs.take k ++ x :: xs.drop (k + 1)) :=by rw [← e]
  rw [e2,val_append,List.length_take,Nat.min_eq_left (Nat.le_of_lt hl)]
  rfl
theorem val_join {B : Nat} {zs ts : List Nat} {k x : Nat} (h : zs.length = k) : val B (zs ++ x :: ts) = val B zs + B ^ k * (x + B * val B ts) :=by
  rw [val_append,h];rfl
theorem addVW_last {W Z P X x T y : Nat} (h : Z + P = X + y) : Z + P * (x + 1 + W * T) = X + P * (x + W * T) + y :=by
  rw [show x + 1 + W * T = x + W * T + 1 by omega,Nat.mul_add P (x + W * T) 1,Nat.mul_one];omega
theorem addVW_more {W Z P X x y : Nat} (h : Z + P = X + y) (hx : x + 1 = W) : Z + P * 0 + P * W = X + P * x + y :=by
  rw [← hx,Nat.mul_add];omega
theorem subVW_last {W Z P X x T y : Nat} (h : Z + y = X + P) : Z + P * (x + W * T) + y = X + P * (x + 1 + W * T) :=by
  rw [show x + 1 + W * T = x + W * T + 1 by omega,Nat.mul_add P (x + W * T) 1,Nat.mul_one];omega
theorem subVW_more {W Z P X z y : Nat} (h : Z + y = X + P) (hz : z + 1 = W) : Z + P * z + y = X + P * 0 + P * W :=by
  rw [← hz,Nat.mul_add];omega
theorem addVW_start {W r y x0 : Nat} (xt : List Nat) (h : r + W * 1 = x0 + y) : val W [r] + W ^ 1 = val W ((x0 :: xt).take 1) + y :=by
  simp only [val,List.take_succ_cons,List.take_zero,Nat.pow_one,Nat.mul_zero,Nat.add_zero];omega
theorem subVW_start {W r y x0 : Nat} (xt : List Nat) (h : r + y = x0 + W * 1) : val W [r] + y = val W ((x0 :: xt).take 1) + W ^ 1 :=by
  simp only [val,List.take_succ_cons,List.take_zero,Nat.pow_one,Nat.mul_zero,Nat.add_zero];omega
theorem addVW_zero {W r y x0 : Nat} (ts : List Nat) (n : Nat) (h : r + W * 0 = x0 + y) : val W (r :: ts) + W ^ n * 0 = val W (x0 :: ts) + y :=by
  simp only [val,Nat.mul_zero,Nat.add_zero] at *;omega
theorem subVW_zero {W r y x0 : Nat} (ts : List Nat) (n : Nat) (h : r + y = x0 + W * 0) : val W (r :: ts) + y = val W (x0 :: ts) + W ^ n * 0 :=by
  simp only [val,Nat.mul_zero,Nat.add_zero] at *;omega
theorem append_set {zs ts : List Nat} {k x v : Nat} (h : zs.length = k) : (zs ++ x :: ts).set k v = zs ++ v :: ts :=by
  subst h;simp
theorem drop_get {xs : List Nat} {k x : Nat} (h : xs[k]? = some x) : xs.drop k = x :: xs.drop (k + 1) :=by
  obtain ⟨hl,hx⟩ :=List.getElem?_eq_some_iff.1 h
  rw [← hx];exact List.drop_eq_getElem_cons hl
theorem copyRest (w : World) (b o bx ox n c cx : Nat) (xs : List Nat) (hx : Row .u64 w bx ox xs) (hl : xs.length = n) (hw : Wr w b o n) :
    (Builtin.copy_ #[108,108] 3 #[.slice (some ⟨b,o,none⟩) n c,.slice (some ⟨bx,ox,none⟩) n cx]).run Tryz.prog w = .ok (.int .i64 n) (w.setCells b o (xs.map fun (x : Nat) => Value.int .u64 x)) :=by
  have :=run_copy_cells (P :=Tryz.prog) w 108 108 3 109 b o n c ⟨bx,ox,none⟩ n cx (xs.map fun (x : Nat) => Value.int .u64 x) Tryz.underlying108 (by kernel_rfl) (by simp [hl])
    (fun j v hj => by
      rw [List.getElem?_map] at hj
      cases hxj : xs[j]? with
      | none => rw [hxj] at hj;cases hj
      | some x =>
        rw [hxj] at hj
        simp only [Option.map_some,Option.some.injEq] at hj
        subst hj
        have :=hx j x hxj
        unfold Addr.add
        split
        · rename_i h0;subst h0;exact this
        · exact this)
    (fun j hj => by obtain ⟨⟨v,hv⟩,_⟩ :=hw j (by simpa [hl] using hj);simp [hv])
    (fun j hj => (hw j (by simpa [hl] using hj)).2)
    (fun v hv => by obtain ⟨x,_,rfl⟩ :=List.mem_map.1 hv;rfl)
  rw [this];simp [goInt,hl]
theorem addVW_same (w : World) (bz oz m cz cx y : Nat) (xs : List Nat) (hn : m ≤ Big)
    (hx : Row .u64 w bz oz xs) (hlx : xs.length = m + 1) (hbx : Lt W64 xs) (hy : y < W64) (hcz : m + 1 ≤ cz) (hcx : m + 1 ≤ cx) (hz : Wr w bz oz (m + 1)) (nz : NF w bz) :
    Calls Tryz.prog 136 #[.slice (some ⟨bz,oz,none⟩) (m + 1) cz,.slice (some ⟨bz,oz,none⟩) (m + 1) cx,.int .u64 y] w fun e w' => ∃ zs c,e = .returned (.int .u64 (c : Nat)) ∧ zs.length = m + 1 ∧ Row .u64 w' bz oz zs ∧ Lt W64 zs ∧
      val W64 zs + W64 ^ (m + 1) * c = val W64 xs + y ∧ c ≤ 1 ∧ Chg w w' (In bz oz (m + 1)) :=by
  obtain ⟨x0,xt,rfl⟩ : ∃ a l,xs = a :: l :=by
    cases xs with
    | nil => simp at hlx
    | cons a l => exact ⟨a,l,rfl⟩
  have hlt : xt.length = m :=by simpa using hlx
  have c0 :=hx 0 x0 rfl
  simp only [Nat.add_zero] at c0
  have b0 : x0 < W64 :=hbx x0 List.mem_cons_self
  obtain ⟨⟨u0,z0⟩,f0⟩ :=hz 0 (by omega)
  simp only [Nat.add_zero] at z0 f0
  have ca :=bits_Add x0 y 0 (by omega)
  simp only [Nat.add_zero] at ca
  have cdiv : (x0 + y) / W64 ≤ 1 :=by have :=carry_le (c :=0) b0 hy (by omega);simpa using this
  have cmod : (x0 + y) % W64 < W64 :=Nat.mod_lt _ (by decide)
  have csum : (x0 + y) % W64 + W64 * ((x0 + y) / W64) = x0 + y :=Nat.mod_add_div _ _
  unfold Big at hn
  generalize (x0 + y) / W64 = q at *
  generalize (x0 + y) % W64 = r at *
  have c1 : (w.setCell ⟨bz,oz,none⟩ (.int .u64 r)).cell? ⟨bz,oz,none⟩ = some (.int .u64 r) :=cell_setCell_eq z0
  have n1 : NF (w.setCell ⟨bz,oz,none⟩ (.int .u64 r)) bz :=fun o => by rw [frozen_setCell];exact nz o
  have g1 : Chg w (w.setCell ⟨bz,oz,none⟩ (.int .u64 r)) (In bz oz 1) :=Chg.setCell _ _ _ _ _ fun _ => ⟨rfl,by omega,by omega⟩
  have r1 : Row .u64 (w.setCell ⟨bz,oz,none⟩ (.int .u64 r)) bz oz (r :: xt) :=hx.setAt 0 r
  rcases (by omega : q = 0 ∨ q = 1) with rfl | rfl
  · have hp1 :=(ptrRun (w.setCell ⟨bz,oz,none⟩ (.int .u64 r)).drew bz oz bz oz c1 c1 n1 n1).2
    simp only [and_self,decide_true,Bool.not_true] at hp1
    go_enter Tryz.func136,Tryz.ntmps136
    go_wp2_with (first
      | (go_at_call 163;refine (ca _).mono ?_;rintro e w' ⟨rfl,hw⟩;rw [hw])
      | (refine wp_region_lit_segs (id :=8) [[0,1,2,3,4]] mixed (by kernel_rfl) ?_;simp only [wpSegsL,gaC,gaN,lZ0,lS0,coS])
      | (refine wp_region_lit_segs (id :=9) [[0,1,2,3,4]] mixed (by kernel_rfl) ?_;simp only [wpSegsL,gaC,gaN,lZ0,lS0,coS])
      | (refine wp_region_lit_segs (id :=17) [[0,1,2,3,4]] mixed (by kernel_rfl) ?_;simp only [wpSegsL,gaC,gaN,lZ0,lS0,coS])
      | (refine wp_region_lit_segs (id :=18) [[0,1,2,3,4,5,6,7,8]] mixed (by kernel_rfl) ?_;simp only [wpSegsL,gaC,gaN,lZ0,lS0,coS])
      | refine ⟨by kernel_rfl,?_⟩)
    refine ⟨_,results_tmp rfl _ _ _,r :: xt,0,rfl,by simp [hlt],r1,(Lt.one cmod).app (fun x h => hbx x (List.mem_cons_of_mem _ h)),addVW_zero _ _ csum,by omega,(g1.inMono (by omega)).drew⟩
  · clear c1 n1
    go_enter Tryz.func136,Tryz.ntmps136
    go_wp2_with (first
      | (go_at_call 163;refine (ca _).mono ?_;rintro e w' ⟨rfl,hw⟩;rw [hw])
      | (refine wp_region_lit_segs (id :=8) [[0,1,2,3,4]] mixed (by kernel_rfl) ?_;simp only [wpSegsL,gaC,gaN,lZ0,lS0,coS])
      | (refine wp_region_lit_segs (id :=9) [[0,1,2,3,4]] mixed (by kernel_rfl) ?_;simp only [wpSegsL,gaC,gaN,lZ0,lS0,coS])
      | (refine wp_region_lit_segs (id :=17) [[0,1,2,3,4]] mixed (by kernel_rfl) ?_;simp only [wpSegsL,gaC,gaN,lZ0,lS0,coS])
      | (refine wp_region_lit_segs (id :=18) [[0,1,2,3,4,5,6,7,8]] mixed (by kernel_rfl) ?_;simp only [wpSegsL,gaC,gaN,lZ0,lS0,coS])
      | refine ⟨by kernel_rfl,?_⟩)
    go_loopw [9] (fun i wr => ∃ (k : Nat) (zs : List Nat),1 ≤ k ∧ k ≤ m + 1 ∧ i = .int .i64 k ∧ zs.length = k ∧ Row .u64 wr bz oz (zs ++ (x0 :: xt).drop k) ∧ Lt W64 zs ∧ val W64 zs + W64 ^ k = val W64 ((x0 :: xt).take k) + y ∧ Chg w wr (In bz oz k)) (fun i _ => m + 1 - (intOf i).toNat)
    case atStart => exact ⟨1,[r],by omega,by omega,rfl,rfl,r1,Lt.one cmod,addVW_start xt csum,g1⟩
    case round =>
      obtain ⟨k,zs,hk1,hk,rfl,hlz,hrz,hltz,hval,hchg⟩ :=hrel
      by_cases hlt2 : k < m + 1
      · have gx : (x0 :: xt)[k]? = some (x0 :: xt)[k] :=List.getElem?_eq_getElem (by simp [hlt];omega)
        have bx1 : (x0 :: xt)[k]'(by simp [hlt];omega) < W64 :=hbx _ (List.getElem_mem _)
        generalize (x0 :: xt)[k]'(by simp [hlt];omega) = x at gx bx1
        have ex : (zs ++ (x0 :: xt).drop k)[k]? = some x :=by rw [drop_get gx,← hlz];simp
        have cx1 :=hrz k x ex
        have cz1 :=cx1
        have fz1 :=((hz.chg hchg) k hlt2).2
        have tk : (x0 :: xt).take (k + 1) = (x0 :: xt).take k ++ [x] :=by obtain ⟨gl,ge⟩ :=List.getElem?_eq_some_iff.1 gx;rw [List.take_succ_eq_append_getElem gl,ge]
        have tl : ((x0 :: xt).take k).length = k :=by simp [hlt];omega
        by_cases hxm : x = 18446744073709551615
        · subst hxm
          go_wp2_with (first
      | (go_at_call 163;refine (ca _).mono ?_;rintro e w' ⟨rfl,hw⟩;rw [hw])
      | (refine wp_region_lit_segs (id :=8) [[0,1,2,3,4]] mixed (by kernel_rfl) ?_;simp only [wpSegsL,gaC,gaN,lZ0,lS0,coS])
      | (refine wp_region_lit_segs (id :=9) [[0,1,2,3,4]] mixed (by kernel_rfl) ?_;simp only [wpSegsL,gaC,gaN,lZ0,lS0,coS])
      | (refine wp_region_lit_segs (id :=17) [[0,1,2,3,4]] mixed (by kernel_rfl) ?_;simp only [wpSegsL,gaC,gaN,lZ0,lS0,coS])
      | (refine wp_region_lit_segs (id :=18) [[0,1,2,3,4,5,6,7,8]] mixed (by kernel_rfl) ?_;simp only [wpSegsL,gaC,gaN,lZ0,lS0,coS])
      | refine ⟨by kernel_rfl,?_⟩)
          go_roundw
          case rel =>
            have hrow :=hrz.setAt k 0
            rw [drop_get gx,append_set hlz] at hrow
            refine ⟨k + 1,zs ++ [0],by omega,hlt2,rfl,by simp [hlz],by simpa using hrow,hltz.snoc (by decide),?_,hchg.store _⟩
            rw [tk,val_snoc,val_snoc,hlz,tl,Nat.pow_succ];exact addVW_more hval rfl
          case measure => simp [intOf];omega
        · obtain ⟨t,rfl⟩ : ∃ t,m = k + t :=⟨m - k,by omega⟩
          have hwrap : (IntKind.u64.wrap ((x : Int) + 1)) = (((x + 1) : Nat) : Int) :=by unfold W64 at bx1;simp [IntKind.wrap,IntKind.bits,IntKind.signed];omega
          have z1 : (wr.setCell ⟨bz,oz + k,none⟩ (.int .u64 ((x : Int) + 1))).cell? ⟨bz,oz,none⟩ = some (.int .u64 (zs[0]'(by omega) : Nat)) :=by rw [cell_setCell_ne (by omega)];exact hrz 0 _ (by rw [List.getElem?_append_left (by omega)];exact List.getElem?_eq_getElem (by omega))
          have nz1 : NF (wr.setCell ⟨bz,oz + k,none⟩ (.int .u64 ((x : Int) + 1))) bz :=fun o => by rw [frozen_setCell];exact nz.chg (lt_of_cell z0) hchg o
          have hp1 :=(ptrRun (wr.setCell ⟨bz,oz + k,none⟩ (.int .u64 ((x : Int) + 1))).drew bz oz bz oz z1 z1 nz1 nz1).2
          simp only [and_self,decide_true,Bool.not_true] at hp1
          have hlast : val W64 (zs ++ (x + 1) :: (x0 :: xt).drop (k + 1)) = val W64 (x0 :: xt) + y :=by rw [val_join hlz,val_split gx];exact addVW_last hval
          have hlt3 : Lt W64 (zs ++ (x + 1) :: (x0 :: xt).drop (k + 1)) :=hltz.app (fun y hy => (List.mem_cons.1 hy).elim (fun h => by clear hval csum;unfold W64 at *;omega) (hbx.drop _ y))
          have hlen : (zs ++ (x + 1) :: (x0 :: xt).drop (k + 1)).length = k + t + 1 :=by simp [hlz,hlt];omega
          have hfin : val W64 (zs ++ (x + 1) :: (x0 :: xt).drop (k + 1)) + W64 ^ (k + t + 1) * 0 = val W64 (x0 :: xt) + y :=by rw [Nat.mul_zero];exact hlast
          clear hlast hval csum
          have hrow :=hrz.setAt k (x + 1)
          rw [drop_get gx,append_set hlz] at hrow
          go_wp2_with (first
      | (go_at_call 163;refine (ca _).mono ?_;rintro e w' ⟨rfl,hw⟩;rw [hw])
      | (refine wp_region_lit_segs (id :=8) [[0,1,2,3,4]] mixed (by kernel_rfl) ?_;simp only [wpSegsL,gaC,gaN,lZ0,lS0,coS])
      | (refine wp_region_lit_segs (id :=9) [[0,1,2,3,4]] mixed (by kernel_rfl) ?_;simp only [wpSegsL,gaC,gaN,lZ0,lS0,coS])
      | (refine wp_region_lit_segs (id :=17) [[0,1,2,3,4]] mixed (by kernel_rfl) ?_;simp only [wpSegsL,gaC,gaN,lZ0,lS0,coS])
      | (refine wp_region_lit_segs (id :=18) [[0,1,2,3,4,5,6,7,8]] mixed (by kernel_rfl) ?_;simp only [wpSegsL,gaC,gaN,lZ0,lS0,coS])
      | refine ⟨by kernel_rfl,?_⟩)
          exact ⟨_,results_tmp rfl _ _ _,zs ++ (x + 1) :: (x0 :: xt).drop (k + 1),0,rfl,hlen,hrow,hlt3,hfin,by omega,((hchg.store _).inMono (by omega)).drew⟩
      · obtain rfl : k = m + 1 :=by omega
        go_wp2_with (first
      | (go_at_call 163;refine (ca _).mono ?_;rintro e w' ⟨rfl,hw⟩;rw [hw])
      | (refine wp_region_lit_segs (id :=8) [[0,1,2,3,4]] mixed (by kernel_rfl) ?_;simp only [wpSegsL,gaC,gaN,lZ0,lS0,coS])
      | (refine wp_region_lit_segs (id :=9) [[0,1,2,3,4]] mixed (by kernel_rfl) ?_;simp only [wpSegsL,gaC,gaN,lZ0,lS0,coS])
      | (refine wp_region_lit_segs (id :=17) [[0,1,2,3,4]] mixed (by kernel_rfl) ?_;simp only [wpSegsL,gaC,gaN,lZ0,lS0,coS])
      | (refine wp_region_lit_segs (id :=18) [[0,1,2,3,4,5,6,7,8]] mixed (by kernel_rfl) ?_;simp only [wpSegsL,gaC,gaN,lZ0,lS0,coS])
      | refine ⟨by kernel_rfl,?_⟩)
        have e1 : (x0 :: xt).take (m + 1) = x0 :: xt :=List.take_of_length_le (by simp [hlt])
        rw [e1] at hval
        refine ⟨_,results_tmp rfl _ _ _,zs,1,rfl,hlz,by rw [List.drop_eq_nil_of_le (by simp [hlt]),List.append_nil] at hrz;exact hrz,hltz,by rw [Nat.mul_one];exact hval,by omega⟩
theorem addVW_apart (w : World) (bz oz bx ox m cz cx y : Nat) (xs : List Nat) (hn : m ≤ Big) (hb : bz ≠ bx) (nx : NF w bx)
    (hx : Row .u64 w bx ox xs) (hlx : xs.length = m + 1) (hbx : Lt W64 xs) (hy : y < W64) (hcz : m + 1 ≤ cz) (hcx : m + 1 ≤ cx) (hz : Wr w bz oz (m + 1)) (nz : NF w bz) :
    Calls Tryz.prog 136 #[.slice (some ⟨bz,oz,none⟩) (m + 1) cz,.slice (some ⟨bx,ox,none⟩) (m + 1) cx,.int .u64 y] w fun e w' => ∃ zs c,e = .returned (.int .u64 (c : Nat)) ∧ zs.length = m + 1 ∧ Row .u64 w' bz oz zs ∧ Lt W64 zs ∧
      val W64 zs + W64 ^ (m + 1) * c = val W64 xs + y ∧ c ≤ 1 ∧ Chg w w' (In bz oz (m + 1)) :=by
  obtain ⟨x0,xt,rfl⟩ : ∃ a l,xs = a :: l :=by
    cases xs with
    | nil => simp at hlx
    | cons a l => exact ⟨a,l,rfl⟩
  have hlt : xt.length = m :=by simpa using hlx
  have c0 :=hx 0 x0 rfl
  simp only [Nat.add_zero] at c0
  have b0 : x0 < W64 :=hbx x0 List.mem_cons_self
  obtain ⟨⟨u0,z0⟩,f0⟩ :=hz 0 (by omega)
  simp only [Nat.add_zero] at z0 f0
  have ca :=bits_Add x0 y 0 (by omega)
  simp only [Nat.add_zero] at ca
  have cdiv : (x0 + y) / W64 ≤ 1 :=by have :=carry_le (c :=0) b0 hy (by omega);simpa using this
  have cmod : (x0 + y) % W64 < W64 :=Nat.mod_lt _ (by decide)
  have csum : (x0 + y) % W64 + W64 * ((x0 + y) / W64) = x0 + y :=Nat.mod_add_div _ _
  unfold Big at hn
  generalize (x0 + y) / W64 = q at *
  generalize (x0 + y) % W64 = r at *
  have c1 : (w.setCell ⟨bz,oz,none⟩ (.int .u64 r)).cell? ⟨bz,oz,none⟩ = some (.int .u64 r) :=cell_setCell_eq z0
  have n1 : NF (w.setCell ⟨bz,oz,none⟩ (.int .u64 r)) bz :=fun o => by rw [frozen_setCell];exact nz o
  have g1 : Chg w (w.setCell ⟨bz,oz,none⟩ (.int .u64 r)) (In bz oz 1) :=Chg.setCell _ _ _ _ _ fun _ => ⟨rfl,by omega,by omega⟩
  have r1 : Row .u64 (w.setCell ⟨bz,oz,none⟩ (.int .u64 r)) bz oz [r] :=Row.one r ⟨u0,z0⟩
  have x1 :=hx.chg g1 (fun j _ h => hb h.1.symm)
  have c2 : (w.setCell ⟨bz,oz,none⟩ (.int .u64 r)).cell? ⟨bx,ox,none⟩ = some (.int .u64 x0) :=x1 0 x0 rfl
  have nx1 : NF (w.setCell ⟨bz,oz,none⟩ (.int .u64 r)) bx :=fun o => by rw [frozen_setCell];exact nx o
  rcases (by omega : q = 0 ∨ q = 1) with rfl | rfl
  · have hp1 :=(ptrRun (w.setCell ⟨bz,oz,none⟩ (.int .u64 r)).drew bz oz bx ox c1 c2 n1 nx1).2
    simp only [hb,false_and,decide_false,Bool.not_false] at hp1
    by_cases hm0 : m = 0
    · subst hm0
      obtain rfl :=List.length_eq_zero_iff.1 hlt
      have hcp :=fun w s s' c c' => run_copy_none (P :=Tryz.prog) w 108 108 3 109 s s' 0 c 0 c' Tryz.underlying108 (by kernel_rfl) rfl
      go_enter Tryz.func136,Tryz.ntmps136
      go_wp2_with (first
      | (go_at_call 163;refine (ca _).mono ?_;rintro e w' ⟨rfl,hw⟩;rw [hw])
      | (refine wp_region_lit_segs (id :=8) [[0,1,2,3,4]] mixed (by kernel_rfl) ?_;simp only [wpSegsL,gaC,gaN,lZ0,lS0,coS])
      | (refine wp_region_lit_segs (id :=9) [[0,1,2,3,4]] mixed (by kernel_rfl) ?_;simp only [wpSegsL,gaC,gaN,lZ0,lS0,coS])
      | (refine wp_region_lit_segs (id :=17) [[0,1,2,3,4]] mixed (by kernel_rfl) ?_;simp only [wpSegsL,gaC,gaN,lZ0,lS0,coS])
      | (refine wp_region_lit_segs (id :=18) [[0,1,2,3,4,5,6,7,8]] mixed (by kernel_rfl) ?_;simp only [wpSegsL,gaC,gaN,lZ0,lS0,coS])
      | refine ⟨by kernel_rfl,?_⟩)
      all_goals exact ⟨_,results_tmp rfl _ _ _,[r],0,rfl,rfl,r1,Lt.one cmod,addVW_zero [] 1 csum,by omega,g1.drew.drew⟩
    · have q1 : ¬ cz = 1 :=by omega
      have q2 : ¬ cx = 1 :=by omega
      have hwr :=Wr.sub (hz.chg g1) 1 m (by omega)
      have hcp :=copyRest (w.setCell ⟨bz,oz,none⟩ (.int .u64 r)).drew.drew bz (oz + 1) bx (ox + 1) m (cz - 1) (cx - 1) xt (Row.drop (xs :=x0 :: xt) x1 1) hlt hwr
      have hch :=Chg.setCells bz (xt.map fun (x : Nat) => Value.int .u64 x) (oz + 1) (w.setCell ⟨bz,oz,none⟩ (.int .u64 r)).drew.drew
      have hrw :=Row.setCells (w :=(w.setCell ⟨bz,oz,none⟩ (.int .u64 r)).drew.drew) (b :=bz) (o :=oz + 1) xt (by rw [hlt];exact hwr)
      go_enter Tryz.func136,Tryz.ntmps136
      go_wp2_with (first
      | (go_at_call 163;refine (ca _).mono ?_;rintro e w' ⟨rfl,hw⟩;rw [hw])
      | (refine wp_region_lit_segs (id :=8) [[0,1,2,3,4]] mixed (by kernel_rfl) ?_;simp only [wpSegsL,gaC,gaN,lZ0,lS0,coS])
      | (refine wp_region_lit_segs (id :=9) [[0,1,2,3,4]] mixed (by kernel_rfl) ?_;simp only [wpSegsL,gaC,gaN,lZ0,lS0,coS])
      | (refine wp_region_lit_segs (id :=17) [[0,1,2,3,4]] mixed (by kernel_rfl) ?_;simp only [wpSegsL,gaC,gaN,lZ0,lS0,coS])
      | (refine wp_region_lit_segs (id :=18) [[0,1,2,3,4,5,6,7,8]] mixed (by kernel_rfl) ?_;simp only [wpSegsL,gaC,gaN,lZ0,lS0,coS])
      | refine ⟨by kernel_rfl,?_⟩)
      refine ⟨_,results_tmp rfl _ _ _,r :: xt,0,rfl,by simp [hlt],Row.app (xs :=[r]) (r1.chg hch.of_drew.of_drew (fun j hj h => by have h2 :=h.2.1;simp at hj;omega)) hrw,(Lt.one cmod).app (fun x h => hbx x (List.mem_cons_of_mem _ h)),addVW_zero _ _ csum,by omega,?_⟩
      exact (g1.mono fun b o _ h => ⟨h.1,h.2.1,by have :=h.2.2;omega⟩).trans hch.of_drew.of_drew fun b o _ h => ⟨h.1,by have :=h.2.1;omega,by have :=h.2.2;simp [hlt] at this;omega⟩
  · clear c1 n1 c2 nx1
    go_enter Tryz.func136,Tryz.ntmps136
    go_wp2_with (first
      | (go_at_call 163;refine (ca _).mono ?_;rintro e w' ⟨rfl,hw⟩;rw [hw])
      | (refine wp_region_lit_segs (id :=8) [[0,1,2,3,4]] mixed (by kernel_rfl) ?_;simp only [wpSegsL,gaC,gaN,lZ0,lS0,coS])
      | (refine wp_region_lit_segs (id :=9) [[0,1,2,3,4]] mixed (by kernel_rfl) ?_;simp only [wpSegsL,gaC,gaN,lZ0,lS0,coS])
      | (refine wp_region_lit_segs (id :=17) [[0,1,2,3,4]] mixed (by kernel_rfl) ?_;simp only [wpSegsL,gaC,gaN,lZ0,lS0,coS])
      | (refine wp_region_lit_segs (id :=18) [[0,1,2,3,4,5,6,7,8]] mixed (by kernel_rfl) ?_;simp only [wpSegsL,gaC,gaN,lZ0,lS0,coS])
      | refine ⟨by kernel_rfl,?_⟩)
    go_loopw [9] (fun i wr => ∃ (k : Nat) (zs : List Nat),1 ≤ k ∧ k ≤ m + 1 ∧ i = .int .i64 k ∧ zs.length = k ∧ Row .u64 wr bz oz zs ∧ Lt W64 zs ∧ val W64 zs + W64 ^ k = val W64 ((x0 :: xt).take k) + y ∧ Chg w wr (In bz oz k)) (fun i _ => m + 1 - (intOf i).toNat)
    case atStart => exact ⟨1,[r],by omega,by omega,rfl,rfl,r1,Lt.one cmod,addVW_start xt csum,g1⟩
    case round =>
      obtain ⟨k,zs,hk1,hk,rfl,hlz,hrz,hltz,hval,hchg⟩ :=hrel
      by_cases hlt2 : k < m + 1
      · have gx : (x0 :: xt)[k]? = some (x0 :: xt)[k] :=List.getElem?_eq_getElem (by simp [hlt];omega)
        have bx1 : (x0 :: xt)[k]'(by simp [hlt];omega) < W64 :=hbx _ (List.getElem_mem _)
        generalize (x0 :: xt)[k]'(by simp [hlt];omega) = x at gx bx1
        have xr :=hx.chg hchg (fun j _ h => hb h.1.symm)
        have cx1 :=xr k x gx
        obtain ⟨u,cz1⟩ :=((hz.chg hchg) k hlt2).1
        have fz1 :=((hz.chg hchg) k hlt2).2
        have tk : (x0 :: xt).take (k + 1) = (x0 :: xt).take k ++ [x] :=by obtain ⟨gl,ge⟩ :=List.getElem?_eq_some_iff.1 gx;rw [List.take_succ_eq_append_getElem gl,ge]
        have tl : ((x0 :: xt).take k).length = k :=by simp [hlt];omega
        by_cases hxm : x = 18446744073709551615
        · subst hxm
          go_wp2_with (first
      | (go_at_call 163;refine (ca _).mono ?_;rintro e w' ⟨rfl,hw⟩;rw [hw])
      | (refine wp_region_lit_segs (id :=8) [[0,1,2,3,4]] mixed (by kernel_rfl) ?_;simp only [wpSegsL,gaC,gaN,lZ0,lS0,coS])
      | (refine wp_region_lit_segs (id :=9) [[0,1,2,3,4]] mixed (by kernel_rfl) ?_;simp only [wpSegsL,gaC,gaN,lZ0,lS0,coS])
      | (refine wp_region_lit_segs (id :=17) [[0,1,2,3,4]] mixed (by kernel_rfl) ?_;simp only [wpSegsL,gaC,gaN,lZ0,lS0,coS])
      | (refine wp_region_lit_segs (id :=18) [[0,1,2,3,4,5,6,7,8]] mixed (by kernel_rfl) ?_;simp only [wpSegsL,gaC,gaN,lZ0,lS0,coS])
      | refine ⟨by kernel_rfl,?_⟩)
          go_roundw
          case rel =>
            have hrow :=hrz.store 0 ⟨u,by rw [hlz];exact cz1⟩
            rw [hlz] at hrow
            refine ⟨k + 1,zs ++ [0],by omega,hlt2,rfl,by simp [hlz],hrow,hltz.snoc (by decide),?_,hchg.store _⟩
            rw [tk,val_snoc,val_snoc,hlz,tl,Nat.pow_succ];exact addVW_more hval rfl
          case measure => simp [intOf];omega
        · obtain ⟨t,rfl⟩ : ∃ t,m = k + t :=⟨m - k,by omega⟩
          have hwrap : (IntKind.u64.wrap ((x : Int) + 1)) = (((x + 1) : Nat) : Int) :=by unfold W64 at bx1;simp [IntKind.wrap,IntKind.bits,IntKind.signed];omega
          have z1 : (wr.setCell ⟨bz,oz + k,none⟩ (.int .u64 ((x : Int) + 1))).cell? ⟨bz,oz,none⟩ = some (.int .u64 (zs[0]'(by omega) : Nat)) :=by rw [cell_setCell_ne (by omega)];exact hrz.cell 0 (by omega)
          have nz1 : NF (wr.setCell ⟨bz,oz + k,none⟩ (.int .u64 ((x : Int) + 1))) bz :=fun o => by rw [frozen_setCell];exact nz.chg (lt_of_cell z0) hchg o
          have xx :=xr.chg (Chg.setCell wr bz (oz + k) (.int .u64 ((x : Int) + 1)) (fun b _ => b = bz) fun _ => rfl) (fun j _ h => hb h.symm)
          have z2 : (wr.setCell ⟨bz,oz + k,none⟩ (.int .u64 ((x : Int) + 1))).cell? ⟨bx,ox,none⟩ = some (.int .u64 x0) :=xx 0 x0 rfl
          have nx1 : NF (wr.setCell ⟨bz,oz + k,none⟩ (.int .u64 ((x : Int) + 1))) bx :=fun o => by rw [frozen_setCell];exact nx.chg (lt_of_cell c0) hchg o
          have hp1 :=(ptrRun (wr.setCell ⟨bz,oz + k,none⟩ (.int .u64 ((x : Int) + 1))).drew bz oz bx ox z1 z2 nz1 nx1).2
          simp only [hb,false_and,decide_false,Bool.not_false] at hp1
          have hlast : val W64 (zs ++ (x + 1) :: (x0 :: xt).drop (k + 1)) = val W64 (x0 :: xt) + y :=by rw [val_join hlz,val_split gx];exact addVW_last hval
          have hlt3 : Lt W64 (zs ++ (x + 1) :: (x0 :: xt).drop (k + 1)) :=hltz.app (fun y hy => (List.mem_cons.1 hy).elim (fun h => by clear hval csum;unfold W64 at *;omega) (hbx.drop _ y))
          have hlen : (zs ++ (x + 1) :: (x0 :: xt).drop (k + 1)).length = k + t + 1 :=by simp [hlz,hlt];omega
          have hfin : val W64 (zs ++ (x + 1) :: (x0 :: xt).drop (k + 1)) + W64 ^ (k + t + 1) * 0 = val W64 (x0 :: xt) + y :=by rw [Nat.mul_zero];exact hlast
          clear hlast hval csum
          have g2 : Chg w (wr.setCell ⟨bz,oz + k,none⟩ (.int .u64 ((x : Int) + 1))) (In bz oz (k + 1)) :=hchg.store _
          have hrow :=hrz.store (x + 1) ⟨u,by rw [hlz];exact cz1⟩
          rw [hlz] at hrow
          by_cases ht0 : t = 0
          · subst ht0
            have hd : (x0 :: xt).drop (k + 1) = [] :=List.drop_eq_nil_of_le (by simp [hlt])
            rw [hd] at hlen hlt3 hfin
            have hcp :=fun w s s' c c' => run_copy_none (P :=Tryz.prog) w 108 108 3 109 s s' 0 c 0 c' Tryz.underlying108 (by kernel_rfl) rfl
            go_wp2_with (first
      | (go_at_call 163;refine (ca _).mono ?_;rintro e w' ⟨rfl,hw⟩;rw [hw])
      | (refine wp_region_lit_segs (id :=8) [[0,1,2,3,4]] mixed (by kernel_rfl) ?_;simp only [wpSegsL,gaC,gaN,lZ0,lS0,coS])
      | (refine wp_region_lit_segs (id :=9) [[0,1,2,3,4]] mixed (by kernel_rfl) ?_;simp only [wpSegsL,gaC,gaN,lZ0,lS0,coS])
      | (refine wp_region_lit_segs (id :=17) [[0,1,2,3,4]] mixed (by kernel_rfl) ?_;simp only [wpSegsL,gaC,gaN,lZ0,lS0,coS])
      | (refine wp_region_lit_segs (id :=18) [[0,1,2,3,4,5,6,7,8]] mixed (by kernel_rfl) ?_;simp only [wpSegsL,gaC,gaN,lZ0,lS0,coS])
      | refine ⟨by kernel_rfl,?_⟩)
            all_goals exact ⟨_,results_tmp rfl _ _ _,zs ++ [(x + 1)],0,rfl,hlen,hrow,hlt3,hfin,by omega,g2.drew.drew⟩
          · have q1 : ¬ cz = k + 1 :=by omega
            have q2 : ¬ cx = k + 1 :=by omega
            have hld : ((x0 :: xt).drop (k + 1)).length = t :=by simp [hlt]
            have hwr :=Wr.sub (hz.chg (hchg.store (.int .u64 ((x : Int) + 1)))) (k + 1) t (by omega)
            have xd :=xx.drop (k + 1)
            generalize (x0 :: xt).drop (k + 1) = ts at hld xd hlen hlt3 hfin
            have hcp :=copyRest (wr.setCell ⟨bz,oz + k,none⟩ (.int .u64 ((x : Int) + 1))).drew.drew bz (oz + (k + 1)) bx (ox + (k + 1)) t (cz - (k + 1)) (cx - (k + 1)) ts xd hld hwr
            have hch :=Chg.setCells bz (ts.map fun (x : Nat) => Value.int .u64 x) (oz + (k + 1)) (wr.setCell ⟨bz,oz + k,none⟩ (.int .u64 ((x : Int) + 1))).drew.drew
            have hrw :=Row.setCells (w :=(wr.setCell ⟨bz,oz + k,none⟩ (.int .u64 ((x : Int) + 1))).drew.drew) (b :=bz) (o :=oz + (k + 1)) ts (by rw [hld];exact hwr)
            have hmap : (ts.map fun (x : Nat) => Value.int .u64 x).length = t :=by simp [hld]
            rw [hmap] at hch
            have hro :=Row.app (xs :=zs ++ [(x + 1)]) (hrow.chg hch.of_drew.of_drew (fun j hj h => by have h2 :=h.2.1;simp [hlz] at hj;omega)) (by rw [List.length_append,hlz];exact hrw)
            rw [List.append_assoc] at hro
            have hchF :=(g2.mono fun b o _ h => (⟨h.1,h.2.1,by have :=h.2.2;omega⟩ : In bz oz (k + t + 1) b o)).trans hch.of_drew.of_drew fun b o _ h => ⟨h.1,by have :=h.2.1;omega,by have :=h.2.2;omega⟩
            clear hch hrw hrow
            go_wp2_with (first
      | (go_at_call 163;refine (ca _).mono ?_;rintro e w' ⟨rfl,hw⟩;rw [hw])
      | (refine wp_region_lit_segs (id :=8) [[0,1,2,3,4]] mixed (by kernel_rfl) ?_;simp only [wpSegsL,gaC,gaN,lZ0,lS0,coS])
      | (refine wp_region_lit_segs (id :=9) [[0,1,2,3,4]] mixed (by kernel_rfl) ?_;simp only [wpSegsL,gaC,gaN,lZ0,lS0,coS])
      | (refine wp_region_lit_segs (id :=17) [[0,1,2,3,4]] mixed (by kernel_rfl) ?_;simp only [wpSegsL,gaC,gaN,lZ0,lS0,coS])
      | (refine wp_region_lit_segs (id :=18) [[0,1,2,3,4,5,6,7,8]] mixed (by kernel_rfl) ?_;simp only [wpSegsL,gaC,gaN,lZ0,lS0,coS])
      | refine ⟨by kernel_rfl,?_⟩)
            exact ⟨_,results_tmp rfl _ _ _,zs ++ (x + 1) :: ts,0,rfl,hlen,hro,hlt3,hfin,by omega,hchF⟩
      · obtain rfl : k = m + 1 :=by omega
        go_wp2_with (first
      | (go_at_call 163;refine (ca _).mono ?_;rintro e w' ⟨rfl,hw⟩;rw [hw])
      | (refine wp_region_lit_segs (id :=8) [[0,1,2,3,4]] mixed (by kernel_rfl) ?_;simp only [wpSegsL,gaC,gaN,lZ0,lS0,coS])
      | (refine wp_region_lit_segs (id :=9) [[0,1,2,3,4]] mixed (by kernel_rfl) ?_;simp only [wpSegsL,gaC,gaN,lZ0,lS0,coS])
      | (refine wp_region_lit_segs (id :=17) [[0,1,2,3,4]] mixed (by kernel_rfl) ?_;simp only [wpSegsL,gaC,gaN,lZ0,lS0,coS])
      | (refine wp_region_lit_segs (id :=18) [[0,1,2,3,4,5,6,7,8]] mixed (by kernel_rfl) ?_;simp only [wpSegsL,gaC,gaN,lZ0,lS0,coS])
      | refine ⟨by kernel_rfl,?_⟩)
        have e1 : (x0 :: xt).take (m + 1) = x0 :: xt :=List.take_of_length_le (by simp [hlt])
        rw [e1] at hval
        refine ⟨_,results_tmp rfl _ _ _,zs,1,rfl,hlz,hrz,hltz,by rw [Nat.mul_one];exact hval,by omega⟩
theorem subVW_same (w : World) (bz oz m cz cx y : Nat) (xs : List Nat) (hn : m ≤ Big)
    (hx : Row .u64 w bz oz xs) (hlx : xs.length = m + 1) (hbx : Lt W64 xs) (hy : y < W64) (hcz : m + 1 ≤ cz) (hcx : m + 1 ≤ cx) (hz : Wr w bz oz (m + 1)) (nz : NF w bz) :
    Calls Tryz.prog 138 #[.slice (some ⟨bz,oz,none⟩) (m + 1) cz,.slice (some ⟨bz,oz,none⟩) (m + 1) cx,.int .u64 y] w fun e w' => ∃ zs c,e = .returned (.int .u64 (c : Nat)) ∧ zs.length = m + 1 ∧ Row .u64 w' bz oz zs ∧ Lt W64 zs ∧
      val W64 zs + y = val W64 xs + W64 ^ (m + 1) * c ∧ c ≤ 1 ∧ Chg w w' (In bz oz (m + 1)) :=by
  obtain ⟨x0,xt,rfl⟩ : ∃ a l,xs = a :: l :=by
    cases xs with
    | nil => simp at hlx
    | cons a l => exact ⟨a,l,rfl⟩
  have hlt : xt.length = m :=by simpa using hlx
  have c0 :=hx 0 x0 rfl
  simp only [Nat.add_zero] at c0
  have b0 : x0 < W64 :=hbx x0 List.mem_cons_self
  obtain ⟨⟨u0,z0⟩,f0⟩ :=hz 0 (by omega)
  simp only [Nat.add_zero] at z0 f0
  have ca :=bits_Sub x0 y 0 (by omega)
  simp only [Nat.add_zero,Nat.sub_zero] at ca
  have cmod : (x0 + W64 - y) % W64 < W64 :=Nat.mod_lt _ (by decide)
  have csum : (x0 + W64 - y) % W64 + y = x0 + W64 * (if x0 < y then 1 else 0) :=by
    have :=sub_step (c :=0) b0 hy (by omega)
    simpa using this
  unfold Big at hn
  generalize (x0 + W64 - y) % W64 = r at *
  have cdiv : (if x0 < y then 1 else 0) ≤ 1 :=by split <;> omega
  generalize (if x0 < y then 1 else 0) = q at *
  have c1 : (w.setCell ⟨bz,oz,none⟩ (.int .u64 r)).cell? ⟨bz,oz,none⟩ = some (.int .u64 r) :=cell_setCell_eq z0
  have n1 : NF (w.setCell ⟨bz,oz,none⟩ (.int .u64 r)) bz :=fun o => by rw [frozen_setCell];exact nz o
  have g1 : Chg w (w.setCell ⟨bz,oz,none⟩ (.int .u64 r)) (In bz oz 1) :=Chg.setCell _ _ _ _ _ fun _ => ⟨rfl,by omega,by omega⟩
  have r1 : Row .u64 (w.setCell ⟨bz,oz,none⟩ (.int .u64 r)) bz oz (r :: xt) :=hx.setAt 0 r
  rcases (by omega : q = 0 ∨ q = 1) with rfl | rfl
  · have hp1 :=(ptrRun (w.setCell ⟨bz,oz,none⟩ (.int .u64 r)).drew bz oz bz oz c1 c1 n1 n1).2
    simp only [and_self,decide_true,Bool.not_true] at hp1
    go_enter Tryz.func138,Tryz.ntmps138
    go_wp2_with (first
      | (go_at_call 165;refine (ca _).mono ?_;rintro e w' ⟨rfl,hw⟩;rw [hw])
      | (refine wp_region_lit_segs (id :=8) [[0,1,2,3,4]] mixed (by kernel_rfl) ?_;simp only [wpSegsL,gaC,gaN,lZ0,lS0,coS])
      | (refine wp_region_lit_segs (id :=9) [[0,1,2,3,4]] mixed (by kernel_rfl) ?_;simp only [wpSegsL,gaC,gaN,lZ0,lS0,coS])
      | (refine wp_region_lit_segs (id :=17) [[0,1,2,3,4]] mixed (by kernel_rfl) ?_;simp only [wpSegsL,gaC,gaN,lZ0,lS0,coS])
      | (refine wp_region_lit_segs (id :=18) [[0,1,2,3,4,5,6,7,8]] mixed (by kernel_rfl) ?_;simp only [wpSegsL,gaC,gaN,lZ0,lS0,coS])
      | refine ⟨by kernel_rfl,?_⟩)
    refine ⟨_,results_tmp rfl _ _ _,r :: xt,0,rfl,by simp [hlt],r1,(Lt.one cmod).app (fun x h => hbx x (List.mem_cons_of_mem _ h)),subVW_zero _ _ csum,by omega,(g1.inMono (by omega)).drew⟩
  · clear c1 n1
    go_enter Tryz.func138,Tryz.ntmps138
    go_wp2_with (first
      | (go_at_call 165;refine (ca _).mono ?_;rintro e w' ⟨rfl,hw⟩;rw [hw])
      | (refine wp_region_lit_segs (id :=8) [[0,1,2,3,4]] mixed (by kernel_rfl) ?_;simp only [wpSegsL,gaC,gaN,lZ0,lS0,coS])
      | (refine wp_region_lit_segs (id :=9) [[0,1,2,3,4]] mixed (by kernel_rfl) ?_;simp only [wpSegsL,gaC,gaN,lZ0,lS0,coS])
      | (refine wp_region_lit_segs (id :=17) [[0,1,2,3,4]] mixed (by kernel_rfl) ?_;simp only [wpSegsL,gaC,gaN,lZ0,lS0,coS])
      | (refine wp_region_lit_segs (id :=18) [[0,1,2,3,4,5,6,7,8]] mixed (by kernel_rfl) ?_;simp only [wpSegsL,gaC,gaN,lZ0,lS0,coS])
      | refine ⟨by kernel_rfl,?_⟩)
    go_loopw [9] (fun i wr => ∃ (k : Nat) (zs : List Nat),1 ≤ k ∧ k ≤ m + 1 ∧ i = .int .i64 k ∧ zs.length = k ∧ Row .u64 wr bz oz (zs ++ (x0 :: xt).drop k) ∧ Lt W64 zs ∧ val W64 zs + y = val W64 ((x0 :: xt).take k) + W64 ^ k ∧ Chg w wr (In bz oz k)) (fun i _ => m + 1 - (intOf i).toNat)
    case atStart => exact ⟨1,[r],by omega,by omega,rfl,rfl,r1,Lt.one cmod,subVW_start xt csum,g1⟩
    case round =>
      obtain ⟨k,zs,hk1,hk,rfl,hlz,hrz,hltz,hval,hchg⟩ :=hrel
      by_cases hlt2 : k < m + 1
      · have gx : (x0 :: xt)[k]? = some (x0 :: xt)[k] :=List.getElem?_eq_getElem (by simp [hlt];omega)
        have bx1 : (x0 :: xt)[k]'(by simp [hlt];omega) < W64 :=hbx _ (List.getElem_mem _)
        generalize (x0 :: xt)[k]'(by simp [hlt];omega) = x at gx bx1
        have ex : (zs ++ (x0 :: xt).drop k)[k]? = some x :=by rw [drop_get gx,← hlz];simp
        have cx1 :=hrz k x ex
        have cz1 :=cx1
        have fz1 :=((hz.chg hchg) k hlt2).2
        have tk : (x0 :: xt).take (k + 1) = (x0 :: xt).take k ++ [x] :=by obtain ⟨gl,ge⟩ :=List.getElem?_eq_some_iff.1 gx;rw [List.take_succ_eq_append_getElem gl,ge]
        have tl : ((x0 :: xt).take k).length = k :=by simp [hlt];omega
        by_cases hxm : x = 0
        · subst hxm
          go_wp2_with (first
      | (go_at_call 165;refine (ca _).mono ?_;rintro e w' ⟨rfl,hw⟩;rw [hw])
      | (refine wp_region_lit_segs (id :=8) [[0,1,2,3,4]] mixed (by kernel_rfl) ?_;simp only [wpSegsL,gaC,gaN,lZ0,lS0,coS])
      | (refine wp_region_lit_segs (id :=9) [[0,1,2,3,4]] mixed (by kernel_rfl) ?_;simp only [wpSegsL,gaC,gaN,lZ0,lS0,coS])
      | (refine wp_region_lit_segs (id :=17) [[0,1,2,3,4]] mixed (by kernel_rfl) ?_;simp only [wpSegsL,gaC,gaN,lZ0,lS0,coS])
      | (refine wp_region_lit_segs (id :=18) [[0,1,2,3,4,5,6,7,8]] mixed (by kernel_rfl) ?_;simp only [wpSegsL,gaC,gaN,lZ0,lS0,coS])
      | refine ⟨by kernel_rfl,?_⟩)
          go_roundw
          case rel =>
            have hrow :=hrz.setAt k 18446744073709551615
            rw [drop_get gx,append_set hlz] at hrow
            refine ⟨k + 1,zs ++ [18446744073709551615],by omega,hlt2,rfl,by simp [hlz],by simpa using hrow,hltz.snoc (by decide),?_,hchg.store _⟩
            rw [tk,val_snoc,val_snoc,hlz,tl,Nat.pow_succ];exact subVW_more hval rfl
          case measure => simp [intOf];omega
        · obtain ⟨t,rfl⟩ : ∃ t,m = k + t :=⟨m - k,by omega⟩
          obtain ⟨x,rfl⟩ : ∃ y,x = y + 1 :=⟨x - 1,by omega⟩
          have hwrap : (IntKind.u64.wrap (x : Int)) = ((x : Nat) : Int) :=by unfold W64 at bx1;simp [IntKind.wrap,IntKind.bits,IntKind.signed];omega
          have z1 : (wr.setCell ⟨bz,oz + k,none⟩ (.int .u64 (x : Int))).cell? ⟨bz,oz,none⟩ = some (.int .u64 (zs[0]'(by omega) : Nat)) :=by rw [cell_setCell_ne (by omega)];exact hrz 0 _ (by rw [List.getElem?_append_left (by omega)];exact List.getElem?_eq_getElem (by omega))
          have nz1 : NF (wr.setCell ⟨bz,oz + k,none⟩ (.int .u64 (x : Int))) bz :=fun o => by rw [frozen_setCell];exact nz.chg (lt_of_cell z0) hchg o
          have hp1 :=(ptrRun (wr.setCell ⟨bz,oz + k,none⟩ (.int .u64 (x : Int))).drew bz oz bz oz z1 z1 nz1 nz1).2
          simp only [and_self,decide_true,Bool.not_true] at hp1
          have hlast : val W64 (zs ++ x :: (x0 :: xt).drop (k + 1)) + y = val W64 (x0 :: xt) :=by rw [val_join hlz,val_split gx];exact subVW_last hval
          have hlt3 : Lt W64 (zs ++ x :: (x0 :: xt).drop (k + 1)) :=hltz.app (fun y hy => (List.mem_cons.1 hy).elim (fun h => by clear hval csum;unfold W64 at *;omega) (hbx.drop _ y))
          have hlen : (zs ++ x :: (x0 :: xt).drop (k + 1)).length = k + t + 1 :=by simp [hlz,hlt];omega
          have hfin : val W64 (zs ++ x :: (x0 :: xt).drop (k + 1)) + y = val W64 (x0 :: xt) + W64 ^ (k + t + 1) * 0 :=by rw [Nat.mul_zero];exact hlast
          clear hlast hval csum
          have hrow :=hrz.setAt k x
          rw [drop_get gx,append_set hlz] at hrow
          go_wp2_with (first
      | (go_at_call 165;refine (ca _).mono ?_;rintro e w' ⟨rfl,hw⟩;rw [hw])
      | (refine wp_region_lit_segs (id :=8) [[0,1,2,3,4]] mixed (by kernel_rfl) ?_;simp only [wpSegsL,gaC,gaN,lZ0,lS0,coS])
      | (refine wp_region_lit_segs (id :=9) [[0,1,2,3,4]] mixed (by kernel_rfl) ?_;simp only [wpSegsL,gaC,gaN,lZ0,lS0,coS])
      | (refine wp_region_lit_segs (id :=17) [[0,1,2,3,4]] mixed (by kernel_rfl) ?_;simp only [wpSegsL,gaC,gaN,lZ0,lS0,coS])
      | (refine wp_region_lit_segs (id :=18) [[0,1,2,3,4,5,6,7,8]] mixed (by kernel_rfl) ?_;simp only [wpSegsL,gaC,gaN,lZ0,lS0,coS])
      | refine ⟨by kernel_rfl,?_⟩)
          exact ⟨_,results_tmp rfl _ _ _,zs ++ x :: (x0 :: xt).drop (k + 1),0,rfl,hlen,hrow,hlt3,hfin,by omega,((hchg.store _).inMono (by omega)).drew⟩
      · obtain rfl : k = m + 1 :=by omega
        go_wp2_with (first
      | (go_at_call 165;refine (ca _).mono ?_;rintro e w' ⟨rfl,hw⟩;rw [hw])
      | (refine wp_region_lit_segs (id :=8) [[0,1,2,3,4]] mixed (by kernel_rfl) ?_;simp only [wpSegsL,gaC,gaN,lZ0,lS0,coS])
      | (refine wp_region_lit_segs (id :=9) [[0,1,2,3,4]] mixed (by kernel_rfl) ?_;simp only [wpSegsL,gaC,gaN,lZ0,lS0,coS])
      | (refine wp_region_lit_segs (id :=17) [[0,1,2,3,4]] mixed (by kernel_rfl) ?_;simp only [wpSegsL,gaC,gaN,lZ0,lS0,coS])
      | (refine wp_region_lit_segs (id :=18) [[0,1,2,3,4,5,6,7,8]] mixed (by kernel_rfl) ?_;simp only [wpSegsL,gaC,gaN,lZ0,lS0,coS])
      | refine ⟨by kernel_rfl,?_⟩)
        have e1 : (x0 :: xt).take (m + 1) = x0 :: xt :=List.take_of_length_le (by simp [hlt])
        rw [e1] at hval
        refine ⟨_,results_tmp rfl _ _ _,zs,1,rfl,hlz,by rw [List.drop_eq_nil_of_le (by simp [hlt]),List.append_nil] at hrz;exact hrz,hltz,by rw [Nat.mul_one];exact hval,by omega⟩
theorem subVW_apart (w : World) (bz oz bx ox m cz cx y : Nat) (xs : List Nat) (hn : m ≤ Big) (hb : bz ≠ bx) (nx : NF w bx)
    (hx : Row .u64 w bx ox xs) (hlx : xs.length = m + 1) (hbx : Lt W64 xs) (hy : y < W64) (hcz : m + 1 ≤ cz) (hcx : m + 1 ≤ cx) (hz : Wr w bz oz (m + 1)) (nz : NF w bz) :
    Calls Tryz.prog 138 #[.slice (some ⟨bz,oz,none⟩) (m + 1) cz,.slice (some ⟨bx,ox,none⟩) (m + 1) cx,.int .u64 y] w fun e w' => ∃ zs c,e = .returned (.int .u64 (c : Nat)) ∧ zs.length = m + 1 ∧ Row .u64 w' bz oz zs ∧ Lt W64 zs ∧
      val W64 zs + y = val W64 xs + W64 ^ (m + 1) * c ∧ c ≤ 1 ∧ Chg w w' (In bz oz (m + 1)) :=by
  obtain ⟨x0,xt,rfl⟩ : ∃ a l,xs = a :: l :=by
    cases xs with
    | nil => simp at hlx
    | cons a l => exact ⟨a,l,rfl⟩
  have hlt : xt.length = m :=by simpa using hlx
  have c0 :=hx 0 x0 rfl
  simp only [Nat.add_zero] at c0
  have b0 : x0 < W64 :=hbx x0 List.mem_cons_self
  obtain ⟨⟨u0,z0⟩,f0⟩ :=hz 0 (by omega)
  simp only [Nat.add_zero] at z0 f0
  have ca :=bits_Sub x0 y 0 (by omega)
  simp only [Nat.add_zero,Nat.sub_zero] at ca
  have cmod : (x0 + W64 - y) % W64 < W64 :=Nat.mod_lt _ (by decide)
  have csum : (x0 + W64 - y) % W64 + y = x0 + W64 * (if x0 < y then 1 else 0) :=by
    have :=sub_step (c :=0) b0 hy (by omega)
    simpa using this
  unfold Big at hn
  generalize (x0 + W64 - y) % W64 = r at *
  have cdiv : (if x0 < y then 1 else 0) ≤ 1 :=by split <;> omega
  generalize (if x0 < y then 1 else 0) = q at *
  have c1 : (w.setCell ⟨bz,oz,none⟩ (.int .u64 r)).cell? ⟨bz,oz,none⟩ = some (.int .u64 r) :=cell_setCell_eq z0
  have n1 : NF (w.setCell ⟨bz,oz,none⟩ (.int .u64 r)) bz :=fun o => by rw [frozen_setCell];exact nz o
  have g1 : Chg w (w.setCell ⟨bz,oz,none⟩ (.int .u64 r)) (In bz oz 1) :=Chg.setCell _ _ _ _ _ fun _ => ⟨rfl,by omega,by omega⟩
  have r1 : Row .u64 (w.setCell ⟨bz,oz,none⟩ (.int .u64 r)) bz oz [r] :=Row.one r ⟨u0,z0⟩
  have x1 :=hx.chg g1 (fun j _ h => hb h.1.symm)
  have c2 : (w.setCell ⟨bz,oz,none⟩ (.int .u64 r)).cell? ⟨bx,ox,none⟩ = some (.int .u64 x0) :=x1 0 x0 rfl
  have nx1 : NF (w.setCell ⟨bz,oz,none⟩ (.int .u64 r)) bx :=fun o => by rw [frozen_setCell];exact nx o
  rcases (by omega : q = 0 ∨ q = 1) with rfl | rfl
  · have hp1 :=(ptrRun (w.setCell ⟨bz,oz,none⟩ (.int .u64 r)).drew bz oz bx ox c1 c2 n1 nx1).2
    simp only [hb,false_and,decide_false,Bool.not_false] at hp1
    by_cases hm0 : m = 0
    · subst hm0
      obtain rfl :=List.length_eq_zero_iff.1 hlt
      have hcp :=fun w s s' c c' => run_copy_none (P :=Tryz.prog) w 108 108 3 109 s s' 0 c 0 c' Tryz.underlying108 (by kernel_rfl) rfl
      go_enter Tryz.func138,Tryz.ntmps138
      go_wp2_with (first
      | (go_at_call 165;refine (ca _).mono ?_;rintro e w' ⟨rfl,hw⟩;rw [hw])
      | (refine wp_region_lit_segs (id :=8) [[0,1,2,3,4]] mixed (by kernel_rfl) ?_;simp only [wpSegsL,gaC,gaN,lZ0,lS0,coS])
      | (refine wp_region_lit_segs (id :=9) [[0,1,2,3,4]] mixed (by kernel_rfl) ?_;simp only [wpSegsL,gaC,gaN,lZ0,lS0,coS])
      | (refine wp_region_lit_segs (id :=17) [[0,1,2,3,4]] mixed (by kernel_rfl) ?_;simp only [wpSegsL,gaC,gaN,lZ0,lS0,coS])
      | (refine wp_region_lit_segs (id :=18) [[0,1,2,3,4,5,6,7,8]] mixed (by kernel_rfl) ?_;simp only [wpSegsL,gaC,gaN,lZ0,lS0,coS])
      | refine ⟨by kernel_rfl,?_⟩)
      all_goals exact ⟨_,results_tmp rfl _ _ _,[r],0,rfl,rfl,r1,Lt.one cmod,subVW_zero [] 1 csum,by omega,g1.drew.drew⟩
    · have q1 : ¬ cz = 1 :=by omega
      have q2 : ¬ cx = 1 :=by omega
      have hwr :=Wr.sub (hz.chg g1) 1 m (by omega)
      have hcp :=copyRest (w.setCell ⟨bz,oz,none⟩ (.int .u64 r)).drew.drew bz (oz + 1) bx (ox + 1) m (cz - 1) (cx - 1) xt (Row.drop (xs :=x0 :: xt) x1 1) hlt hwr
      have hch :=Chg.setCells bz (xt.map fun (x : Nat) => Value.int .u64 x) (oz + 1) (w.setCell ⟨bz,oz,none⟩ (.int .u64 r)).drew.drew
      have hrw :=Row.setCells (w :=(w.setCell ⟨bz,oz,none⟩ (.int .u64 r)).drew.drew) (b :=bz) (o :=oz + 1) xt (by rw [hlt];exact hwr)
      go_enter Tryz.func138,Tryz.ntmps138
      go_wp2_with (first
      | (go_at_call 165;refine (ca _).mono ?_;rintro e w' ⟨rfl,hw⟩;rw [hw])
      | (refine wp_region_lit_segs (id :=8) [[0,1,2,3,4]] mixed (by kernel_rfl) ?_;simp only [wpSegsL,gaC,gaN,lZ0,lS0,coS])
      | (refine wp_region_lit_segs (id :=9) [[0,1,2,3,4]] mixed (by kernel_rfl) ?_;simp only [wpSegsL,gaC,gaN,lZ0,lS0,coS])
      | (refine wp_region_lit_segs (id :=17) [[0,1,2,3,4]] mixed (by kernel_rfl) ?_;simp only [wpSegsL,gaC,gaN,lZ0,lS0,coS])
      | (refine wp_region_lit_segs (id :=18) [[0,1,2,3,4,5,6,7,8]] mixed (by kernel_rfl) ?_;simp only [wpSegsL,gaC,gaN,lZ0,lS0,coS])
      | refine ⟨by kernel_rfl,?_⟩)
      refine ⟨_,results_tmp rfl _ _ _,r :: xt,0,rfl,by simp [hlt],Row.app (xs :=[r]) (r1.chg hch.of_drew.of_drew (fun j hj h => by have h2 :=h.2.1;simp at hj;omega)) hrw,(Lt.one cmod).app (fun x h => hbx x (List.mem_cons_of_mem _ h)),subVW_zero _ _ csum,by omega,?_⟩
      exact (g1.mono fun b o _ h => ⟨h.1,h.2.1,by have :=h.2.2;omega⟩).trans hch.of_drew.of_drew fun b o _ h => ⟨h.1,by have :=h.2.1;omega,by have :=h.2.2;simp [hlt] at this;omega⟩
  · clear c1 n1 c2 nx1
    go_enter Tryz.func138,Tryz.ntmps138
    go_wp2_with (first
      | (go_at_call 165;refine (ca _).mono ?_;rintro e w' ⟨rfl,hw⟩;rw [hw])
      | (refine wp_region_lit_segs (id :=8) [[0,1,2,3,4]] mixed (by kernel_rfl) ?_;simp only [wpSegsL,gaC,gaN,lZ0,lS0,coS])
      | (refine wp_region_lit_segs (id :=9) [[0,1,2,3,4]] mixed (by kernel_rfl) ?_;simp only [wpSegsL,gaC,gaN,lZ0,lS0,coS])
      | (refine wp_region_lit_segs (id :=17) [[0,1,2,3,4]] mixed (by kernel_rfl) ?_;simp only [wpSegsL,gaC,gaN,lZ0,lS0,coS])
      | (refine wp_region_lit_segs (id :=18) [[0,1,2,3,4,5,6,7,8]] mixed (by kernel_rfl) ?_;simp only [wpSegsL,gaC,gaN,lZ0,lS0,coS])
      | refine ⟨by kernel_rfl,?_⟩)
    go_loopw [9] (fun i wr => ∃ (k : Nat) (zs : List Nat),1 ≤ k ∧ k ≤ m + 1 ∧ i = .int .i64 k ∧ zs.length = k ∧ Row .u64 wr bz oz zs ∧ Lt W64 zs ∧ val W64 zs + y = val W64 ((x0 :: xt).take k) + W64 ^ k ∧ Chg w wr (In bz oz k)) (fun i _ => m + 1 - (intOf i).toNat)
    case atStart => exact ⟨1,[r],by omega,by omega,rfl,rfl,r1,Lt.one cmod,subVW_start xt csum,g1⟩
    case round =>
      obtain ⟨k,zs,hk1,hk,rfl,hlz,hrz,hltz,hval,hchg⟩ :=hrel
      by_cases hlt2 : k < m + 1
      · have gx : (x0 :: xt)[k]? = some (x0 :: xt)[k] :=List.getElem?_eq_getElem (by simp [hlt];omega)
        have bx1 : (x0 :: xt)[k]'(by simp [hlt];omega) < W64 :=hbx _ (List.getElem_mem _)
        generalize (x0 :: xt)[k]'(by simp [hlt];omega) = x at gx bx1
        have xr :=hx.chg hchg (fun j _ h => hb h.1.symm)
        have cx1 :=xr k x gx
        obtain ⟨u,cz1⟩ :=((hz.chg hchg) k hlt2).1
        have fz1 :=((hz.chg hchg) k hlt2).2
        have tk : (x0 :: xt).take (k + 1) = (x0 :: xt).take k ++ [x] :=by obtain ⟨gl,ge⟩ :=List.getElem?_eq_some_iff.1 gx;rw [List.take_succ_eq_append_getElem gl,ge]
        have tl : ((x0 :: xt).take k).length = k :=by simp [hlt];omega
        by_cases hxm : x = 0
        · subst hxm
          go_wp2_with (first
      | (go_at_call 165;refine (ca _).mono ?_;rintro e w' ⟨rfl,hw⟩;rw [hw])
      | (refine wp_region_lit_segs (id :=8) [[0,1,2,3,4]] mixed (by kernel_rfl) ?_;simp only [wpSegsL,gaC,gaN,lZ0,lS0,coS])
      | (refine wp_region_lit_segs (id :=9) [[0,1,2,3,4]] mixed (by kernel_rfl) ?_;simp only [wpSegsL,gaC,gaN,lZ0,lS0,coS])
      | (refine wp_region_lit_segs (id :=17) [[0,1,2,3,4]] mixed (by kernel_rfl) ?_;simp only [wpSegsL,gaC,gaN,lZ0,lS0,coS])
      | (refine wp_region_lit_segs (id :=18) [[0,1,2,3,4,5,6,7,8]] mixed (by kernel_rfl) ?_;simp only [wpSegsL,gaC,gaN,lZ0,lS0,coS])
      | refine ⟨by kernel_rfl,?_⟩)
          go_roundw
          case rel =>
            have hrow :=hrz.store 18446744073709551615 ⟨u,by rw [hlz];exact cz1⟩
            rw [hlz] at hrow
            refine ⟨k + 1,zs ++ [18446744073709551615],by omega,hlt2,rfl,by simp [hlz],hrow,hltz.snoc (by decide),?_,hchg.store _⟩
            rw [tk,val_snoc,val_snoc,hlz,tl,Nat.pow_succ];exact subVW_more hval rfl
          case measure => simp [intOf];omega
        · obtain ⟨t,rfl⟩ : ∃ t,m = k + t :=⟨m - k,by omega⟩
          obtain ⟨x,rfl⟩ : ∃ y,x = y + 1 :=⟨x - 1,by omega⟩
          have hwrap : (IntKind.u64.wrap (x : Int)) = ((x : Nat) : Int) :=by unfold W64 at bx1;simp [IntKind.wrap,IntKind.bits,IntKind.signed];omega
          have z1 : (wr.setCell ⟨bz,oz + k,none⟩ (.int .u64 (x : Int))).cell? ⟨bz,oz,none⟩ = some (.int .u64 (zs[0]'(by omega) : Nat)) :=by rw [cell_setCell_ne (by omega)];exact hrz.cell 0 (by omega)
          have nz1 : NF (wr.setCell ⟨bz,oz + k,none⟩ (.int .u64 (x : Int))) bz :=fun o => by rw [frozen_setCell];exact nz.chg (lt_of_cell z0) hchg o
          have xx :=xr.chg (Chg.setCell wr bz (oz + k) (.int .u64 (x : Int)) (fun b _ => b = bz) fun _ => rfl) (fun j _ h => hb h.symm)
          have z2 : (wr.setCell ⟨bz,oz + k,none⟩ (.int .u64 (x : Int))).cell? ⟨bx,ox,none⟩ = some (.int .u64 x0) :=xx 0 x0 rfl
          have nx1 : NF (wr.setCell ⟨bz,oz + k,none⟩ (.int .u64 (x : Int))) bx :=fun o => by rw [frozen_setCell];exact nx.chg (lt_of_cell c0) hchg o
          have hp1 :=(ptrRun (wr.setCell ⟨bz,oz + k,none⟩ (.int .u64 (x : Int))).drew bz oz bx ox z1 z2 nz1 nx1).2
          simp only [hb,false_and,decide_false,Bool.not_false] at hp1
          have hlast : val W64 (zs ++ x :: (x0 :: xt).drop (k + 1)) + y = val W64 (x0 :: xt) :=by rw [val_join hlz,val_split gx];exact subVW_last hval
          have hlt3 : Lt W64 (zs ++ x :: (x0 :: xt).drop (k + 1)) :=hltz.app (fun y hy => (List.mem_cons.1 hy).elim (fun h => by clear hval csum;unfold W64 at *;omega) (hbx.drop _ y))
          have hlen : (zs ++ x :: (x0 :: xt).drop (k + 1)).length = k + t + 1 :=by simp [hlz,hlt];omega
          have hfin : val W64 (zs ++ x :: (x0 :: xt).drop (k + 1)) + y = val W64 (x0 :: xt) + W64 ^ (k + t + 1) * 0 :=by rw [Nat.mul_zero];exact hlast
          clear hlast hval csum
          have g2 : Chg w (wr.setCell ⟨bz,oz + k,none⟩ (.int .u64 (x : Int))) (In bz oz (k + 1)) :=hchg.store _
          have hrow :=hrz.store x ⟨u,by rw [hlz];exact cz1⟩
          rw [hlz] at hrow
          by_cases ht0 : t = 0
          · subst ht0
            have hd : (x0 :: xt).drop (k + 1) = [] :=List.drop_eq_nil_of_le (by simp [hlt])
            rw [hd] at hlen hlt3 hfin
            have hcp :=fun w s s' c c' => run_copy_none (P :=Tryz.prog) w 108 108 3 109 s s' 0 c 0 c' Tryz.underlying108 (by kernel_rfl) rfl
            go_wp2_with (first
      | (go_at_call 165;refine (ca _).mono ?_;rintro e w' ⟨rfl,hw⟩;rw [hw])
      | (refine wp_region_lit_segs (id :=8) [[0,1,2,3,4]] mixed (by kernel_rfl) ?_;simp only [wpSegsL,gaC,gaN,lZ0,lS0,coS])
      | (refine wp_region_lit_segs (id :=9) [[0,1,2,3,4]] mixed (by kernel_rfl) ?_;simp only [wpSegsL,gaC,gaN,lZ0,lS0,coS])
      | (refine wp_region_lit_segs (id :=17) [[0,1,2,3,4]] mixed (by kernel_rfl) ?_;simp only [wpSegsL,gaC,gaN,lZ0,lS0,coS])
      | (refine wp_region_lit_segs (id :=18) [[0,1,2,3,4,5,6,7,8]] mixed (by kernel_rfl) ?_;simp only [wpSegsL,gaC,gaN,lZ0,lS0,coS])
      | refine ⟨by kernel_rfl,?_⟩)
            all_goals exact ⟨_,results_tmp rfl _ _ _,zs ++ [x],0,rfl,hlen,hrow,hlt3,hfin,by omega,g2.drew.drew⟩
          · have q1 : ¬ cz = k + 1 :=by omega
            have q2 : ¬ cx = k + 1 :=by omega
            have hld : ((x0 :: xt).drop (k + 1)).length = t :=by simp [hlt]
            have hwr :=Wr.sub (hz.chg (hchg.store (.int .u64 (x : Int)))) (k + 1) t (by omega)
            have xd :=xx.drop (k + 1)
            generalize (x0 :: xt).drop (k + 1) = ts at hld xd hlen hlt3 hfin
            have hcp :=copyRest (wr.setCell ⟨bz,oz + k,none⟩ (.int .u64 (x : Int))).drew.drew bz (oz + (k + 1)) bx (ox + (k + 1)) t (cz - (k + 1)) (cx - (k + 1)) ts xd hld hwr
            have hch :=Chg.setCells bz (ts.map fun (x : Nat) => Value.int .u64 x) (oz + (k + 1)) (wr.setCell ⟨bz,oz + k,none⟩ (.int .u64 (x : Int))).drew.drew
            have hrw :=Row.setCells (w :=(wr.setCell ⟨bz,oz + k,none⟩ (.int .u64 (x : Int))).drew.drew) (b :=bz) (o :=oz + (k + 1)) ts (by rw [hld];exact hwr)
            have hmap : (ts.map fun (x : Nat) => Value.int .u64 x).length = t :=by simp [hld]
            rw [hmap] at hch
            have hro :=Row.app (xs :=zs ++ [x]) (hrow.chg hch.of_drew.of_drew (fun j hj h => by have h2 :=h.2.1;simp [hlz] at hj;omega)) (by rw [List.length_append,hlz];exact hrw)
            rw [List.append_assoc] at hro
            have hchF :=(g2.mono fun b o _ h => (⟨h.1,h.2.1,by have :=h.2.2;omega⟩ : In bz oz (k + t + 1) b o)).trans hch.of_drew.of_drew fun b o _ h => ⟨h.1,by have :=h.2.1;omega,by have :=h.2.2;omega⟩
            clear hch hrw hrow
            go_wp2_with (first
      | (go_at_call 165;refine (ca _).mono ?_;rintro e w' ⟨rfl,hw⟩;rw [hw])
      | (refine wp_region_lit_segs (id :=8) [[0,1,2,3,4]] mixed (by kernel_rfl) ?_;simp only [wpSegsL,gaC,gaN,lZ0,lS0,coS])
      | (refine wp_region_lit_segs (id :=9) [[0,1,2,3,4]] mixed (by kernel_rfl) ?_;simp only [wpSegsL,gaC,gaN,lZ0,lS0,coS])
      | (refine wp_region_lit_segs (id :=17) [[0,1,2,3,4]] mixed (by kernel_rfl) ?_;simp only [wpSegsL,gaC,gaN,lZ0,lS0,coS])
      | (refine wp_region_lit_segs (id :=18) [[0,1,2,3,4,5,6,7,8]] mixed (by kernel_rfl) ?_;simp only [wpSegsL,gaC,gaN,lZ0,lS0,coS])
      | refine ⟨by kernel_rfl,?_⟩)
            exact ⟨_,results_tmp rfl _ _ _,zs ++ x :: ts,0,rfl,hlen,hro,hlt3,hfin,by omega,hchF⟩
      · obtain rfl : k = m + 1 :=by omega
        go_wp2_with (first
      | (go_at_call 165;refine (ca _).mono ?_;rintro e w' ⟨rfl,hw⟩;rw [hw])
      | (refine wp_region_lit_segs (id :=8) [[0,1,2,3,4]] mixed (by kernel_rfl) ?_;simp only [wpSegsL,gaC,gaN,lZ0,lS0,coS])
      | (refine wp_region_lit_segs (id :=9) [[0,1,2,3,4]] mixed (by kernel_rfl) ?_;simp only [wpSegsL,gaC,gaN,lZ0,lS0,coS])
      | (refine wp_region_lit_segs (id :=17) [[0,1,2,3,4]] mixed (by kernel_rfl) ?_;simp only [wpSegsL,gaC,gaN,lZ0,lS0,coS])
      | (refine wp_region_lit_segs (id :=18) [[0,1,2,3,4,5,6,7,8]] mixed (by kernel_rfl) ?_;simp only [wpSegsL,gaC,gaN,lZ0,lS0,coS])
      | refine ⟨by kernel_rfl,?_⟩)
        have e1 : (x0 :: xt).take (m + 1) = x0 :: xt :=List.take_of_length_le (by simp [hlt])
        rw [e1] at hval
        refine ⟨_,results_tmp rfl _ _ _,zs,1,rfl,hlz,hrz,hltz,by rw [Nat.mul_one];exact hval,by omega⟩
end Go.Proofs.YtfmmdamgcpiciaaGreatDoor
namespace Go.Proofs.YtfmmdamgcpiciaaGreatDoor
open Go Go.RowKit
theorem addVW_any (w : World) (bz oz bx ox m cz cx y : Nat) (xs : List Nat) (hn : m ≤ Big) (nx : NF w bx) (hs : (bx = bz ∧ ox = oz) ∨ bx ≠ bz)
    (hx : Row .u64 w bx ox xs) (hlx : xs.length = m + 1) (hbx : Lt W64 xs) (hy : y < W64) (hcz : m + 1 ≤ cz) (hcx : m + 1 ≤ cx) (hz : Wr w bz oz (m + 1)) (nz : NF w bz) :
    Calls Tryz.prog 136 #[.slice (some ⟨bz,oz,none⟩) (m + 1) cz,.slice (some ⟨bx,ox,none⟩) (m + 1) cx,.int .u64 y] w fun e w' => ∃ zs c,e = .returned (.int .u64 (c : Nat)) ∧ zs.length = m + 1 ∧ Row .u64 w' bz oz zs ∧ Lt W64 zs ∧
      val W64 zs + W64 ^ (m + 1) * c = val W64 xs + y ∧ c ≤ 1 ∧ Chg w w' (In bz oz (m + 1)) :=by
  rcases hs with ⟨rfl,rfl⟩ | hs
  · exact addVW_same w bx ox m cz cx y xs hn hx hlx hbx hy hcz hcx hz nz
  · exact addVW_apart w bz oz bx ox m cz cx y xs hn (fun e => hs e.symm) nx hx hlx hbx hy hcz hcx hz nz
theorem subVW_any (w : World) (bz oz bx ox m cz cx y : Nat) (xs : List Nat) (hn : m ≤ Big) (nx : NF w bx) (hs : (bx = bz ∧ ox = oz) ∨ bx ≠ bz)
    (hx : Row .u64 w bx ox xs) (hlx : xs.length = m + 1) (hbx : Lt W64 xs) (hy : y < W64) (hcz : m + 1 ≤ cz) (hcx : m + 1 ≤ cx) (hz : Wr w bz oz (m + 1)) (nz : NF w bz) :
    Calls Tryz.prog 138 #[.slice (some ⟨bz,oz,none⟩) (m + 1) cz,.slice (some ⟨bx,ox,none⟩) (m + 1) cx,.int .u64 y] w fun e w' => ∃ zs c,e = .returned (.int .u64 (c : Nat)) ∧ zs.length = m + 1 ∧ Row .u64 w' bz oz zs ∧ Lt W64 zs ∧
      val W64 zs + y = val W64 xs + W64 ^ (m + 1) * c ∧ c ≤ 1 ∧ Chg w w' (In bz oz (m + 1)) :=by
  rcases hs with ⟨rfl,rfl⟩ | hs
  · exact subVW_same w bx ox m cz cx y xs hn hx hlx hbx hy hcz hcx hz nz
  · exact subVW_apart w bz oz bx ox m cz cx y xs hn (fun e => hs e.symm) nx hx hlx hbx hy hcz hcx hz nz
theorem Sep.cases {w : World} {s : Option Addr} {c bx ox b o c' : Nat} (h : Sep (some ⟨bx,ox,none⟩) s) (hf : Fr w s c (some ⟨b,o,none⟩) c') (hb : bx < w.heap.size) : (bx = b ∧ ox = o) ∨ bx ≠ b :=by
  rcases hf with ⟨h1,_⟩ | ⟨b2,h1,h2⟩
  · rcases h with h | h
    · rw [← h1] at h
      simp only [Option.some.injEq,Addr.mk.injEq] at h
      exact .inl ⟨h.1,h.2.1⟩
    · exact .inr (h _ _ rfl h1.symm)
  · simp only [Option.some.injEq,Addr.mk.injEq] at h1
    exact .inr (by omega)
theorem ahead_of_cases {bx ox b o : Nat} (n : Nat) (h : (bx = b ∧ ox = o) ∨ bx ≠ b) : Ahead bx ox b o n :=by
  rcases h with ⟨_,h⟩ | h
  · exact .inr (.inl (by omega))
  · exact .inl h
theorem NatAt.open {w : World} {s : Option Addr} {n c X : Nat} (h : NatAt w s (n + 1) c X) : ∃ b o xs,s = some ⟨b,o,none⟩ ∧ Row .u64 w b o xs ∧ xs.length = n + 1 ∧ Lt W64 xs ∧ Nz xs ∧ val W64 xs = X ∧ Wr w b o c ∧ NF w b ∧ n + 1 ≤ c ∧ c ≤ (8388607 * Big + 1099511627775) ∧ b < w.heap.size :=by
  obtain ⟨xs,h1,h2,h3,h4,h5,h6,h7,h8,h9⟩ :=h
  obtain ⟨b,o,rfl,hw,hf,hb⟩ :=h5.pos (by omega)
  exact ⟨b,o,xs,rfl,h6.row,h1,h7,h8,h9,hw,hf,h2,h3,hb⟩
theorem NatAt.zero {w : World} {s : Option Addr} {c X : Nat} (h : NatAt w s 0 c X) : X = 0 :=by
  obtain ⟨xs,h1,h2,h3,h4,h5,h6,h7,h8,h9⟩ :=h
  obtain rfl :=List.length_eq_zero_iff.1 h1
  exact h9.symm
theorem NatAt.chg {w w' : World} {M : Nat → Nat → Prop} {s : Option Addr} {n c X : Nat} (h : NatAt w s n c X) (hc : Chg w w' M) (hm : ∀ b o,s = some ⟨b,o,none⟩ → ∀ o',¬ M b o') : NatAt w' s n c X :=by
  obtain ⟨xs,h1,h2,h3,h4,h5,h6,h7,h8,h9⟩ :=h
  exact ⟨xs,h1,h2,h3,h4,h5.chg hc,h6.chg hc hm,h7,h8,h9⟩
theorem NatAt.kept {w w' : World} {s : Option Addr} {n c X : Nat} (h : NatAt w s n c X) (hc : Kept w w') : NatAt w' s n c X :=h.chg hc fun _ _ _ _ x => x
theorem sliceNil_nat {w : World} {s : Option Addr} {c : Nat} (hc : SlOk w s c) (hcc : c ≤ (8388607 * Big + 1099511627775)) : NatAt w s 0 c 0 :=⟨[],rfl,Nat.zero_le _,hcc,Nat.zero_le _,hc,.inl rfl,Lt.nil,Nz.nil,rfl⟩
theorem nat_set' (w : World) (s sx : Option Addr) (n0 c n cx X : Nat) (hc : SlOk w s c) (hcc : c ≤ (8388607 * Big + 1099511627775)) (hx : NatAt w sx n cx X) :
    Calls Tryz.prog 126 #[.slice s n0 c,.slice sx n cx] w (GotNat w s c X) :=by
  obtain ⟨xs,h1,h2,h3,h4,h5,h6,h7,h8,h9⟩ :=hx
  refine (nat_set w s sx n0 c n cx xs hc hcc h6 h1 h4).mono ?_
  rintro e w' ⟨s',c',rfl,g1,g2,g3,g4,g5,g6⟩
  exact ⟨s',n,c',rfl,⟨xs,h1,g1,g2,h4,g3,g5,h7,h8,h9⟩,g4,g6⟩
theorem add_join {Z1 Z2 X1 X2 Y P Q c d : Nat} (h1 : Z1 + P * c = X1 + Y) (h2 : Z2 + Q * d = X2 + c) : Z1 + P * Z2 + P * Q * d = X1 + P * X2 + Y :=by
  have : P * (Z2 + Q * d) = P * (X2 + c) :=by rw [h2]
  rw [Nat.mul_add,Nat.mul_add,← Nat.mul_assoc] at this
  omega
theorem nat_add_eq (w : World) (s sx sy : Option Addr) (n0 c n cx cy X Y : Nat) (hc : SlOk w s c) (hcc : c ≤ (8388607 * Big + 1099511627775)) (hx : NatAt w sx (n + 1) cx X) (hy : NatAt w sy (n + 1) cy Y) (hn : n + 1 < Big) (sepx : Sep sx s) (sepy : Sep sy s) :
    Calls Tryz.prog 120 #[.slice s n0 c,.slice sx (n + 1) cx,.slice sy (n + 1) cy] w (GotNat w s c (X + Y)) :=by
  have hm :=nat_make w s n0 c (n + 1 + 1) hc (by omega) (by unfold Big at *;omega)
  obtain ⟨bx,ox,xs,rfl,hrx,hlx,hltx,-,rfl,hwx,nfx,hx1,hx2,hbx⟩ :=hx.open
  obtain ⟨by',oy,ys,rfl,hry,hly,hlty,-,rfl,hwy,nfy,hy1,hy2,hby⟩ :=hy.open
  clear hx hy
  unfold Big at hn hcc hx2 hy2
  go_enter Tryz.func120,Tryz.ntmps120
  go_wp2_with (first
    | (go_at_call 134;refine hm.mono ?_;rintro e w1 ⟨s',c',rfl,h1,h2,h3,h4,h5⟩;obtain ⟨b,o,rfl,hw,hf,hb⟩ :=h3.pos (by omega))
    | (refine wp_region_lit_segs (id :=10) [[0,1,2,3,4,5,6,7,8,9,10]] mixed (by kernel_rfl) ?_;simp only [wpSegsL,gaC,gaN,lZ0,lS0,coS])
    | (go_at_call 135;refine addVV _ _ _ _ _ ?_;refine (addVV_g w1.drew _ _ _ b o bx ox by' oy (n + 1) _ _ _ xs ys (by omega) (fun _ => rfl) (fun _ => rfl) (fun _ => rfl) (hrx.keep h5.drew) (hry.keep h5.drew) hlx hly hltx hlty (fun j hj => hw j (by omega)) (ahead_of_cases _ (sepx.cases h4 hbx)) (ahead_of_cases _ (sepy.cases h4 hby))).mono ?_;
       rintro e w2 ⟨zs,cc,rfl,g1,g2,g3,g4,g5,g6,g7⟩;refine ⟨_,rfl,?_⟩;obtain ⟨⟨u,hu⟩,hz⟩ :=(hw.chg g6.of_drew) (n + 1) (by omega);
       have hrow : Row .u64 (w2.setCell ⟨b,o + (n + 1),none⟩ (.int .u64 cc)) b o (zs ++ [cc]) :=(by rw [← g1];exact g2.store cc ⟨u,by rw [g1];exact hu⟩))
    | refine ⟨by kernel_rfl,?_⟩
    | (go_at_call 106;refine (nat_norm _ _ (n + 1 + 1) c' (zs ++ [cc]) (.inr ⟨b,o,rfl,hrow⟩) (by simp [g1]) (by omega) h1).mono ?_;rintro e w3 ⟨rfl,hw3⟩;rw [hw3]))
  first | go_ret | refine ⟨_,results_tmp rfl _ _ _,?_⟩
  have hsc :=Chg.setCell w2 b (o + (n + 1)) (.int .u64 cc) (In b o (n + 1 + 1)) (fun _ => ⟨rfl,by omega,by omega⟩)
  refine ⟨_,_,c',rfl,trim_nat (by simp [g1];omega) (by unfold Big at *;omega) (by simp [g1];unfold Big;omega) ((h3.chg g6.of_drew).chg hsc) (.inr ⟨b,o,rfl,hrow⟩) (g3.snoc (Nat.lt_of_le_of_lt g5 (by decide))) (by rw [val_snoc,g1];exact g4),h4,?_⟩
  exact (((h5.any (Blk s)).fr h4 rfl g6.of_drew fun _ _ h => h.1)).fr h4 rfl hsc fun _ _ h => h.1
theorem nat_add_gt (w : World) (s sx sy : Option Addr) (n0 c n d cx cy X Y : Nat) (hc : SlOk w s c) (hcc : c ≤ (8388607 * Big + 1099511627775)) (hx : NatAt w sx (n + 1 + (d + 1)) cx X) (hy : NatAt w sy (n + 1) cy Y) (hn : n + 1 + (d + 1) < Big) (sepx : Sep sx s) (sepy : Sep sy s) :
    Calls Tryz.prog 120 #[.slice s n0 c,.slice sx (n + 1 + (d + 1)) cx,.slice sy (n + 1) cy] w (GotNat w s c (X + Y)) :=by
  have hm :=nat_make w s n0 c (n + 1 + (d + 1) + 1) hc (by omega) (by unfold Big at *;omega)
  obtain ⟨bx,ox,xs,rfl,hrx,hlx,hltx,-,rfl,hwx,nfx,hx1,hx2,hbx⟩ :=NatAt.open (n :=n + 1 + d) hx
  obtain ⟨by',oy,ys,rfl,hry,hly,hlty,-,rfl,hwy,nfy,hy1,hy2,hby⟩ :=hy.open
  have hlx : xs.length = n + 1 + (d + 1) :=hlx
  clear hx hy
  unfold Big at hn hcc hx2 hy2
  go_enter Tryz.func120,Tryz.ntmps120
  go_wp2_with (first
    | (go_at_call 134;refine hm.mono ?_;rintro e w1 ⟨s',c',rfl,h1,h2,h3,h4,h5⟩;obtain ⟨b,o,rfl,hw,hf,hb⟩ :=h3.pos (by omega))
    | (refine wp_region_lit_segs (id :=10) [[0,1,2,3,4,5,6,7,8,9,10]] mixed (by kernel_rfl) ?_;simp only [wpSegsL,gaC,gaN,lZ0,lS0,coS])
    | (refine wp_region_lit_segs (id :=12) [[0,1,2,3,4,5,6,7,8,9]] mixed (by kernel_rfl) ?_;simp only [wpSegsL,gaC,gaN,lZ0,lS0,coS])
    | (go_at_call 135;refine addVV _ _ _ _ _ ?_;refine (addVV_g w1.drew _ _ _ b o bx ox by' oy (n + 1) _ _ _ (xs.take (n + 1)) ys (by omega) (fun _ => rfl) (fun _ => rfl) (fun _ => rfl) ((hrx.keep h5.drew).take _) (hry.keep h5.drew) (by simp [hlx]) hly (hltx.take _) hlty (fun j hj => hw j (by omega)) (ahead_of_cases _ (sepx.cases h4 hbx)) (ahead_of_cases _ (sepy.cases h4 hby))).mono ?_;
       rintro e w2 ⟨zs,cc,rfl,g1,g2,g3,g4,g5,g6,g7⟩;refine ⟨_,rfl,?_⟩;
       have hxd : Row .u64 w2.drew bx (ox + (n + 1)) (xs.drop (n + 1)) :=(((hrx.keep h5).drop (n + 1)).chg g6.of_drew.drew (fun j _ h => by rcases sepx.cases h4 hbx with ⟨h6,h7⟩ | h6 <;> first | (have :=h.2.2;omega) | exact h6 h.1)))
    | refine ⟨by kernel_rfl,?_⟩
    | (go_at_call 136;refine (addVW_any w2.drew b (o + (n + 1)) bx (ox + (n + 1)) d _ _ cc (xs.drop (n + 1)) (by unfold Big;omega) (nfx.chg hbx ((h5.any (fun _ _ => True)).trans (g6.of_drew.drew) (fun _ _ _ _ => trivial))) ((sepx.cases h4 hbx).imp (fun h => ⟨h.1,by rw [h.2]⟩) id) hxd (by simp [hlx]) (hltx.drop _) (Nat.lt_of_le_of_lt g5 (by decide)) (by omega) (by omega) ((hw.chg g6.of_drew.drew).sub (n + 1) (d + 1) (by omega)) (hf.chg hb g6.of_drew.drew)).mono ?_;
       rintro e w3 ⟨zt,cd,rfl,k1,k2,k3,k4,k5,k6⟩;
       obtain ⟨⟨u,hu⟩,hz⟩ :=((hw.chg g6.of_drew).chg k6.of_drew) (n + 1 + (d + 1)) (by omega);
       have hr1 : Row .u64 w3 b o (zs ++ zt) :=Row.app (g2.chg k6.of_drew (fun j hj h => by have :=h.2.1;omega)) (by rw [g1];exact k2);
       have hl1 : (zs ++ zt).length = n + 1 + (d + 1) :=(by simp [g1,k1]);
       have hrow : Row .u64 (w3.setCell ⟨b,o + (n + 1 + (d + 1)),none⟩ (.int .u64 cd)) b o (zs ++ (zt ++ [cd])) :=(by rw [← hl1,← List.append_assoc];exact hr1.store cd ⟨u,by rw [hl1];exact hu⟩))
    | (go_at_call 106;refine (nat_norm _ _ (n + 1 + (d + 1) + 1) c' (zs ++ (zt ++ [cd])) (.inr ⟨b,o,rfl,hrow⟩) (by simp [g1,k1];omega) (by omega) h1).mono ?_;rintro e w4 ⟨rfl,hw4⟩;rw [hw4]))
  first | go_ret | refine ⟨_,results_tmp rfl _ _ _,?_⟩
  have hsc :=Chg.setCell w3 b (o + (n + 1 + (d + 1))) (.int .u64 cd) (In b o (n + 1 + (d + 1) + 1)) (fun _ => ⟨rfl,by omega,by omega⟩)
  have hlen : (zs ++ (zt ++ [cd])).length = n + 1 + (d + 1) + 1 :=by simp [g1,k1];omega
  refine ⟨_,_,c',rfl,trim_nat (by omega) (by unfold Big at *;omega) (by unfold Big;omega) (((h3.chg g6.of_drew).chg k6.of_drew).chg hsc) (.inr ⟨b,o,rfl,hrow⟩) (by rw [← List.append_assoc];exact (g3.app k3).snoc (Nat.lt_of_le_of_lt k5 (by decide))) ?_,h4,?_⟩
  · have e1 : val W64 xs = val W64 (xs.take (n + 1)) + W64 ^ (n + 1) * val W64 (xs.drop (n + 1)) :=by
      have h :=val_append W64 (xs.take (n + 1)) (xs.drop (n + 1))
      rw [List.take_append_drop,List.length_take,Nat.min_eq_left (by omega)] at h
      exact h
    rw [← List.append_assoc,val_snoc,val_append,hl1,g1,e1,Nat.pow_add W64 (n + 1) (d + 1)]
    exact add_join g4 k4
  · exact ((((h5.any (Blk s)).fr h4 rfl g6.of_drew fun _ _ h => h.1)).fr h4 rfl k6.of_drew fun _ _ h => h.1).fr h4 rfl hsc fun _ _ h => h.1
end Go.Proofs.YtfmmdamgcpiciaaGreatDoor
namespace Go.Proofs.YtfmmdamgcpiciaaGreatDoor
open Go Go.RowKit
theorem no_borrow {Z Y X P c : Nat} (h : Z + Y = X + P * c) (hz : Z < P) (hy : Y ≤ X) : c = 0 :=by
  rcases Nat.eq_zero_or_pos c with h0 | h0
  · exact h0
  · have :=Nat.le_mul_of_pos_right P h0
    omega
theorem sub_join {Z1 Z2 X1 X2 Y P Q c d : Nat} (h1 : Z1 + Y = X1 + P * c) (h2 : Z2 + c = X2 + Q * d) : Z1 + P * Z2 + Y = X1 + P * X2 + P * Q * d :=by
  have : P * (Z2 + c) = P * (X2 + Q * d) :=by rw [h2]
  rw [Nat.mul_add,Nat.mul_add,← Nat.mul_assoc] at this
  omega
theorem val_cut {B : Nat} {xs : List Nat} {n : Nat} (h : n ≤ xs.length) : val B xs = val B (xs.take n) + B ^ n * val B (xs.drop n) :=by
  have h2 :=val_append B (xs.take n) (xs.drop n)
  rw [List.take_append_drop,List.length_take,Nat.min_eq_left h] at h2
  exact h2
theorem Nz.le {B : Nat} {xs : List Nat} {n : Nat} (hz : Nz xs) (hl : xs.length = n + 1) : B ^ n ≤ val B xs :=by
  have e : xs = xs.take n ++ [xs[n]] :=by
    have h1 : xs.take (n + 1) = xs.take n ++ [xs[n]] :=List.take_succ_eq_append_getElem (by omega)
    rw [List.take_of_length_le (by omega)] at h1
    exact h1
  have hx : xs[n] ≠ 0 :=hz _ (by
    have h2 : xs.length - 1 = n :=by omega
    rw [List.getLast?_eq_getElem?]
    simp only [h2]
    exact List.getElem?_eq_getElem (by omega))
  rw [e,val_snoc,List.length_take,Nat.min_eq_left (by omega)]
  have :=Nat.le_mul_of_pos_right (B ^ n) (Nat.pos_of_ne_zero hx)
  omega
theorem len_le {xs ys : List Nat} {m n : Nat} (hx : Lt W64 xs) (hlx : xs.length = m) (hy : Nz ys) (hly : ys.length = n) (h : val W64 ys ≤ val W64 xs) : n ≤ m :=by
  cases n with
  | zero => omega
  | succ n =>
    have h1 :=hy.le (B :=W64) hly
    have h2 :=val_lt hx
    rw [hlx] at h2
    exact (Nat.pow_lt_pow_iff_right (a :=W64) (by decide)).1 (Nat.lt_of_le_of_lt (Nat.le_trans h1 h) h2)
theorem nat_sub_eq (w : World) (s sx sy : Option Addr) (n0 c n cx cy X Y : Nat) (hc : SlOk w s c) (hcc : c ≤ (8388607 * Big + 1099511627775)) (hx : NatAt w sx (n + 1) cx X) (hy : NatAt w sy (n + 1) cy Y) (hle : Y ≤ X) (hn : n + 1 < Big) (sepx : Sep sx s) (sepy : Sep sy s) :
    Calls Tryz.prog 121 #[.slice s n0 c,.slice sx (n + 1) cx,.slice sy (n + 1) cy] w (GotNat w s c (X - Y)) :=by
  have hm :=nat_make w s n0 c (n + 1) hc (by omega) (by unfold Big at *;omega)
  obtain ⟨bx,ox,xs,rfl,hrx,hlx,hltx,-,rfl,hwx,nfx,hx1,hx2,hbx⟩ :=hx.open
  obtain ⟨by',oy,ys,rfl,hry,hly,hlty,-,rfl,hwy,nfy,hy1,hy2,hby⟩ :=hy.open
  clear hx hy
  unfold Big at hn hcc hx2 hy2
  go_enter Tryz.func121,Tryz.ntmps121
  go_wp2_with (first
    | (go_at_call 134;refine hm.mono ?_;rintro e w1 ⟨s',c',rfl,h1,h2,h3,h4,h5⟩;obtain ⟨b,o,rfl,hw,hf,hb⟩ :=h3.pos (by omega))
    | (refine wp_region_lit_segs (id :=10) [[0,1,2,3,4,5,6,7,8,9,10]] mixed (by kernel_rfl) ?_;simp only [wpSegsL,gaC,gaN,lZ0,lS0,coS])
    | (go_at_call 137;refine subVV _ _ _ _ _ ?_;refine (subVV_g w1.drew _ _ _ b o bx ox by' oy (n + 1) _ _ _ xs ys (by omega) (fun _ => rfl) (fun _ => rfl) (fun _ => rfl) (hrx.keep h5.drew) (hry.keep h5.drew) hlx hly hltx hlty (fun j hj => hw j (by omega)) (ahead_of_cases _ (sepx.cases h4 hbx)) (ahead_of_cases _ (sepy.cases h4 hby))).mono ?_;
       rintro e w2 ⟨zs,cc,rfl,g1,g2,g3,g4,g5,g6,g7⟩;obtain rfl : cc = 0 :=no_borrow g4 (by rw [← g1];exact val_lt g3) hle;refine ⟨_,rfl,?_⟩)
    | refine ⟨by kernel_rfl,?_⟩
    | (go_at_call 106;refine (nat_norm _ _ (n + 1) c' zs (.inr ⟨b,o,rfl,g2⟩) g1 (by omega) h1).mono ?_;rintro e w3 ⟨rfl,hw3⟩;rw [hw3]))
  first | go_ret | refine ⟨_,results_tmp rfl _ _ _,?_⟩
  refine ⟨_,_,c',rfl,trim_nat (by omega) (by unfold Big at *;omega) (by unfold Big;omega) (h3.chg g6.of_drew) (.inr ⟨b,o,rfl,g2⟩) g3 (by rw [Nat.mul_zero,Nat.add_zero] at g4;exact Nat.eq_sub_of_add_eq g4),h4,?_⟩
  exact ((h5.any (Blk s)).fr h4 rfl g6.of_drew fun _ _ h => h.1)
theorem nat_sub_gt (w : World) (s sx sy : Option Addr) (n0 c n d cx cy X Y : Nat) (hc : SlOk w s c) (hcc : c ≤ (8388607 * Big + 1099511627775)) (hx : NatAt w sx (n + 1 + (d + 1)) cx X) (hy : NatAt w sy (n + 1) cy Y) (hle : Y ≤ X) (hn : n + 1 + (d + 1) < Big) (sepx : Sep sx s) (sepy : Sep sy s) :
    Calls Tryz.prog 121 #[.slice s n0 c,.slice sx (n + 1 + (d + 1)) cx,.slice sy (n + 1) cy] w (GotNat w s c (X - Y)) :=by
  have hm :=nat_make w s n0 c (n + 1 + (d + 1)) hc (by omega) (by unfold Big at *;omega)
  obtain ⟨bx,ox,xs,rfl,hrx,hlx,hltx,-,rfl,hwx,nfx,hx1,hx2,hbx⟩ :=NatAt.open (n :=n + 1 + d) hx
  obtain ⟨by',oy,ys,rfl,hry,hly,hlty,-,rfl,hwy,nfy,hy1,hy2,hby⟩ :=hy.open
  have hlx : xs.length = n + 1 + (d + 1) :=hlx
  have hcut :=val_cut (B :=W64) (xs :=xs) (n :=n + 1) (by omega)
  clear hx hy
  unfold Big at hn hcc hx2 hy2
  go_enter Tryz.func121,Tryz.ntmps121
  go_wp2_with (first
    | (go_at_call 134;refine hm.mono ?_;rintro e w1 ⟨s',c',rfl,h1,h2,h3,h4,h5⟩;obtain ⟨b,o,rfl,hw,hf,hb⟩ :=h3.pos (by omega))
    | (refine wp_region_lit_segs (id :=10) [[0,1,2,3,4,5,6,7,8,9,10]] mixed (by kernel_rfl) ?_;simp only [wpSegsL,gaC,gaN,lZ0,lS0,coS])
    | (refine wp_region_lit_segs (id :=12) [[0,1,2,3,4,5,6,7,8]] mixed (by kernel_rfl) ?_;simp only [wpSegsL,gaC,gaN,lZ0,lS0,coS])
    | (go_at_call 137;refine subVV _ _ _ _ _ ?_;refine (subVV_g w1.drew _ _ _ b o bx ox by' oy (n + 1) _ _ _ (xs.take (n + 1)) ys (by omega) (fun _ => rfl) (fun _ => rfl) (fun _ => rfl) ((hrx.keep h5.drew).take _) (hry.keep h5.drew) (by simp [hlx]) hly (hltx.take _) hlty (fun j hj => hw j (by omega)) (ahead_of_cases _ (sepx.cases h4 hbx)) (ahead_of_cases _ (sepy.cases h4 hby))).mono ?_;
       rintro e w2 ⟨zs,cc,rfl,g1,g2,g3,g4,g5,g6,g7⟩;refine ⟨_,rfl,?_⟩;
       have hxd : Row .u64 w2.drew bx (ox + (n + 1)) (xs.drop (n + 1)) :=(((hrx.keep h5).drop (n + 1)).chg g6.of_drew.drew (fun j _ h => by rcases sepx.cases h4 hbx with ⟨h6,h7⟩ | h6 <;> first | (have :=h.2.2;omega) | exact h6 h.1)))
    | refine ⟨by kernel_rfl,?_⟩
    | (go_at_call 138;refine (subVW_any w2.drew b (o + (n + 1)) bx (ox + (n + 1)) d _ _ cc (xs.drop (n + 1)) (by unfold Big;omega) (nfx.chg hbx ((h5.any (fun _ _ => True)).trans (g6.of_drew.drew) (fun _ _ _ _ => trivial))) ((sepx.cases h4 hbx).imp (fun h => ⟨h.1,by rw [h.2]⟩) id) hxd (by simp [hlx]) (hltx.drop _) (Nat.lt_of_le_of_lt g5 (by decide)) (by omega) (by omega) ((hw.chg g6.of_drew.drew).sub (n + 1) (d + 1) (by omega)) (hf.chg hb g6.of_drew.drew)).mono ?_;
       rintro e w3 ⟨zt,cd,rfl,k1,k2,k3,k4,k5,k6⟩;
       have hj :=sub_join g4 k4;
       rw [← hcut,← Nat.pow_add,← g1,← val_append] at hj;
       obtain rfl : cd = 0 :=no_borrow hj (by rw [g1,← k1,← g1,← List.length_append];exact val_lt (g3.app k3)) hle;
       have hr1 : Row .u64 w3 b o (zs ++ zt) :=Row.app (g2.chg k6.of_drew (fun j hj h => by have :=h.2.1;omega)) (by rw [g1];exact k2);
       have hl1 : (zs ++ zt).length = n + 1 + (d + 1) :=(by simp [g1,k1]))
    | (go_at_call 106;refine (nat_norm _ _ (n + 1 + (d + 1)) c' (zs ++ zt) (.inr ⟨b,o,rfl,hr1⟩) hl1 (by omega) h1).mono ?_;rintro e w4 ⟨rfl,hw4⟩;rw [hw4]))
  first | go_ret | refine ⟨_,results_tmp rfl _ _ _,?_⟩
  refine ⟨_,_,c',rfl,trim_nat (by omega) (by unfold Big at *;omega) (by unfold Big;omega) ((h3.chg g6.of_drew).chg k6.of_drew) (.inr ⟨b,o,rfl,hr1⟩) (g3.app k3) (by rw [Nat.mul_zero,Nat.add_zero] at hj;exact Nat.eq_sub_of_add_eq (hj.trans (by first | rfl | exact hcut))),h4,?_⟩
  exact (((h5.any (Blk s)).fr h4 rfl g6.of_drew fun _ _ h => h.1)).fr h4 rfl k6.of_drew fun _ _ h => h.1
end Go.Proofs.YtfmmdamgcpiciaaGreatDoor
namespace Go.Proofs.YtfmmdamgcpiciaaGreatDoor
open Go Go.RowKit
theorem NatAt.len_le {w : World} {sx sy : Option Addr} {m n cx cy X Y : Nat} (hx : NatAt w sx m cx X) (hy : NatAt w sy n cy Y) (h : Y ≤ X) : n ≤ m :=by
  obtain ⟨xs,a1,_,_,_,_,_,a7,_,rfl⟩ :=hx
  obtain ⟨ys,b1,_,_,_,_,_,_,b8,rfl⟩ :=hy
  exact YtfmmdamgcpiciaaGreatDoor.len_le a7 a1 b8 b1 h
theorem NatAt.eq_zero {w : World} {s : Option Addr} {n c X : Nat} (hx : NatAt w s n c X) : X = 0 ↔ n = 0 :=by
  constructor
  · rintro rfl
    obtain ⟨xs,a1,_,_,_,_,_,_,a8,a9⟩ :=hx
    cases n with
    | zero => rfl
    | succ n =>
      have :=a8.le (B :=W64) a1
      have h2 : 0 < W64 ^ n :=Nat.pow_pos (by decide)
      omega
  · rintro rfl
    exact hx.zero
theorem nat_add_ge (w : World) (s sx sy : Option Addr) (n0 c m n cx cy X Y : Nat) (hc : SlOk w s c) (hcc : c ≤ (8388607 * Big + 1099511627775)) (hx : NatAt w sx m cx X) (hy : NatAt w sy n cy Y) (hmn : n ≤ m) (hm : m < Big) (sepx : Sep sx s) (sepy : Sep sy s) :
    Calls Tryz.prog 120 #[.slice s n0 c,.slice sx m cx,.slice sy n cy] w (GotNat w s c (X + Y)) :=by
  cases n with
  | zero =>
    obtain rfl :=hy.zero
    cases m with
    | zero =>
      obtain rfl :=hx.zero
      unfold Big at hcc
      go_enter Tryz.func120,Tryz.ntmps120
      go_wp2
      first | go_ret | refine ⟨_,results_tmp rfl _ _ _,?_⟩
      exact ⟨s,0,c,rfl,sliceNil_nat hc (by unfold Big;omega),.inl ⟨rfl,rfl⟩,Chg.refl _ _⟩
    | succ m =>
      have hs :=nat_set' w s sx n0 c (m + 1) cx X hc hcc hx
      unfold Big at hcc hm
      go_enter Tryz.func120,Tryz.ntmps120
      go_wp2_with (go_at_call 126;refine hs.mono ?_;rintro e w1 ⟨s',n',c',rfl,hg⟩)
      first | go_ret | refine ⟨_,results_tmp rfl _ _ _,?_⟩
      exact ⟨s',n',c',rfl,hg⟩
  | succ n =>
    rcases (by rcases Nat.lt_or_ge (n + 1) m with h | h;exact .inr ⟨m - (n + 2),by omega⟩;exact .inl (by omega) : m = n + 1 ∨ ∃ d,m = n + 1 + (d + 1)) with rfl | ⟨d,rfl⟩
    · exact nat_add_eq w s sx sy n0 c n cx cy X Y hc hcc hx hy hm sepx sepy
    · exact nat_add_gt w s sx sy n0 c n d cx cy X Y hc hcc hx hy hm sepx sepy
theorem nat_add (w : World) (s sx sy : Option Addr) (n0 c m n cx cy X Y : Nat) (hc : SlOk w s c) (hcc : c ≤ (8388607 * Big + 1099511627775)) (hx : NatAt w sx m cx X) (hy : NatAt w sy n cy Y) (hm : m < Big) (hn : n < Big) (sepx : Sep sx s) (sepy : Sep sy s) :
    Calls Tryz.prog 120 #[.slice s n0 c,.slice sx m cx,.slice sy n cy] w (GotNat w s c (X + Y)) :=by
  by_cases h : n ≤ m
  · exact nat_add_ge w s sx sy n0 c m n cx cy X Y hc hcc hx hy h hm sepx sepy
  · have hs :=nat_add_ge w s sy sx n0 c n m cy cx Y X hc hcc hy hx (by omega) hn sepy sepx
    unfold Big at hcc hm hn
    go_enter Tryz.func120,Tryz.ntmps120
    go_wp2_with (go_at_call 120;refine hs.mono ?_;rintro e w1 ⟨s',n',c',rfl,hg⟩)
    first | go_ret | refine ⟨_,results_tmp rfl _ _ _,?_⟩
    rw [Nat.add_comm Y X] at hg
    exact ⟨s',n',c',rfl,hg⟩
theorem nat_sub (w : World) (s sx sy : Option Addr) (n0 c m n cx cy X Y : Nat) (hc : SlOk w s c) (hcc : c ≤ (8388607 * Big + 1099511627775)) (hx : NatAt w sx m cx X) (hy : NatAt w sy n cy Y) (hle : Y ≤ X) (hm : m < Big) (sepx : Sep sx s) (sepy : Sep sy s) :
    Calls Tryz.prog 121 #[.slice s n0 c,.slice sx m cx,.slice sy n cy] w (GotNat w s c (X - Y)) :=by
  have hmn :=hx.len_le hy hle
  cases n with
  | zero =>
    obtain rfl :=hy.zero
    cases m with
    | zero =>
      obtain rfl :=hx.zero
      unfold Big at hcc
      go_enter Tryz.func121,Tryz.ntmps121
      go_wp2
      first | go_ret | refine ⟨_,results_tmp rfl _ _ _,?_⟩
      exact ⟨s,0,c,rfl,sliceNil_nat hc (by unfold Big;omega),.inl ⟨rfl,rfl⟩,Chg.refl _ _⟩
    | succ m =>
      have hs :=nat_set' w s sx n0 c (m + 1) cx X hc hcc hx
      unfold Big at hcc hm
      go_enter Tryz.func121,Tryz.ntmps121
      go_wp2_with (go_at_call 126;refine hs.mono ?_;rintro e w1 ⟨s',n',c',rfl,hg⟩)
      first | go_ret | refine ⟨_,results_tmp rfl _ _ _,?_⟩
      exact ⟨s',n',c',rfl,hg⟩
  | succ n =>
    rcases (by rcases Nat.lt_or_ge (n + 1) m with h | h;exact .inr ⟨m - (n + 2),by omega⟩;exact .inl (by omega) : m = n + 1 ∨ ∃ d,m = n + 1 + (d + 1)) with rfl | ⟨d,rfl⟩
    · exact nat_sub_eq w s sx sy n0 c n cx cy X Y hc hcc hx hy hle hm sepx sepy
    · exact nat_sub_gt w s sx sy n0 c n d cx cy X Y hc hcc hx hy hle hm sepx sepy
theorem cmp_step {B : Nat} {xs ys : List Nat} {k x y : Nat} (hx : xs[k]? = some x) (hy : ys[k]? = some y) (he : xs.drop (k + 1) = ys.drop (k + 1)) (hbx : Lt B xs) (hlt : x < y) : val B xs < val B ys :=by
  rw [val_split hx,val_split hy,he]
  have h1 :=val_lt (hbx.take k)
  rw [List.length_take,Nat.min_eq_left (Nat.le_of_lt (List.getElem?_eq_some_iff.1 hx).1)] at h1
  have h2 : B ^ k * (x + 1 + B * val B (ys.drop (k + 1))) ≤ B ^ k * (y + B * val B (ys.drop (k + 1))) :=Nat.mul_le_mul (Nat.le_refl _) (by omega)
  rw [show x + 1 + B * val B (ys.drop (k + 1)) = x + B * val B (ys.drop (k + 1)) + 1 by omega,Nat.mul_add,Nat.mul_one] at h2
  omega
theorem NatAt.lt_of_len {w : World} {sx sy : Option Addr} {m n cx cy X Y : Nat} (hx : NatAt w sx m cx X) (hy : NatAt w sy n cy Y) (h : m < n) : X < Y :=by
  rcases Nat.lt_or_ge X Y with h1 | h1
  · exact h1
  · have :=hx.len_le hy h1
    omega
theorem cmp_same {B : Nat} {xs ys : List Nat} {x : Nat} (hx : xs[0]? = some x) (hy : ys[0]? = some x) (he : xs.drop 1 = ys.drop 1) : val B xs = val B ys :=by
  rw [val_split hx,val_split hy,he]
  simp
def cmpI (X Y : Nat) : Int :=if X < Y then -1 else if Y < X then 1 else 0
theorem nat_cmp (w : World) (sx sy : Option Addr) (m n cx cy X Y : Nat) (hx : NatAt w sx m cx X) (hy : NatAt w sy n cy Y) :
    Calls Tryz.prog 109 #[.slice sx m cx,.slice sy n cy] w fun e w' => e = .returned (.int .i64 (cmpI X Y)) ∧ Kept w w' :=by
  have hmb : m ≤ Big :=by obtain ⟨_,_,_,_,h,_⟩ :=hx;exact h
  have hnb : n ≤ Big :=by obtain ⟨_,_,_,_,h,_⟩ :=hy;exact h
  unfold Big at hmb hnb
  rcases Nat.lt_trichotomy m n with hmn | rfl | hmn
  · have hlt :=hx.lt_of_len hy hmn
    have hv : cmpI X Y = -1 :=by simp [cmpI,hlt]
    rw [hv]
    go_enter Tryz.func109,Tryz.ntmps109
    go_wp2
    first | go_ret | refine ⟨_,results_tmp rfl _ _ _,?_⟩
    exact ⟨rfl,Chg.refl _ _⟩
  · cases m with
    | zero =>
      obtain rfl :=hx.zero
      obtain rfl :=hy.zero
      have hv : cmpI 0 0 = 0 :=by simp [cmpI]
      rw [hv]
      go_enter Tryz.func109,Tryz.ntmps109
      go_wp2
      first | go_ret | refine ⟨_,results_tmp rfl _ _ _,?_⟩
      exact ⟨rfl,Chg.refl _ _⟩
    | succ m =>
      obtain ⟨bx,ox,xs,rfl,hrx,hlx,hltx,-,rfl,hwx,nfx,hx1,hx2,hbx⟩ :=hx.open
      obtain ⟨by',oy,ys,rfl,hry,hly,hlty,-,rfl,hwy,nfy,hy1,hy2,hby⟩ :=hy.open
      clear hx hy
      unfold Big at hx2 hy2
      go_enter Tryz.func109,Tryz.ntmps109
      go_wp2
      go_loopw [7] (fun i wr => ∃ k : Nat,k ≤ m ∧ i = .int .i64 k ∧ xs.drop (k + 1) = ys.drop (k + 1) ∧ Kept w wr) (fun i _ => (intOf i).toNat)
      case atStart => exact ⟨m,Nat.le_refl _,by go_num,by rw [List.drop_eq_nil_of_le (by omega),List.drop_eq_nil_of_le (by omega)],Chg.refl _ _⟩
      case round =>
        obtain ⟨k,hk,rfl,he,hkp⟩ :=hrel
        have gx : xs[k]? = some xs[k] :=List.getElem?_eq_getElem (by omega)
        have gy : ys[k]? = some ys[k] :=List.getElem?_eq_getElem (by omega)
        generalize xs[k] = x at gx
        generalize ys[k] = y at gy
        have cx1 :=(hrx.keep hkp) k x gx
        have cy1 :=(hry.keep hkp) k y gy
        rcases Nat.lt_trichotomy x y with hxy | rfl | hxy
        · have hv : cmpI (val W64 xs) (val W64 ys) = -1 :=by simp [cmpI,cmp_step gx gy he hltx hxy]
          have hne : ((x : Int) == (y : Int)) = false :=by simp;omega
          by_cases hk0 : 0 < k
          · go_wp2_with (first
              | (refine wp_region_lit_segs (id :=9) [[0,1,2,3,4,5,6,7,8,9,10,11,12]] mixed (by kernel_rfl) ?_;simp only [wpSegsL,gaC,gaN,lZ0,lS0,coS])
              | (refine wp_region_lit_segs (id :=11) [[0,1,2,3,4,5,6,7,8,9]] mixed (by kernel_rfl) ?_;simp only [wpSegsL,gaC,gaN,lZ0,lS0,coS])
              | (refine wp_region_lit_segs (id :=13) [[0,1,2,3,4,5,6,7,8,9]] mixed (by kernel_rfl) ?_;simp only [wpSegsL,gaC,gaN,lZ0,lS0,coS])
              | refine ⟨by kernel_rfl,?_⟩)
            exact ⟨_,results_tmp rfl _ _ _,by first | rfl | (rw [hv];rfl),hkp.drew.drew⟩
          · obtain rfl : k = 0 :=by omega
            simp only [Nat.add_zero] at cx1 cy1
            go_wp2_with (first
              | (refine wp_region_lit_segs (id :=9) [[0,1,2,3,4,5,6,7,8,9,10,11,12]] mixed (by kernel_rfl) ?_;simp only [wpSegsL,gaC,gaN,lZ0,lS0,coS])
              | (refine wp_region_lit_segs (id :=11) [[0,1,2,3,4,5,6,7,8,9]] mixed (by kernel_rfl) ?_;simp only [wpSegsL,gaC,gaN,lZ0,lS0,coS])
              | (refine wp_region_lit_segs (id :=13) [[0,1,2,3,4,5,6,7,8,9]] mixed (by kernel_rfl) ?_;simp only [wpSegsL,gaC,gaN,lZ0,lS0,coS])
              | refine ⟨by kernel_rfl,?_⟩)
            exact ⟨_,results_tmp rfl _ _ _,by first | rfl | (rw [hv];rfl),hkp.drew.drew⟩
        · cases k with
          | succ k =>
            go_wp2_with (first
              | (refine wp_region_lit_segs (id :=9) [[0,1,2,3,4,5,6,7,8,9,10,11,12]] mixed (by kernel_rfl) ?_;simp only [wpSegsL,gaC,gaN,lZ0,lS0,coS])
              | (refine wp_region_lit_segs (id :=11) [[0,1,2,3,4,5,6,7,8,9]] mixed (by kernel_rfl) ?_;simp only [wpSegsL,gaC,gaN,lZ0,lS0,coS])
              | (refine wp_region_lit_segs (id :=13) [[0,1,2,3,4,5,6,7,8,9]] mixed (by kernel_rfl) ?_;simp only [wpSegsL,gaC,gaN,lZ0,lS0,coS])
              | refine ⟨by kernel_rfl,?_⟩)
            go_roundw
            case rel => exact ⟨k,by omega,by go_num,by rw [drop_get gx,drop_get gy,he],hkp.drew⟩
            case measure => simp [intOf]
          | zero =>
            simp only [Nat.add_zero] at cx1 cy1
            have hv : cmpI (val W64 xs) (val W64 ys) = 0 :=by simp [cmpI,cmp_same (B :=W64) gx gy he]
            go_wp2_with (first
              | (refine wp_region_lit_segs (id :=9) [[0,1,2,3,4,5,6,7,8,9,10,11,12]] mixed (by kernel_rfl) ?_;simp only [wpSegsL,gaC,gaN,lZ0,lS0,coS])
              | (refine wp_region_lit_segs (id :=11) [[0,1,2,3,4,5,6,7,8,9]] mixed (by kernel_rfl) ?_;simp only [wpSegsL,gaC,gaN,lZ0,lS0,coS])
              | (refine wp_region_lit_segs (id :=13) [[0,1,2,3,4,5,6,7,8,9]] mixed (by kernel_rfl) ?_;simp only [wpSegsL,gaC,gaN,lZ0,lS0,coS])
              | refine ⟨by kernel_rfl,?_⟩)
            exact ⟨_,results_tmp rfl _ _ _,by first | rfl | (rw [hv];rfl),hkp.drew.drew.drew⟩
        · have hl :=cmp_step gy gx he.symm hlty hxy
          have hv : cmpI (val W64 xs) (val W64 ys) = 1 :=by simp [cmpI,hl];omega
          have hne : ((x : Int) == (y : Int)) = false :=by simp;omega
          by_cases hk0 : 0 < k
          · go_wp2_with (first
              | (refine wp_region_lit_segs (id :=9) [[0,1,2,3,4,5,6,7,8,9,10,11,12]] mixed (by kernel_rfl) ?_;simp only [wpSegsL,gaC,gaN,lZ0,lS0,coS])
              | (refine wp_region_lit_segs (id :=11) [[0,1,2,3,4,5,6,7,8,9]] mixed (by kernel_rfl) ?_;simp only [wpSegsL,gaC,gaN,lZ0,lS0,coS])
              | (refine wp_region_lit_segs (id :=13) [[0,1,2,3,4,5,6,7,8,9]] mixed (by kernel_rfl) ?_;simp only [wpSegsL,gaC,gaN,lZ0,lS0,coS])
              | refine ⟨by kernel_rfl,?_⟩)
            exact ⟨_,results_tmp rfl _ _ _,by first | rfl | (rw [hv];rfl),hkp.drew.drew.drew⟩
          · obtain rfl : k = 0 :=by omega
            simp only [Nat.add_zero] at cx1 cy1
            go_wp2_with (first
              | (refine wp_region_lit_segs (id :=9) [[0,1,2,3,4,5,6,7,8,9,10,11,12]] mixed (by kernel_rfl) ?_;simp only [wpSegsL,gaC,gaN,lZ0,lS0,coS])
              | (refine wp_region_lit_segs (id :=11) [[0,1,2,3,4,5,6,7,8,9]] mixed (by kernel_rfl) ?_;simp only [wpSegsL,gaC,gaN,lZ0,lS0,coS])
              | (refine wp_region_lit_segs (id :=13) [[0,1,2,3,4,5,6,7,8,9]] mixed (by kernel_rfl) ?_;simp only [wpSegsL,gaC,gaN,lZ0,lS0,coS])
              | refine ⟨by kernel_rfl,?_⟩)
            exact ⟨_,results_tmp rfl _ _ _,by first | rfl | (rw [hv];rfl),hkp.drew.drew.drew⟩
  · have hlt :=hy.lt_of_len hx hmn
    have hv : cmpI X Y = 1 :=by simp [cmpI,hlt];omega
    rw [hv]
    go_enter Tryz.func109,Tryz.ntmps109
    go_wp2
    first | go_ret | refine ⟨_,results_tmp rfl _ _ _,?_⟩
    exact ⟨rfl,Chg.refl _ _⟩
end Go.Proofs.YtfmmdamgcpiciaaGreatDoor
namespace Go.Proofs.YtfmmdamgcpiciaaGreatDoor
open Go Go.RowKit
inductive Plan where
  | fin : Plan
  | seg (s : List Nat) (next : Plan) : Plan
  | two (i j : Nat) (p q : Plan) : Plan
def Plan.isFin : Plan → Bool
  | .fin => true
  | _ => false
def Plan.len : Plan → Nat
  | .fin => 0
  | .seg s n => s.length + n.len
  | .two _ _ p _ => p.len + 1
def Plan.lasts : Plan → List Nat
  | .fin => []
  | .seg s n => (if n.isFin then [] else s.getLast?.toList) ++ n.lasts
  | .two i j p q => i :: j :: (p.lasts ++ q.lasts)
section
variable (P : Program) (ops : Array Oper)
def Plan.quiet : Plan → Bool → List Nat
  | .fin,_ => []
  | .seg s n,p => quietB P ops s p ++ n.quiet (p && s.all fun i => match ops[i]? with | some o => let k :=kindOf P o;k == 0 || k == 1 || k == 2 | none => false)
  | .two _ _ a b,_ => a.quiet false ++ b.quiet false
def planB (flag qt : Nat → Bool) : Plan → Array Bool → Bool → Bool
  | .fin,l,_ => Region.ready .any ops l == []
  | .seg s n,l,p => match segB P ops flag qt n.isFin s l p true with
    | some (l',p',_) => planB flag qt n l' p'
    | none => false
  | .two i j a b,l,_ => Region.ready .any ops l == [i,j] && !qt i && !qt j && a.len == b.len && planB flag qt a (l.setIfInBounds i true) false && planB flag qt b (l.setIfInBounds j true) false
def regP (plan : Plan) : Bool :=
  let ql :=plan.quiet P ops true
  let fl :=plan.lasts.filter fun i => !ql.contains i
  (ql.all fun i => !fl.contains i) && Region.noSelect ops && plan.len == ops.size && planB P ops (fun j => fl.contains j) (fun j => ql.contains j) plan (Array.replicate ops.size false) true
def wpPlan (W : World) (N : Act → World → Prop) : Plan → Act → World → Prop
  | .fin,a,w => N a w
  | .seg s n,a,w => wpList P ops (Exit.then (fun a' w' => fineSeg P ops s a' = true ∧ (n.isFin = false → Old W w') ∧ wpPlan W N n a' w') (fun _ _ _ => False)) (s.filterMap (ops[·]?)) a w
  | .two i j p q,a,w =>
    wpList P ops (Exit.then (fun a' w' => Old W w' ∧ wpPlan W N p a' w') (fun _ _ _ => False)) ([i].filterMap (ops[·]?)) a w ∧
    wpList P ops (Exit.then (fun a' w' => Old W w' ∧ wpPlan W N q a' w') (fun _ _ _ => False)) ([j].filterMap (ops[·]?)) a w
end
section
variable {P : Program} {ops : Array Oper} {W : World} {flag qt : Nat → Bool}
theorem wpOp_of_wpList {K : Act → World → Prop} {N : Act → World → Prop} {i : Nat} {a : Act} {w : World} (hi : i < ops.size)
    (h : wpList P ops (Norm K) ([i].filterMap (ops[·]?)) a w) : wpOp P ops (Norm N) i K a w :=by
  have ho : ops[i]? = some ops[i] :=Array.getElem?_eq_getElem hi
  have hl : [i].filterMap (ops[·]?) = [ops[i]] :=by simp [ho]
  rw [hl] at h
  unfold wpOp
  simp only [ho]
  simp only [wpList] at h
  split
  · rename_i hw
    rw [if_pos hw] at h
    rcases h with h | ⟨_,h⟩
    · exact .inl (wp_strict (fun a w hx => hx) h)
    · exact absurd h Norm.out
  · rename_i hw
    rw [if_neg hw] at h
    exact h
theorem wpList_mono_norm {M M' : Act → World → Prop} (hm : ∀ a w,M a w → M' a w) : ∀ (L : List Oper) (a : Act) (w : World),wpList P ops (Norm M) L a w → wpList P ops (Norm M') L a w
  | [],a,w,h => hm _ _ h
  | o :: L,a,w,h => by
    simp only [wpList] at h ⊢
    split
    · rename_i hw
      rw [if_pos hw] at h
      rcases h with h | ⟨_,h⟩
      · exact .inl (wp_strict (wpList_mono_norm hm L) h)
      · exact absurd h Norm.out
    · rename_i hw
      rw [if_neg hw] at h
      exact wpList_mono_norm hm L _ _ h
theorem ready_lt {l : Array Bool} {i : Nat} (h : i ∈ Region.ready .any ops l) : i < ops.size :=by
  simp only [Region.ready,List.mem_filter,List.mem_range] at h
  exact h.1
theorem plan_sound {N : Act → World → Prop} (hsel : Region.noSelect ops = true) (hqf : ∀ i,qt i = true → flag i = false) :
    ∀ (plan : Plan) (l : Array Bool) (p : Bool) (a : Act) (w : World),planB P ops flag qt plan l p = true →
      (p = true → w = W) → Old W w → l.size = ops.size → wpPlan P ops W N plan a w → wpAnyF P ops (Norm N) W flag qt plan.len l a w
  | .fin,l,p,a,w,hs,hp,hq,hsz,h => by
    have hr : Region.ready .any ops l = [] :=by simpa [planB] using hs
    exact ⟨hr,h⟩
  | .seg s n,l,p,a,w,hs,hp,hq,hsz,h => by
    simp only [planB] at hs
    cases hb : segB P ops flag qt n.isFin s l p true with
    | none => rw [hb] at hs;cases hs
    | some r =>
      obtain ⟨l',p',q'⟩ :=r
      rw [hb] at hs
      have hsz' : l'.size = ops.size :=(segB_size n.isFin s l p true l' p' q' hb).trans hsz
      refine seg_sound (N :=N) (N' :=wpPlan P ops W N n) n.isFin hsel hqf l' p' q' n.len (fun a w h1 h2 hn => ?_) s l p true a w hb hp (fun _ => hq) hsz h
      cases hf : n.isFin
      · exact plan_sound hsel hqf n l' p' a w hs h2 (h1 hf) hsz' hn
      · cases n with
        | fin =>
          have hr : Region.ready .any ops l' = [] :=by simpa [planB] using hs
          exact ⟨hr,hn⟩
        | seg _ _ => cases hf
        | two _ _ _ _ => cases hf
  | .two i j A B,l,p,a,w,hs,hp,hq,hsz,h => by
    simp only [planB,Bool.and_eq_true,beq_iff_eq,Bool.not_eq_true'] at hs
    obtain ⟨⟨⟨⟨⟨hrd,hqi⟩,hqj⟩,hlen⟩,hA⟩,hB⟩ :=hs
    refine ⟨fun h0 => by (rw [hrd] at h0;cases h0),fun k hk => ?_⟩
    have hks :=ready_lt hk
    rw [hrd] at hk
    rcases List.mem_cons.1 hk with rfl | hk
    · refine wpOp_of_wpList hks ?_
      refine wpList_mono_norm ?_ _ _ _ h.1
      intro a' w' hx
      exact ⟨fun _ => hx.1,fun hq' => (by rw [hqi] at hq';cases hq'),plan_sound hsel hqf A _ false a' w' hA (fun h => by cases h) hx.1 (by simpa using hsz) hx.2⟩
    · obtain rfl : k = j :=by simpa using hk
      refine wpOp_of_wpList hks ?_
      refine wpList_mono_norm ?_ _ _ _ h.2
      intro a' w' hx
      refine ⟨fun _ => hx.1,fun hq' => (by rw [hqj] at hq';cases hq'),?_⟩
      show wpAnyF P ops (Norm N) W flag qt A.len _ a' w'
      rw [hlen]
      exact plan_sound hsel hqf B _ false a' w' hB (fun h => by cases h) hx.1 (by simpa using hsz) hx.2
theorem wp_region_plan {Q : Exit → Act → World → Prop} {id : Nat} {a : Act} {w : World} (plan : Plan) (hm : P.follows .mixedOrders = true) (hc : regP P ops plan = true)
    (h : wpPlan P ops w.drew (fun a' w' => Q .normal a' w') plan a w.drew) : (Code.region id ops true).wp P Q a w :=by
  simp only [regP,Bool.and_eq_true,List.all_eq_true,Bool.not_eq_true',beq_iff_eq] at hc
  obtain ⟨⟨⟨hqf,hsel⟩,hlen⟩,hs⟩ :=hc
  have h1 :=plan_sound (W :=w.drew) hsel (fun i hi => hqf i (by simpa using hi)) plan _ true a w.drew hs (fun _ => rfl) (Old.refl _) (by simp) h
  rw [hlen] at h1
  have h2 : (Code.region id ops true).wp P (Norm fun a' w' => Q .normal a' w') a w :=wp_region_any hm (wpAny_of_flag _ _ _ _ h1)
  exact Code.wp_mono (fun e a w hq => by cases e <;> first | exact hq | exact hq.elim) h2
end
def wpPlanL (P : Program) (ops : List Oper) (W : World) (N : Act → World → Prop) : Plan → Act → World → Prop
  | .fin,a,w => N a w
  | .seg s .fin,a,w => wpList P ops.toArray (Exit.then (fun a' w' => fineSeg P ops.toArray s a' = true ∧ N a' w') (fun _ _ _ => False)) (getAll ops s) a w
  | .seg s n,a,w => wpList P ops.toArray (Exit.then (fun a' w' => fineSeg P ops.toArray s a' = true ∧ Old W w' ∧ wpPlanL P ops W N n a' w') (fun _ _ _ => False)) (getAll ops s) a w
  | .two i j p q,a,w =>
    wpList P ops.toArray (Exit.then (fun a' w' => Old W w' ∧ wpPlanL P ops W N p a' w') (fun _ _ _ => False)) (getAll ops [i]) a w ∧
    wpList P ops.toArray (Exit.then (fun a' w' => Old W w' ∧ wpPlanL P ops W N q a' w') (fun _ _ _ => False)) (getAll ops [j]) a w
theorem wpPlanL_seg (P : Program) (ops : List Oper) (W : World) (N : Act → World → Prop) (s : List Nat) (n : Plan) (a : Act) (w : World) (h : wpPlanL P ops W N (.seg s n) a w) :
    wpList P ops.toArray (Norm (fun a' w' => fineSeg P ops.toArray s a' = true ∧ (n.isFin = false → Old W w') ∧ wpPlanL P ops W N n a' w')) (getAll ops s) a w :=by
  cases n
  · exact wpList_mono_norm (M :=fun a' w' => fineSeg P ops.toArray s a' = true ∧ N a' w') (fun a' w' hx => ⟨hx.1,(fun h => by cases h),hx.2⟩) _ _ _ h
  · exact wpList_mono_norm (M :=fun a' w' => fineSeg P ops.toArray s a' = true ∧ Old W w' ∧ wpPlanL P ops W N _ a' w') (fun a' w' hx => ⟨hx.1,fun _ => hx.2.1,hx.2.2⟩) _ _ _ h
  · exact wpList_mono_norm (M :=fun a' w' => fineSeg P ops.toArray s a' = true ∧ Old W w' ∧ wpPlanL P ops W N _ a' w') (fun a' w' hx => ⟨hx.1,fun _ => hx.2.1,hx.2.2⟩) _ _ _ h
theorem wpPlanL_to (P : Program) (ops : List Oper) (W : World) (N : Act → World → Prop) : ∀ (plan : Plan) (a : Act) (w : World),wpPlanL P ops W N plan a w → wpPlan P ops.toArray W N plan a w
  | .fin,a,w,h => h
  | .seg s n,a,w,h => by
    have h :=wpPlanL_seg P ops W N s n a w h
    rw [getAll_eq] at h
    exact wpList_mono_norm (fun a' w' hx => ⟨hx.1,hx.2.1,wpPlanL_to P ops W N n a' w' hx.2.2⟩) _ _ _ h
  | .two i j p q,a,w,h => by
    have h1 : wpList P ops.toArray (Norm (fun a' w' => Old W w' ∧ wpPlanL P ops W N p a' w')) (getAll ops [i]) a w :=h.1
    have h2 : wpList P ops.toArray (Norm (fun a' w' => Old W w' ∧ wpPlanL P ops W N q a' w')) (getAll ops [j]) a w :=h.2
    rw [getAll_eq] at h1 h2
    exact ⟨wpList_mono_norm (fun a' w' hx => ⟨hx.1,wpPlanL_to P ops W N p a' w' hx.2⟩) _ _ _ h1,wpList_mono_norm (fun a' w' hx => ⟨hx.1,wpPlanL_to P ops W N q a' w' hx.2⟩) _ _ _ h2⟩
theorem wp_region_lit_plan {P : Program} {Q : Exit → Act → World → Prop} {id : Nat} {l : List Oper} {a : Act} {w : World} (plan : Plan) (hm : P.follows .mixedOrders = true) (hc : regP P l.toArray plan = true)
    (h : wpPlanL P l w.drew (fun a' w' => Q .normal a' w') plan a w.drew) : (Code.region id l.toArray true).wp P Q a w :=wp_region_plan plan hm hc (wpPlanL_to _ _ _ _ _ _ _ h)
end Go.Proofs.YtfmmdamgcpiciaaGreatDoor
namespace Go.Proofs.YtfmmdamgcpiciaaGreatDoor
open Go Go.RowKit
theorem clearRun (w : World) (b o n c : Nat) (hn : 0 < n) (hw : Wr w b o n) :
    (Builtin.clear_ #[110] 0 #[.slice (some ⟨b,o,none⟩) n c]).run Tryz.prog w = .ok (.tuple #[]) (w.setCells b o ((List.replicate n 0).map fun (x : Nat) => Value.int .u64 x)) :=by
  have :=Lib.run_clear_slice (P :=Tryz.prog) w 110 109 0 (.int .u64 0) Tryz.underlying110 (fun w => by kernel_rfl) rfl rfl b o n c hn (fun j hj => by obtain ⟨⟨v,hv⟩,_⟩ :=hw j hj;simp [hv]) (fun j hj => (hw j hj).2)
  rw [this];simp
theorem val_zeros (B n : Nat) : val B (List.replicate n 0) = 0 :=by
  induction n with
  | zero => rfl
  | succ n ih => simp [List.replicate_succ,val,ih]
theorem Lt.zeros {B : Nat} (hB : 0 < B) (n : Nat) : Lt B (List.replicate n 0) :=fun x hx => by
  obtain ⟨_,rfl⟩ :=List.mem_replicate.1 hx;exact hB
theorem Row.left {k : IntKind} {w : World} {b o : Nat} {xs ys : List Nat} (h : Row k w b o (xs ++ ys)) : Row k w b o xs :=fun j x hj => h j x (by
  rw [List.getElem?_append_left (List.getElem?_eq_some_iff.1 hj).1];exact hj)
theorem Row.right {k : IntKind} {w : World} {b o : Nat} {xs ys : List Nat} (h : Row k w b o (xs ++ ys)) : Row k w b (o + xs.length) ys :=fun j x hj => by
  have :=h (xs.length + j) x (by rw [List.getElem?_append_right (by omega),Nat.add_sub_cancel_left];exact hj)
  rw [Nat.add_assoc];exact this
theorem mul_arith {P T D Z Q c X d V : Nat} (h : Z + Q * c = D + X * d + 0) (hv : T + P * D = X * V) : T + P * Z + P * Q * c = X * (V + P * d) :=by
  have e : P * Z + P * Q * c = P * D + P * (X * d) :=by
    rw [Nat.mul_assoc,← Nat.mul_add,h,Nat.add_zero,Nat.mul_add]
  rw [Nat.mul_add,← hv,← Nat.mul_assoc X P d,Nat.mul_comm X P,Nat.mul_assoc P X d]
  omega
theorem basicMul (w : World) (bz oz bx ox by' oy m n cz cx cy : Nat) (xs ys : List Nat) (hm : 0 < m) (hmB : m ≤ Big) (hnB : n ≤ Big)
    (hx : Row .u64 w bx ox xs) (hy : n = 0 ∨ Row .u64 w by' oy ys) (hlx : xs.length = m) (hly : ys.length = n) (hbx : Lt W64 xs) (hby : Lt W64 ys) (hz : Wr w bz oz (m + n)) (hcz : m + n ≤ cz) (hcx : m ≤ cx)
    (fx : bx ≠ bz) (fy : by' ≠ bz) :
    Calls Tryz.prog 143 #[.slice (some ⟨bz,oz,none⟩) (m + n) cz,.slice (some ⟨bx,ox,none⟩) m cx,.slice (some ⟨by',oy,none⟩) n cy] w fun e w' => ∃ zs,e = .returned (.tuple #[]) ∧ zs.length = m + n ∧ Row .u64 w' bz oz zs ∧ Lt W64 zs ∧
      val W64 zs = val W64 xs * val W64 ys ∧ Chg w w' (In bz oz (m + n)) :=by
  have hcl :=clearRun w bz oz (m + n) cz (by omega) hz
  unfold Big at hmB hnB
  go_enter Tryz.func143,Tryz.ntmps143
  go_wp2
  go_loopw [17] (fun i wr => ∃ (k : Nat) (ps : List Nat),k ≤ n ∧ i = .int .i64 k ∧ ps.length = m + k ∧ Row .u64 wr bz oz (ps ++ List.replicate (n - k) 0) ∧ Lt W64 ps ∧
      val W64 ps = val W64 xs * val W64 (ys.take k) ∧ Chg w wr (In bz oz (m + n))) (fun i _ => n - (intOf i).toNat)
  case atStart =>
    refine ⟨0,List.replicate m 0,Nat.zero_le _,rfl,by simp,?_,Lt.zeros (by decide) m,by simp [val_zeros,val],?_⟩
    · rw [List.replicate_append_replicate,Nat.sub_zero]
      have :=Row.setCells (List.replicate (m + n) 0) (w :=w) (b :=bz) (o :=oz) (by simpa using hz)
      simpa using this
    · have :=Chg.setCells bz ((List.replicate (m + n) 0).map fun (x : Nat) => Value.int .u64 x) oz w
      simpa using this
  case round =>
    obtain ⟨k,ps,hk,rfl,hlp,hrow,hltp,hval,hchg⟩ :=hrel
    by_cases hlt : k < n
    · have hy :=hy.resolve_left (by omega)
      have gy : ys[k]? = some ys[k] :=List.getElem?_eq_getElem (by omega)
      have by1 : ys[k] < W64 :=hby _ (List.getElem_mem _)
      have hvt : val W64 (ys.take (k + 1)) = val W64 (ys.take k) + W64 ^ k * ys[k] :=val_take_succ (by omega)
      generalize ys[k] = d at gy by1 hvt
      have cy1 :=hy k d gy
      have cy2 : wr.cell? ⟨by',oy + k,none⟩ = some (.int .u64 d) :=by
        rw [hchg.cell by' (oy + k) (lt_of_cell cy1) (fun h => fy h.1)];exact cy1
      have hsplit : List.replicate (n - k) 0 = [0] ++ List.replicate (n - (k + 1)) 0 :=by
        rw [show n - k = n - (k + 1) + 1 by omega,List.replicate_succ];rfl
      rw [hsplit] at hrow
      by_cases hd : d = 0
      · subst hd
        go_wp2
        go_roundw
        case rel => exact ⟨k + 1,ps ++ [0],hlt,by go_num,by simp [hlp];omega,by rw [List.append_assoc];exact hrow,hltp.snoc (by decide),by rw [val_snoc,hvt,hval];simp,hchg⟩
        case measure => simp [intOf];omega
      · have hne : ((d : Int) == 0) = false :=by simp;omega
        have hkz : k < cz :=by omega
        have hsz : (Chg w wr (In bz oz (m + n))) :=hchg
        have hrl : Row .u64 wr bz oz ps :=hrow.left
        have hcall :=fun (W : World) (hW : Chg wr W None2) => addMulVVWW_g W (some ⟨bz,oz + k,none⟩) (some ⟨bz,oz + k,none⟩) (some ⟨bx,ox,none⟩) bz (oz + k) bz (oz + k) bx ox m (cz - k) (cz - k) cx d 0 (ps.drop k) xs (by omega) (fun _ => rfl) (fun _ => rfl) (fun _ => rfl)
          ((hrl.drop k).keep hW) ((hx.chg hchg (fun j _ h => fx h.1)).keep hW) (by simp [hlp]) hlx (hltp.drop k) hbx by1 (by decide) (((hz.chg hchg).sub k m (by omega)).chg hW) (.inr (.inl (Nat.le_refl _))) (.inl fx)
        go_wp2_with (first
          | (refine wp_region_lit_segs (id :=5) [[0,1,2,3,4,5,6,7,8,9,10,11,12,13,14,15,16,17,18,19,20,21,22,23]] mixed (by kernel_rfl) ?_;simp only [wpSegsL,gaC,gaN,lZ0,lS0,coS])
          | refine ⟨by kernel_rfl,?_⟩
          | (go_at_call 169;refine addMulVVWW _ _ _ _ _ _ _ ?_;refine (hcall _ (Chg.refl _ _).drew).mono ?_;rintro e w2 ⟨zs,c,rfl,g1,g2,g3,g4,g5,g6,g7⟩;refine ⟨_,rfl,?_⟩;obtain ⟨⟨u,hu⟩,hzf⟩ :=((hz.chg hchg).chg g6.of_drew) (m + k) (by omega)))
        go_roundw
        case rel =>
          have hl2 : (ps.take k ++ zs).length = m + k :=by simp [g1,hlp];omega
          have hr1 : Row .u64 w2 bz oz (ps.take k ++ zs) :=Row.app ((hrl.take k).chg g6.of_drew (fun j hj h => by have :=h.2.1;simp [hlp] at hj;omega)) (by rw [List.length_take,hlp,Nat.min_eq_left (by omega)];exact g2)
          have hr2 : Row .u64 (w2.setCell ⟨bz,oz + (m + k),none⟩ (.int .u64 c)) bz oz ((ps.take k ++ zs) ++ [c]) :=by
            rw [← hl2];exact hr1.store c ⟨u,by rw [hl2];exact hu⟩
          have hrr :=hrow.right.right
          rw [hlp] at hrr
          have hr3 : Row .u64 (w2.setCell ⟨bz,oz + (m + k),none⟩ (.int .u64 c)) bz (oz + (m + k) + 1) (List.replicate (n - (k + 1)) 0) :=by
            refine Row.chg (M :=fun b o => In bz (oz + k) m b o ∨ In bz (oz + (m + k)) 1 b o) hrr ?_ ?_
            · exact (g6.of_drew.mono fun _ _ _ h => Or.inl h).trans (Chg.setCell _ _ _ _ (fun b o => In bz (oz + (m + k)) 1 b o) fun _ => ⟨rfl,by omega,by omega⟩) fun _ _ _ h => Or.inr h
            · rintro j hj (h | h)
              · have :=h.2.2;omega
              · have :=h.2.2;omega
          have hcut :=val_cut (B :=W64) (xs :=ps) (n :=k) (by omega)
          refine ⟨k + 1,ps.take k ++ zs ++ [c],hlt,by go_num,by simp [g1,hlp];omega,?_,((hltp.take k).app g3).snoc g5,?_,?_⟩
          · refine Row.app hr2 ?_
            have e : oz + (ps.take k ++ zs ++ [c]).length = oz + (m + k) + 1 :=by simp [g1,hlp];omega
            rw [e];exact hr3
          · have e2 : W64 ^ (ps.take k ++ zs).length = W64 ^ k * W64 ^ m :=by rw [hl2,Nat.add_comm m k,Nat.pow_add]
            rw [val_snoc,e2,val_append,List.length_take,hlp,Nat.min_eq_left (by omega),hvt]
            exact mul_arith g4 (by rw [← hcut];exact hval)
          · refine ((hchg.trans (g6.of_drew) (fun b o _ h => ⟨h.1,by have :=h.2.1;omega,by have :=h.2.2;omega⟩)).trans (Chg.setCell w2 bz (oz + (m + k)) (.int .u64 c) (In bz oz (m + n)) fun _ => ⟨rfl,by omega,by omega⟩) (fun _ _ _ h => h))
        case measure => simp [intOf];omega
    · go_wp2
      go_end0
      obtain rfl : k = n :=by omega
      rw [Nat.sub_self,List.replicate_zero,List.append_nil] at hrow
      rw [List.take_of_length_le (by omega)] at hval
      exact ⟨ps,rfl,hlp,hrow,hltp,hval,hchg⟩
end Go.Proofs.YtfmmdamgcpiciaaGreatDoor
namespace Go.Proofs.YtfmmdamgcpiciaaGreatDoor
open Go Go.RowKit
structure Glob (w : World) : Prop where
  sqrT : w.cell? ⟨2,0,none⟩ = some (.int .i64 12)
  ksqT : w.cell? ⟨3,0,none⟩ = some (.int .i64 80)
  karT : w.cell? ⟨4,0,none⟩ = some (.int .i64 40)
  divT : w.cell? ⟨5,0,none⟩ = some (.int .i64 40)
theorem Glob.chg {w w' : World} {M : Nat → Nat → Prop} (h : Glob w) (hc : Chg w w' M) (hm : ∀ b o,b < 6 → ¬ M b o) : Glob w' :=
  ⟨(hc.cell 2 0 (lt_of_cell h.sqrT) (hm _ _ (by omega))).trans h.sqrT,(hc.cell 3 0 (lt_of_cell h.ksqT) (hm _ _ (by omega))).trans h.ksqT,
   (hc.cell 4 0 (lt_of_cell h.karT) (hm _ _ (by omega))).trans h.karT,(hc.cell 5 0 (lt_of_cell h.divT) (hm _ _ (by omega))).trans h.divT⟩
theorem Glob.kept {w w' : World} (h : Glob w) (hc : Kept w w') : Glob w' :=h.chg hc fun _ _ _ x => x
theorem Glob.size {w : World} (h : Glob w) : 6 ≤ w.heap.size :=lt_of_cell h.divT
def Dis (s t : Option Addr) : Prop :=∀ a b,s = some a → t = some b → a.block ≠ b.block
theorem Dis.sep {s t : Option Addr} (h : Dis s t) : Sep s t :=.inr h
theorem Dis.symm {s t : Option Addr} (h : Dis s t) : Dis t s :=fun a b h1 h2 e => h b a h2 h1 e.symm
theorem Dis.nil (s : Option Addr) : Dis s Option.none :=fun _ _ _ h => by cases h
theorem Dis.nil' (s : Option Addr) : Dis Option.none s :=fun _ _ h => by cases h
theorem Dis.ne {w : World} {s : Option Addr} {c bx ox b o c' : Nat} (h : Dis (some ⟨bx,ox,Option.none⟩) s) (hf : Fr w s c (some ⟨b,o,Option.none⟩) c') (hb : bx < w.heap.size) : bx ≠ b :=by
  rcases hf with ⟨h1,_⟩ | ⟨b2,h1,h2⟩
  · exact h _ _ rfl h1.symm
  · simp only [Option.some.injEq,Addr.mk.injEq] at h1
    omega
theorem alias_dis (w : World) (s t : Option Addr) (n c n' c' : Nat) (hs : SlOk w s c) (ht : SlOk w t c') (hcc : c ≤ (8388607 * Big + 1099511627775)) (hcc' : c' ≤ (8388607 * Big + 1099511627775)) (hd : Dis s t) :
    Calls Tryz.prog 142 #[.slice s n c,.slice t n' c'] w fun e w' => e = .returned (.bool false) ∧ w' = w.drew :=by
  by_cases h0 : c = 0 ∨ c' = 0
  · exact alias_no w s t n c n' c' h0
  · obtain ⟨b,o,rfl,h1,n1,_⟩ :=hs.pos (by omega)
    obtain ⟨b',o',rfl,h2,n2,_⟩ :=ht.pos (by omega)
    refine (alias_two w b o b' o' n c n' c' (by omega) (by omega) hcc hcc' h1 h2 n1 n2).mono ?_
    rintro e w' ⟨rfl,h⟩
    have hb : b ≠ b' :=hd _ _ rfl rfl
    exact ⟨by simp [hb],h⟩
theorem NatAt.ok {w : World} {s : Option Addr} {n c X : Nat} (h : NatAt w s n c X) : SlOk w s c ∧ c ≤ (8388607 * Big + 1099511627775) ∧ n ≤ Big ∧ n ≤ c :=by
  obtain ⟨xs,_,h2,h3,h4,h5,_⟩ :=h
  exact ⟨h5,h3,h4,h2⟩
theorem SlOk.drew {w : World} {s : Option Addr} {c : Nat} (h : SlOk w s c) : SlOk w.drew s c :=h.chg (Chg.refl w (fun _ _ => False)).drew
theorem NatAt.drew {w : World} {s : Option Addr} {n c X : Nat} (h : NatAt w s n c X) : NatAt w.drew s n c X :=h.kept (Chg.refl w _).drew
theorem nat_mul_ge (w : World) (stk : Value) (s sx sy : Option Addr) (n0 c m n cx cy X Y : Nat) (hg : Glob w) (hc : SlOk w s c) (hcc : c ≤ (8388607 * Big + 1099511627775)) (hx : NatAt w sx m cx X) (hy : NatAt w sy n cy Y)
    (hmn : n ≤ m) (hm : 2 * m < Big) (hn : n < 40) (dx : Dis sx s) (dy : Dis sy s) :
    Calls Tryz.prog 128 #[.slice s n0 c,stk,.slice sx m cx,.slice sy n cy] w (GotNat w s c (X * Y)) :=by
  have hge : ¬ m < n :=by omega
  rcases (by omega : n = 0 ∨ n = 1 ∨ 1 < n) with h0 | h1 | h2
  · subst h0
    obtain rfl :=hy.zero
    unfold Big at *
    by_cases hm0 : m = 0
    · subst hm0
      go_enter Tryz.func128,Tryz.ntmps128
      go_wp2
      first | go_ret | refine ⟨_,results_tmp rfl _ _ _,?_⟩
      exact ⟨s,0,c,rfl,sliceNil_nat hc (by unfold Big;omega),.inl ⟨rfl,rfl⟩,Chg.refl _ _⟩
    · have hm1 : ((m : Int) == 0) = false :=by simp;omega
      go_enter Tryz.func128,Tryz.ntmps128
      go_wp2
      first | go_ret | refine ⟨_,results_tmp rfl _ _ _,?_⟩
      exact ⟨s,0,c,rfl,sliceNil_nat hc (by unfold Big;omega),.inl ⟨rfl,rfl⟩,Chg.refl _ _⟩
  · subst h1
    obtain ⟨xs,a1,a2,a3,a4,a5,a6,a7,a8,rfl⟩ :=hx
    obtain ⟨by',oy,ys,rfl,hry,hly,hlty,-,rfl,hwy,nfy,hy1,hy2,hby⟩ :=NatAt.open (n :=0) hy
    obtain ⟨y,rfl⟩ : ∃ y,ys = [y] :=by
      match ys,hly with
      | [y],_ => exact ⟨y,rfl⟩
    have hcy :=hry 0 y rfl
    simp only [Nat.add_zero] at hcy
    have hs :=nat_mulAddWW w s sx n0 c m cx y 0 xs hc hcc a6 a1 a7 (by unfold Big at *;omega) (hlty y (by simp)) (by decide) dx.sep
    unfold Big at *
    have hm1 : ((m : Int) == 0) = false :=by simp;omega
    go_enter Tryz.func128,Tryz.ntmps128
    go_wp2_with (go_at_call 148;refine hs.mono ?_;rintro e w1 ⟨s',n',c',rfl,hg⟩)
    first | go_ret | refine ⟨_,results_tmp rfl _ _ _,?_⟩
    refine ⟨s',n',c',rfl,?_⟩
    simpa [val] using hg
  · obtain ⟨m,rfl⟩ : ∃ k,m = k + 1 :=⟨m - 1,by omega⟩
    obtain ⟨n,rfl⟩ : ∃ k,n = k + 1 :=⟨n - 1,by omega⟩
    have al1 :=alias_dis w s sx n0 c (m + 1) cx hc hx.ok.1 hcc hx.ok.2.1 dx.symm
    have al2 :=alias_dis w.drew s sy n0 c (n + 1) cy hc.drew hy.drew.ok.1 hcc hy.ok.2.1 dy.symm
    have hmk :=nat_make w.drew.drew s n0 c (m + 1 + (n + 1)) hc.drew.drew (by omega) (by unfold Big at *;omega)
    obtain ⟨bx,ox,xs,rfl,hrx,hlx,hltx,-,rfl,hwx,nfx,hx1,hx2,hbx⟩ :=hx.open
    obtain ⟨by',oy,ys,rfl,hry,hly,hlty,-,rfl,hwy,nfy,hy1,hy2,hby⟩ :=hy.open
    clear hx hy
    unfold Big at hm hcc hx2 hy2
    have h40 : decide ((n + 1 : Int) < 40) = true :=by simp;omega
    have hm0 : ((m : Int) + 1 == 0) = false :=by simp;omega
    have hn0 : ((n : Int) + 1 == 0) = false :=by simp;omega
    have hn1 : ((n : Int) + 1 == 1) = false :=by simp;omega
    go_enter Tryz.func128,Tryz.ntmps128
    go_wp2_with (first
      | (go_at_call 142;first | ((with_reducible refine al1.mono ?_);rintro e w' ⟨rfl,hw'⟩;rw [hw'];clear hw') | ((with_reducible refine al2.mono ?_);rintro e w' ⟨rfl,hw'⟩;rw [hw'];clear hw'))
      | (go_at_call 134;refine hmk.mono ?_;rintro e w1 ⟨s',c',rfl,h1,h2,h3,h4,h5⟩;obtain ⟨b,o,rfl,hw,hf,hb⟩ :=h3.pos (by omega);have gk :=(hg.kept h5.of_drew.of_drew).karT)
      | (go_at_call 143;refine (basicMul w1 b o bx ox by' oy (m + 1) (n + 1) c' cx cy xs ys (by omega) (by unfold Big;omega) (by unfold Big;omega) (hrx.keep h5.of_drew.of_drew) (.inr (hry.keep h5.of_drew.of_drew)) hlx hly hltx hlty (fun j hj => hw j (by omega)) (by omega) (by omega) (dx.ne h4 hbx) (dy.ne h4 hby)).mono ?_;rintro e w2 ⟨zs,rfl,g1,g2,g3,g4,g5⟩)
      | (go_at_call 106;refine (nat_norm _ _ (m + 1 + (n + 1)) c' zs (.inr ⟨b,o,rfl,g2⟩) g1 (by omega) h1).mono ?_;rintro e w3 ⟨rfl,hw3⟩;rw [hw3];clear hw3))
    first | go_ret | refine ⟨_,results_tmp rfl _ _ _,?_⟩
    refine ⟨_,_,c',rfl,trim_nat (by omega) (by unfold Big at *;omega) (by unfold Big;omega) (h3.chg g5) (.inr ⟨b,o,rfl,g2⟩) g3 g4,h4,?_⟩
    exact (h5.of_drew.of_drew.any (Blk s)).fr h4 rfl g5 fun _ _ h => h.1
theorem nat_mul (w : World) (stk : Value) (s sx sy : Option Addr) (n0 c m n cx cy X Y : Nat) (hg : Glob w) (hc : SlOk w s c) (hcc : c ≤ (8388607 * Big + 1099511627775)) (hx : NatAt w sx m cx X) (hy : NatAt w sy n cy Y)
    (hm : m < 40) (hn : n < 40) (dx : Dis sx s) (dy : Dis sy s) :
    Calls Tryz.prog 128 #[.slice s n0 c,stk,.slice sx m cx,.slice sy n cy] w (GotNat w s c (X * Y)) :=by
  by_cases h : n ≤ m
  · exact nat_mul_ge w stk s sx sy n0 c m n cx cy X Y hg hc hcc hx hy h (by unfold Big;omega) hn dx dy
  · have hs :=nat_mul_ge w stk s sy sx n0 c n m cy cx Y X hg hc hcc hy hx (by omega) (by unfold Big;omega) hm dy dx
    go_enter Tryz.func128,Tryz.ntmps128
    go_wp2_with (go_at_call 128;refine hs.mono ?_;rintro e w1 ⟨s',n',c',rfl,hg⟩)
    first | go_ret | refine ⟨_,results_tmp rfl _ _ _,?_⟩
    rw [Nat.mul_comm Y X] at hg
    exact ⟨s',n',c',rfl,hg⟩
theorem Row.two {w : World} {b o : Nat} {u0 u1 : Value} (x y : Nat) (h0 : w.cell? ⟨b,o,none⟩ = some u0) (h1 : w.cell? ⟨b,o + 1,none⟩ = some u1) :
    Row .u64 ((w.setCell ⟨b,o + 1,none⟩ (.int .u64 y)).setCell ⟨b,o,none⟩ (.int .u64 x)) b o [x,y] :=fun j z hj => by
  match j,hj with
  | 0,hj =>
    simp at hj;subst hj
    exact cell_setCell_eq ((cell_setCell_ne (by omega)).trans h0)
  | 1,hj =>
    simp at hj;subst hj
    exact (cell_setCell_ne (by omega)).trans (cell_setCell_eq h1)
theorem val_two (B a b : Nat) : val B [a,b] = a + B * b :=by simp [val]
theorem nat_sqr (w : World) (stk : Value) (s sx : Option Addr) (n0 c n cx X : Nat) (hg : Glob w) (hc : SlOk w s c) (hcc : c ≤ (8388607 * Big + 1099511627775)) (hx : NatAt w sx n cx X) (hn : n < 12) (dx : Dis sx s) :
    Calls Tryz.prog 127 #[.slice s n0 c,stk,.slice sx n cx] w (GotNat w s c (X * X)) :=by
  rcases (by omega : n = 0 ∨ n = 1 ∨ 1 < n) with h0 | h1 | h2
  · subst h0
    obtain rfl :=hx.zero
    unfold Big at *
    go_enter Tryz.func127,Tryz.ntmps127
    go_wp2
    first | go_ret | refine ⟨_,results_tmp rfl _ _ _,?_⟩
    exact ⟨s,0,c,rfl,sliceNil_nat hc (by unfold Big;omega),.inl ⟨rfl,rfl⟩,Chg.refl _ _⟩
  · subst h1
    have hmk :=nat_make w s n0 c 2 hc (by unfold Big;omega) (by unfold Big at *;omega)
    obtain ⟨by',oy,ys,rfl,hry,hly,hlty,-,rfl,hwy,nfy,hy1,hy2,hby⟩ :=NatAt.open (n :=0) hx
    obtain ⟨y,rfl⟩ : ∃ y,ys = [y] :=by
      match ys,hly with
      | [y],_ => exact ⟨y,rfl⟩
    have hcy :=hry 0 y rfl
    simp only [Nat.add_zero] at hcy
    have hyl : y < 18446744073709551616 :=hlty y (by simp)
    have hmw :=mulWW y y hyl hyl
    have hq : y * y / W64 < W64 :=Nat.div_lt_of_lt_mul (Nat.mul_lt_mul'' hyl hyl)
    have hr : y * y % W64 < W64 :=Nat.mod_lt _ (by decide)
    have hv : y * y % W64 + W64 * (y * y / W64) = y * y :=Nat.mod_add_div _ _
    unfold Big W64 at *
    generalize y * y / 18446744073709551616 = q at *
    generalize y * y % 18446744073709551616 = r at *
    go_enter Tryz.func127,Tryz.ntmps127
    go_wp2_with (first
      | (go_at_call 134;refine hmk.mono ?_;rintro e w1 ⟨s',c',rfl,h1,h2,h3,h4,h5⟩;obtain ⟨b,o,rfl,hw,hf,hb⟩ :=h3.pos (by omega);obtain ⟨⟨u0,hu0⟩,hz0⟩ :=hw 0 (by omega);obtain ⟨⟨u1,hu1⟩,hz1⟩ :=hw 1 (by omega);simp only [Nat.add_zero] at hu0 hz0;have hne : ¬ (b = b ∧ o = o + 1) :=(by omega);have hu0' :=(cell_setCell_ne (w :=w1) (v :=.int .u64 q) hne).trans hu0;have hz0' :=(frozen_setCell w1 b o b (o + 1) (.int .u64 q)).trans hz0)
      | (go_at_call 141;refine (hmw _).mono ?_;rintro e w' ⟨rfl,hw'⟩;rw [hw'];clear hw')
      | (go_at_call 106;have hrow :=Row.two r q hu0 hu1;refine (nat_norm _ _ 2 c' [r,q] (.inr ⟨b,o,rfl,hrow⟩) rfl (by omega) h1).mono ?_;rintro e w3 ⟨rfl,hw3⟩;rw [hw3];clear hw3))
    first | go_ret | refine ⟨_,results_tmp rfl _ _ _,?_⟩
    have s1 :=Chg.setCell w1 b (o + 1) (.int .u64 q) (fun b' _ => b' = b) fun _ => rfl
    have s2 :=Chg.setCell (w1.setCell ⟨b,o + 1,none⟩ (.int .u64 q)) b o (.int .u64 r) (fun b' _ => b' = b) fun _ => rfl
    refine ⟨_,_,c',rfl,trim_nat (by simpa using h1) (by unfold Big;omega) (by simp [Big]) ((h3.chg s1).chg s2) (.inr ⟨b,o,rfl,hrow⟩) ?_ (by rw [val_two];simpa [val] using hv),h4,?_⟩
    · intro z hz
      simp at hz
      unfold W64
      rcases hz with rfl | rfl
      · exact hr
      · exact hq
    · exact ((h5.any (Blk s)).fr h4 rfl s1 fun _ _ h => h).fr h4 rfl s2 fun _ _ h => h
  · obtain ⟨n,rfl⟩ : ∃ k,n = k + 1 :=⟨n - 1,by omega⟩
    have al :=alias_dis w s sx n0 c (n + 1) cx hc hx.ok.1 hcc hx.ok.2.1 dx.symm
    have hmk :=nat_make w.drew s n0 c (2 * (n + 1)) hc.drew (by unfold Big;omega) (by unfold Big at *;omega)
    rw [show 2 * (n + 1) = n + 1 + (n + 1) by omega] at hmk
    obtain ⟨bx,ox,xs,rfl,hrx,hlx,hltx,-,rfl,hwx,nfx,hx1,hx2,hbx⟩ :=hx.open
    clear hx
    unfold Big at hcc hx2
    have h40 : decide ((n + 1 : Int) < 12) = true :=by simp;omega
    have h80 : decide ((n + 1 : Int) < 80) = true :=by simp;omega
    have hn0 : ((n : Int) + 1 == 0) = false :=by simp;omega
    have hn1 : ((n : Int) + 1 == 1) = false :=by simp;omega
    have e2 : (2 * ((n : Int) + 1)) = ((n + 1 + (n + 1) : Nat) : Int) :=by omega
    go_enter Tryz.func127,Tryz.ntmps127
    go_wp2_with (first
      | (go_at_call 142;refine al.mono ?_;rintro e w' ⟨rfl,hw'⟩;rw [hw'];clear hw')
      | (go_at_call 134;refine hmk.mono ?_;rintro e w1 ⟨s',c',rfl,h1,h2,h3,h4,h5⟩;obtain ⟨b,o,rfl,hw,hf,hb⟩ :=h3.pos (by omega);have gk :=(hg.kept h5.of_drew).sqrT;have gk2 :=(hg.kept h5.of_drew).ksqT)
      | (go_at_call 143;refine (basicMul w1 b o bx ox bx ox (n + 1) (n + 1) c' cx cx xs xs (by omega) (by unfold Big;omega) (by unfold Big;omega) (hrx.keep h5.of_drew) (.inr (hrx.keep h5.of_drew)) hlx hlx hltx hltx (fun j hj => hw j (by omega)) (by omega) (by omega) (dx.ne h4 hbx) (dx.ne h4 hbx)).mono ?_;rintro e w2 ⟨zs,rfl,g1,g2,g3,g4,g5⟩)
      | (go_at_call 106;refine (nat_norm _ _ (n + 1 + (n + 1)) c' zs (.inr ⟨b,o,rfl,g2⟩) g1 (by omega) h1).mono ?_;rintro e w3 ⟨rfl,hw3⟩;rw [hw3];clear hw3))
    first | go_ret | refine ⟨_,results_tmp rfl _ _ _,?_⟩
    refine ⟨_,_,c',rfl,trim_nat (by omega) (by unfold Big at *;omega) (by unfold Big;omega) (h3.chg g5) (.inr ⟨b,o,rfl,g2⟩) g3 g4,h4,?_⟩
    exact (h5.of_drew.any (Blk s)).fr h4 rfl g5 fun _ _ h => h.1
end Go.Proofs.YtfmmdamgcpiciaaGreatDoor
