/- A part of the proof, joined out of the texts A18, A19, D0, D1, D2, H5, G3, H6, H7, H8, F0, F1, A20; each theorem bears its own conditions. -/
import Derived.Deep.CutBlock
import Derived.Deep.DeepCutAuto
import Derived.Defers
import Derived.Laws.BitsLemmas
import Derived.Laws.IdiomStrings
import Derived.Lib.BitFns
import Derived.Lib.ItoaNum
import Derived.Lib.Slices
import Derived.Lib.Small
import Derived.Lib.Strings
import Derived.Lib.Walk
import Derived.WalkLawsBesides
import Derived.Test.YtfmmdamgcpiciaaGreatDoorT01
import Derived.Test.YtfmmdamgcpiciaaGreatDoorT03
set_option linter.unusedVariables false
set_option linter.unusedSimpArgs false
set_option linter.all false
set_option maxHeartbeats 9000000
set_option exponentiation.threshold 400000
set_option maxRecDepth 1000000
namespace Go.Proofs.YtfmmdamgcpiciaaGreatDoor
open Go Go.RowKit
theorem bitLen_64 {x : Nat} (hx : x < W64) : Lib.bitLen x ≤ 64 :=Lib.bitLen_le x 64 (by omega) hx
theorem len8_size : Lib.len8tab.size = 256 :=by kernel_rfl
theorem len8_fin : ∀ b : Fin 256,(Lib.len8tab.get b.val (by rw [len8_size];exact b.isLt)).toNat = Lib.bitLen b.val :=by decide +kernel
theorem len8_at (b : Int) (h : 0 ≤ b ∧ b < Lib.len8tab.size) : ((Lib.len8tab[b.toNat]'(by omega)).toNat : Int) = (Lib.bitLen b.toNat : Int) :=by
  have :=len8_fin ⟨b.toNat,by have hsz :=len8_size;omega⟩
  rw [← this]
  rfl
theorem len64' (x : Int) (w : World) (h0 : 0 ≤ x) (h1 : x ≤ 18446744073709551615) :
    Calls Tryz.prog 195 #[.int .u64 x] w fun e w' => e = .returned (.int .i64 (Lib.bitLen x.toNat)) ∧ w' = w :=by
  go_enter Tryz.func195,Tryz.ntmps195
  go_wp2
  all_goals first
    | (exfalso;have hsz :=len8_size;omega)
    | (go_ret;refine ⟨congrArg Ending.returned (congrArg (Value.int IntKind.i64) ?_),rfl⟩)
  all_goals first
    | (rw [len8_at (x / 4294967296 / 65536 / 256) (by assumption)]
       have s :=Lib.bitLen_shift56 x.toNat (by omega) (by omega)
       rw [show (x / 4294967296 / 65536 / 256).toNat = x.toNat / 72057594037927936 by omega]
       have l :=bitLen_64 (x :=x.toNat) (by unfold W64;omega)
       unfold wrap64;omega)
    | (rw [len8_at (x / 4294967296 / 65536) (by assumption)]
       have s :=Lib.bitLen_shift48 x.toNat (by omega) (by omega)
       rw [show (x / 4294967296 / 65536).toNat = x.toNat / 281474976710656 by omega]
       have l :=bitLen_64 (x :=x.toNat) (by unfold W64;omega)
       unfold wrap64;omega)
    | (rw [len8_at (x / 4294967296 / 256) (by assumption)]
       have s :=Lib.bitLen_shift40 x.toNat (by omega) (by omega)
       rw [show (x / 4294967296 / 256).toNat = x.toNat / 1099511627776 by omega]
       have l :=bitLen_64 (x :=x.toNat) (by unfold W64;omega)
       unfold wrap64;omega)
    | (rw [len8_at (x / 4294967296) (by assumption)]
       have s :=Lib.bitLen_shift32 x.toNat (by omega) (by omega)
       rw [show (x / 4294967296).toNat = x.toNat / 4294967296 by omega]
       have l :=bitLen_64 (x :=x.toNat) (by unfold W64;omega)
       unfold wrap64;omega)
    | (rw [len8_at (x / 65536 / 256) (by assumption)]
       have s :=Lib.bitLen_shift24 x.toNat (by omega) (by omega)
       rw [show (x / 65536 / 256).toNat = x.toNat / 16777216 by omega]
       have l :=bitLen_64 (x :=x.toNat) (by unfold W64;omega)
       unfold wrap64;omega)
    | (rw [len8_at (x / 65536) (by assumption)]
       have s :=Lib.bitLen_shift16 x.toNat (by omega) (by omega)
       rw [show (x / 65536).toNat = x.toNat / 65536 by omega]
       have l :=bitLen_64 (x :=x.toNat) (by unfold W64;omega)
       unfold wrap64;omega)
    | (rw [len8_at (x / 256) (by assumption)]
       have s :=Lib.bitLen_shift8 x.toNat (by omega) (by omega)
       rw [show (x / 256).toNat = x.toNat / 256 by omega]
       have l :=bitLen_64 (x :=x.toNat) (by unfold W64;omega)
       unfold wrap64;omega)
    | (have hsz :=len8_size
       rw [len8_at x ⟨by omega,by omega⟩]
       have l :=bitLen_64 (x :=x.toNat) (by unfold W64;omega)
       unfold wrap64;omega)
theorem len64 (x : Nat) (hx : x < W64) (w : World) : Calls Tryz.prog 195 #[.int .u64 x] w fun e w' => e = .returned (.int .i64 (Lib.bitLen x : Nat)) ∧ w' = w :=
  len64' x w (by omega) (by unfold W64 at hx;omega)
theorem bitsLen (x : Nat) (hx : x < W64) (w : World) : Calls Tryz.prog 262 #[.int .u64 x] w fun e w' => e = .returned (.int .i64 (Lib.bitLen x : Nat)) ∧ w' = w :=by
  have h :=len64 x hx w
  unfold W64 at hx
  go_enter Tryz.func262,Tryz.ntmps262
  go_wp2_with (go_at_call 195;refine h.mono ?_;rintro e w' ⟨rfl,hw⟩;rw [hw])
  first | go_ret | refine ⟨_,results_tmp rfl _ _ _,?_⟩
  exact ⟨rfl,rfl⟩
theorem bitLen_bounds {x : Nat} (hx : x < W64) (h0 : x ≠ 0) : 1 ≤ Lib.bitLen x ∧ 2 ^ (Lib.bitLen x - 1) ≤ x ∧ x < 2 ^ Lib.bitLen x :=Lib.bitLenAux_bounds 64 x hx h0
theorem leadingZeros (x : Nat) (hx : x < W64) (w : World) : Calls Tryz.prog 225 #[.int .u64 x] w fun e w' => e = .returned (.int .i64 ((64 - Lib.bitLen x : Nat) : Int)) ∧ w' = w :=by
  have h :=bitsLen x hx w
  have h2 :=bitLen_64 hx
  have e : ((64 - Lib.bitLen x : Nat) : Int) = 64 - (Lib.bitLen x : Int) :=by omega
  rw [e]
  unfold W64 at hx
  clear e
  go_enter Tryz.func225,Tryz.ntmps225
  go_wp2_with (go_at_call 262;refine h.mono ?_;rintro e w' ⟨rfl,hw⟩;rw [hw])
  first | go_ret | refine ⟨_,results_tmp rfl _ _ _,?_⟩
  exact ⟨rfl,rfl⟩
theorem leadingZeros64 (x : Nat) (hx : x < W64) (w : World) : Calls Tryz.prog 270 #[.int .u64 x] w fun e w' => e = .returned (.int .i64 ((64 - Lib.bitLen x : Nat) : Int)) ∧ w' = w :=by
  have h :=len64 x hx w
  have h2 :=bitLen_64 hx
  have e : ((64 - Lib.bitLen x : Nat) : Int) = 64 - (Lib.bitLen x : Int) :=by omega
  rw [e]
  unfold W64 at hx
  clear e
  go_enter Tryz.func270,Tryz.ntmps270
  go_wp2_with (go_at_call 195;refine h.mono ?_;rintro e w' ⟨rfl,hw⟩;rw [hw])
  first | go_ret | refine ⟨_,results_tmp rfl _ _ _,?_⟩
  exact ⟨rfl,rfl⟩
theorem nlz (x : Nat) (hx : x < W64) (w : World) : Calls Tryz.prog 185 #[.int .u64 x] w fun e w' => e = .returned (.int .u64 ((64 - Lib.bitLen x : Nat) : Int)) ∧ w' = w :=by
  have h :=leadingZeros x hx w
  generalize hz : 64 - Lib.bitLen x = z at *
  have hzl : z ≤ 64 :=by omega
  unfold W64 at hx
  clear hz
  go_enter Tryz.func185,Tryz.ntmps185
  go_wp2_with (go_at_call 225;refine h.mono ?_;rintro e w' ⟨rfl,hw⟩;rw [hw])
  first | go_ret | refine ⟨_,results_tmp rfl _ _ _,?_⟩
  exact ⟨rfl,rfl⟩
end Go.Proofs.YtfmmdamgcpiciaaGreatDoor
namespace Go.Proofs.YtfmmdamgcpiciaaGreatDoor
open Go Go.RowKit
def NewS (w : World) (s : Option Addr) : Prop :=∀ a,s = some a → w.heap.size ≤ a.block
theorem NatAt.lt {w : World} {s : Option Addr} {n c X : Nat} (h : NatAt w s n c X) : ∀ a,s = some a → a.block < w.heap.size :=by
  intro a ha
  rcases h.ok.1 with ⟨h1,_⟩ | ⟨b',o',h1,_,_,h2⟩
  · rw [h1] at ha;cases ha
  · rw [h1] at ha
    simp only [Option.some.injEq] at ha
    subst ha
    exact h2
theorem NewS.dis {w : World} {s t : Option Addr} (h : NewS w t) (hs : ∀ a,s = some a → a.block < w.heap.size) : Dis s t :=fun a b h1 h2 => by
  have :=h b h2
  have :=hs a h1
  omega
theorem Fr.dis {w : World} {s s' t : Option Addr} {c c' : Nat} (h : Fr w s c s' c') (hd : Dis t s) (ht : ∀ a,t = some a → a.block < w.heap.size) : Dis t s' :=fun a b h1 h2 => by
  rcases h with ⟨rfl,_⟩ | ⟨b',rfl,hb⟩
  · exact hd a b h1 h2
  · have :=ht a h1
    simp only [Option.some.injEq] at h2
    subst h2
    show a.block ≠ b'
    omega
theorem NewS.kept {w w1 w2 : World} {s : Option Addr} (h : NewS w s) (hk : Kept w w1) (k : Chg w1 w2 (Blk s)) : Kept w w2 :=hk.keptNew k fun _ _ e => Blk.old h e
theorem Dis.blk {s t : Option Addr} (h : Dis s t) : ∀ b o,s = some ⟨b,o,Option.none⟩ → ∀ o',¬ Blk t b o' :=fun _ _ h1 _ ⟨_,h2⟩ => h _ _ h1 h2 rfl
theorem getStack (w : World) : Calls Tryz.prog 144 #[] w fun e w' => ∃ b,e = .returned (ptr b) ∧ w'.cell? ⟨b,0,none⟩ = some (.pointer none) ∧ NF w' b ∧ w.heap.size ≤ b ∧ Kept w w' :=by
  go_enter Tryz.func144,Tryz.ntmps144
  go_wp2
  first | go_ret | refine ⟨_,results_tmp rfl _ _ _,?_⟩
  exact ⟨_,rfl,by rw [World.cell?_alloc_at _ _ _ _ rfl];rfl,NF.made w _ _,Nat.le_refl _,Chg.alloc _ _ _⟩
theorem stack_free0 (u : FrameMode) (w : World) (b : Nat) (h : w.cell? ⟨b,0,none⟩ = some (.pointer none)) : CallsD Tryz.prog 145 #[ptr b] u w fun e u' w' => u' = u ∧ (e = .returned (.tuple #[]) ∧ w' = w) :=by
  go_enter_d Tryz.func145,Tryz.ntmps145
  go_wp2
  go_end0
  exact ⟨rfl,rfl⟩
theorem wrap_u64 (n : Int) : IntKind.u64.wrap n = n % 18446744073709551616 :=by simp [IntKind.wrap,IntKind.bits,IntKind.signed]
theorem wrap_u64_in (n : Int) (h : 0 ≤ n) (h2 : n < 18446744073709551616) : IntKind.u64.wrap n = n :=by rw [wrap_u64];omega
theorem wraps_u64 (n : Int) (h₀ : 0 ≤ n) (h₁ : n < 2 ^ 64) : IntKind.u64.wrap n = n :=by rw [wrap_u64];omega
theorem and_u64 (a b : Nat) (ha : a < 2 ^ 64) (hb : b < 2 ^ 64) : bits .and .u64 (a : Int) (b : Int) = ((a &&& b : Nat) : Int) :=(bits_nat .u64 64 (by decide) wraps_u64 a b ha hb).1
theorem or_u64 (a b : Nat) (ha : a < 2 ^ 64) (hb : b < 2 ^ 64) : bits .or .u64 (a : Int) (b : Int) = ((a ||| b : Nat) : Int) :=(bits_nat .u64 64 (by decide) wraps_u64 a b ha hb).2
theorem and_two_pow' (u i : Nat) : u &&& 2 ^ i = if u.testBit i then 2 ^ i else 0 :=by
  apply Nat.eq_of_testBit_eq
  intro j
  rw [Nat.testBit_and,Nat.testBit_two_pow]
  by_cases h : i = j
  · subst h
    cases hb : u.testBit i <;> simp
  · cases hb : u.testBit i <;> simp [h]
theorem topBit (u : Nat) (hu : u < 2 ^ 64) : bits .and .u64 (u : Int) 9223372036854775808 = if 2 ^ 63 ≤ u then 9223372036854775808 else 0 :=by
  have h :=and_u64 u (2 ^ 63) hu (by decide)
  have e : ((2 ^ 63 : Nat) : Int) = 9223372036854775808 :=by decide
  rw [e] at h
  rw [h,and_two_pow',Nat.testBit_eq_decide_div_mod_eq]
  by_cases hc : 2 ^ 63 ≤ u
  · have : u / 2 ^ 63 % 2 = 1 :=by omega
    simp [hc,this]
  · have : u / 2 ^ 63 % 2 = 0 :=by omega
    simp [hc,this]
theorem expo_step (v f sh : Nat) (h : sh + (f + 1) = 64) :
    (2 ^ 63 ≤ v * 2 ^ sh % 2 ^ 64 → v / 2 ^ f = 2 * (v / 2 ^ (f + 1)) + 1) ∧ (v * 2 ^ sh % 2 ^ 64 < 2 ^ 63 → v / 2 ^ f = 2 * (v / 2 ^ (f + 1))) :=by
  have e64 : 2 ^ 64 = 2 ^ (f + 1) * 2 ^ sh :=by rw [← Nat.pow_add];congr 1;omega
  have e63 : 2 ^ 63 = 2 ^ f * 2 ^ sh :=by rw [← Nat.pow_add];congr 1;omega
  rw [e64,Nat.mul_mod_mul_right,e63]
  have hq : v / 2 ^ (f + 1) = v / 2 ^ f / 2 :=by rw [Nat.pow_succ,Nat.div_div_eq_div_mul]
  have hr : v % 2 ^ (f + 1) = v % 2 ^ f + 2 ^ f * (v / 2 ^ f % 2) :=by rw [Nat.pow_succ,Nat.mod_mul]
  have hlt : v % 2 ^ f < 2 ^ f :=Nat.mod_lt _ (Nat.two_pow_pos f)
  have hs :=Nat.two_pow_pos sh
  rw [hq]
  generalize v / 2 ^ f = a at *
  constructor
  · intro h1
    have h2 :=Nat.le_of_mul_le_mul_right h1 hs
    rw [hr] at h2
    have : a % 2 = 1 :=by
      rcases Nat.mod_two_eq_zero_or_one a with h3 | h3
      · rw [h3] at h2;omega
      · exact h3
    omega
  · intro h1
    have h2 :=Nat.lt_of_mul_lt_mul_right h1
    rw [hr] at h2
    have : a % 2 = 0 :=by
      rcases Nat.mod_two_eq_zero_or_one a with h3 | h3
      · exact h3
      · rw [h3] at h2;omega
    omega
theorem expo_shift (v sh : Nat) : v * 2 ^ sh % W64 * 2 % W64 = v * 2 ^ (sh + 1) % W64 :=by
  rw [Nat.pow_succ,← Nat.mul_assoc,Nat.mul_mod (v * 2 ^ sh) 2 W64]
  rw [Nat.mul_mod,Nat.mod_mod]
theorem trimZ_nz {xs : List Nat} (h : Nz xs) : trimZ xs = xs :=by
  rcases List.eq_nil_or_concat xs with rfl | ⟨ys,y,rfl⟩
  · rfl
  · simp only [List.concat_eq_append] at *
    rw [trimZ_snoc,if_neg (h y (by simp))]
theorem one_word {w : World} {s : Option Addr} {n c X : Nat} (h : NatAt w s n c X) (hX : X < W64) (h0 : X ≠ 0) : n = 1 :=by
  have h1 :=h.len_lt (k :=1) (by simpa using hX)
  have h2 :=h.eq_zero
  omega
theorem NatAt.cell0 {w : World} {s : Option Addr} {c X : Nat} (h : NatAt w s 1 c X) : ∃ b o,s = some ⟨b,o,none⟩ ∧ w.cell? ⟨b,o,none⟩ = some (.int .u64 X) ∧ X < W64 ∧ X ≠ 0 :=by
  obtain ⟨b,o,ys,rfl,hr,hl,hlt,hz,rfl,_⟩ :=NatAt.open (n :=0) h
  match ys,hl with
  | [y],_ =>
    have :=hr 0 y rfl
    simp only [Nat.add_zero] at this
    refine ⟨b,o,rfl,?_,?_,?_⟩
    · rw [this];simp [val]
    · have :=hlt y (by simp);simpa [val] using this
    · have :=hz y (by simp);simpa [val] using this
theorem nat_expNN (w : World) (hg : Glob w) (sx sy : Option Addr) (cx cy x v : Nat) (hx : NatAt w sx 1 cx x) (hy : NatAt w sy 1 cy v) (h2 : 2 ≤ x) (hv : 2 ≤ v) (hb : x ^ v < W64 ^ 22) :
    Calls Tryz.prog 156 #[.slice none 0 0,.pointer none,.slice sx 1 cx,.slice sy 1 cy,.slice none 0 0,.bool false] w fun e w' => ∃ s n c,e = .returned (.slice s n c) ∧ NatAt w' s n c (x ^ v) ∧ NewS w s ∧ Kept w w' :=by
  have al1 :=alias_dis w none sx 0 0 1 cx (.inl ⟨rfl,rfl⟩) hx.ok.1 (by omega) hx.ok.2.1 (Dis.nil' _)
  have al2 :=alias_dis w.drew none sy 0 0 1 cy (.inl ⟨rfl,rfl⟩) hy.drew.ok.1 (by omega) hy.ok.2.1 (Dis.nil' _)
  obtain ⟨bx,ox,rfl,x1,x2,x3⟩ :=hx.cell0
  obtain ⟨by',oy,rfl,y1,y2,y3⟩ :=hy.cell0
  have e1 : ((x : Int) == 1) = false :=by simp;omega
  have e2 : ((v : Int) == 1) = false :=by simp;omega
  have hbl :=bitLen_bounds y2 y3
  have hbl2 :=bitLen_64 y2
  have hst :=fun W (hW : Kept w W) => nat_set' W none (some ⟨bx,ox,none⟩) 0 0 1 cx x (.inl ⟨rfl,rfl⟩) (by omega) (hx.kept hW)
  have hnl :=nlz v y2
  have hL2 : 2 ≤ Lib.bitLen v :=by
    rcases Nat.lt_or_ge (Lib.bitLen v) 2 with h | h
    · have : Lib.bitLen v = 1 :=by omega
      rw [this] at hbl
      omega
    · exact h
  obtain ⟨M,hM⟩ : ∃ M,Lib.bitLen v = M + 1 :=⟨Lib.bitLen v - 1,by omega⟩
  obtain ⟨z,hz⟩ : ∃ z,64 - Lib.bitLen v = z :=⟨_,rfl⟩
  rw [hz] at hnl
  have HL : Hid (2 ^ M ≤ v ∧ v < 2 ^ (M + 1) ∧ z + M = 63) :=by
    refine Lib.hid ⟨?_,?_,by omega⟩
    · have :=hbl.2.1;rw [hM,Nat.add_sub_cancel] at this;exact this
    · have :=hbl.2.2;rw [hM] at this;exact this
  have hz62 : z ≤ 62 :=by omega
  have hMz : (64 - ((z : Int) + 1)) = (M : Int) :=by omega
  have hM1 : 1 ≤ M :=by omega
  have hM63 : M ≤ 63 :=by omega
  clear hbl hbl2 hL2 hM hz
  have HX :=Lib.hid hx
  have HY :=Lib.hid hy
  clear hx hy
  unfold W64 at x2 y2
  go_enter_defers Tryz.func156,Tryz.ntmps156
  go_wp2_with (first
    | (go_at_call 142;first | ((with_reducible refine al1.mono ?_);rintro e w' ⟨rfl,hw'⟩;rw [hw'];clear hw') | ((with_reducible refine al2.mono ?_);rintro e w' ⟨rfl,hw'⟩;rw [hw'];clear hw'))
    | (go_at_call 144;refine (getStack _).mono ?_;rintro e w1 ⟨bs,rfl,st,stn,bsg,k1⟩;have k1 :=k1.of_drew.of_drew;have y1' :=Kept.at k1 y1;have K1 :=Lib.hid k1;have ST :=Lib.hid (And.intro st (lt_of_cell st));clear k1 st)
    | (go_at_call 126;refine (hst _ K1.out).mono ?_;rintro e w2 ⟨s',n',c',rfl,k4,k5,k6⟩;have k6 :=k6.noneK;have y1' :=Kept.at k6 y1')
    | (go_at_call 185;refine (hnl _).mono ?_;rintro e w' ⟨rfl,hw'⟩;rw [hw'];clear hw'))
  go_loopw [0,15,19,21] (fun t0 t15 t19 t21 wr => ∃ (k : Nat) (s : Option Addr) (n c : Nat) (sz : Option Addr) (nz cz : Nat),k ≤ M ∧ t21 = .int .i64 k ∧ t15 = .int .u64 ((v * 2 ^ (z + 1 + k) % W64 : Nat) : Int) ∧ t0 = .slice s n c ∧ t19 = .slice sz nz cz ∧
      NatAt wr s n c (x ^ (v / 2 ^ (M - k))) ∧ SlOk wr sz cz ∧ cz ≤ (8388607 * Big + 1099511627775) ∧ Dis s sz ∧ NewS w1 s ∧ NewS w1 sz ∧ Kept w1 wr) (fun _ _ _ i _ => M - (intOf i).toNat)
  case atStart =>
    refine ⟨0,_,_,_,none,0,0,Nat.zero_le _,rfl,?_,rfl,rfl,?_,.inl ⟨rfl,rfl⟩,by omega,Dis.nil _,?_,(fun a h => by cases h),k6⟩
    · rw [wrap_u64];simp [W64]
    · have h1 : v / 2 ^ M = 1 :=by
        obtain ⟨h1,h2,h3⟩ :=HL.out
        rw [Nat.pow_succ] at h2
        exact Nat.div_eq_of_lt_le (by omega) (by omega)
      rw [Nat.sub_zero,h1,Nat.pow_one];exact k4
    · exact k5.new (fun a h => by cases h) (Nat.le_refl _)
  case round =>
    obtain ⟨k,s,n,c,sz,nz,cz,hk,rfl,rfl,rfl,rfl,r1,r2,r3,r4,r5,r6,r8⟩ :=hrel
    have hk1 :=K1.out
    have hxw1 :=HX.out.kept hk1
    have hg1 :=hg.kept hk1
    obtain ⟨hL1,hL2,hL3⟩ :=HL.out
    by_cases hlt : k < M
    · obtain ⟨f,hf⟩ : ∃ f,M - k = f + 1 :=⟨M - k - 1,by omega⟩
      have hf2 : M - (k + 1) = f :=by omega
      have he :=expo_step v f (z + 1 + k) (by omega)
      have hsh :=expo_shift v (z + 1 + k)
      have hu : v * 2 ^ (z + 1 + k) % W64 < 2 ^ 64 :=Nat.mod_lt _ (by decide)
      have ht :=topBit (v * 2 ^ (z + 1 + k) % W64) hu
      have hwr : ∀ u : Nat,IntKind.u64.wrap ((u : Int) * 2) = ((u * 2 % W64 : Nat) : Int) :=fun u => by rw [wrap_u64];unfold W64;omega
      rw [hf] at r1
      have hdv : v / 2 ^ f ≤ v :=Nat.div_le_self _ _
      change (2 ^ 63 ≤ v * 2 ^ (z + 1 + k) % W64 → _) ∧ (v * 2 ^ (z + 1 + k) % W64 < 2 ^ 63 → _) at he
      generalize v * 2 ^ (z + 1 + k) % W64 = u at *
      generalize hq : v / 2 ^ (f + 1) = q at *
      have h2q : 2 * q ≤ v :=by
        rcases Nat.lt_or_ge u (2 ^ 63) with h | h
        · have :=he.2 h;omega
        · have :=he.1 h;omega
      have hsq : x ^ q * x ^ q = x ^ (2 * q) :=by rw [← Nat.pow_add];congr 1;omega
      have hYY : x ^ q * x ^ q < W64 ^ 22 :=by
        rw [hsq];exact Nat.lt_of_le_of_lt (Nat.pow_le_pow_right (by omega) h2q) hb
      have hY : x ^ q < W64 ^ 11 :=by
        rcases Nat.lt_or_ge (x ^ q) (W64 ^ 11) with h | h
        · exact h
        · have h5 :=Nat.mul_le_mul h h
          rw [← Nat.pow_add] at h5
          exact absurd hYY (Nat.not_lt.2 h5)
      have HS :=Lib.hid (And.intro hsq (And.intro he (And.intro ht (And.intro hwr (And.intro hf2 (And.intro hq hsh))))))
      clear hsq he ht hwr hsh hf hf2 hq hL1 hL2 hL3 hdv
      have sq :=nat_sqr wr (ptr bs) sz s nz cz n c _ (hg1.kept r8) r2 r3 r1 (Nat.lt_of_le_of_lt (r1.len_lt hY) (by decide)) r4
      have hml : ∀ w3 s3 n3 c3,NatAt w3 s3 n3 c3 (x ^ q * x ^ q) → Fr wr sz cz s3 c3 → Chg wr w3 (Blk sz) → Calls Tryz.prog 128 #[.slice s n c,ptr bs,.slice s3 n3 c3,.slice (some ⟨bx,ox,none⟩) 1 cx] w3 (GotNat w3 s c (x ^ q * x ^ q * x)) :=by
        intro w3 s3 n3 c3 q1 q2 q3
        have hx3 :=(hxw1.kept r8).chg q3 (r6.dis hxw1.lt).blk
        have hs3 :=r1.chg q3 r4.blk
        exact nat_mul w3 (ptr bs) s s3 (some ⟨bx,ox,none⟩) n c n3 1 c3 cx (x ^ q * x ^ q) x (hg1.kept (r6.kept r8 q3)) hs3.ok.1 hs3.ok.2.1 q1 hx3 (Nat.lt_of_le_of_lt (q1.len_lt hYY) (by decide)) (by omega) (q2.dis r4 r1.lt).symm (r5.dis hxw1.lt)
      go_wp2_with (first
        | (go_at_call 127;refine sq.mono ?_;rintro e w3 ⟨s3,n3,c3,rfl,q1,q2,q3⟩)
        | (go_at_call 128;refine (hml w3 s3 n3 c3 q1 q2 q3).mono ?_;rintro e w4 ⟨s4,n4,c4,rfl,q4,q5,q6⟩))
      · have hbt : (bits BinOp.and .u64 (u : Int) 9223372036854775808 != 0) = true :=by assumption
        obtain ⟨hsq,he,ht,hwr,hf2,hq,hsh⟩ :=HS.out
        have hge : 2 ^ 63 ≤ u :=by
          rw [ht] at hbt
          split at hbt
          · assumption
          · simp at hbt
        have hk3 :=r6.kept r8 q3
        have ns3 :=q2.new r6 (Chg.size r8)
        have hs3 :=r1.chg q3 r4.blk
        go_roundw
        case rel =>
          refine ⟨k + 1,_,_,_,_,_,_,hlt,by go_num,by rw [hwr,hsh];rfl,rfl,rfl,?_,q1.ok.1.chg q6,q1.ok.2.1,(q5.dis (q2.dis r4 r1.lt).symm q1.lt).symm,q5.new r5 (Chg.size hk3),ns3,r5.kept hk3 q6⟩
          rw [hf2,he.1 hge,Nat.pow_succ,← hsq];exact q4
        case measure => simp [intOf];omega
      · have hbt : (bits BinOp.and .u64 (u : Int) 9223372036854775808 != 0) = false :=by assumption
        obtain ⟨hsq,he,ht,hwr,hf2,hq,hsh⟩ :=HS.out
        have hge : u < 2 ^ 63 :=by
          rw [ht] at hbt
          split at hbt
          · simp at hbt
          · omega
        have hk3 :=r6.kept r8 q3
        have ns3 :=q2.new r6 (Chg.size r8)
        have hs3 :=r1.chg q3 r4.blk
        go_roundw
        case rel =>
          refine ⟨k + 1,_,_,_,_,_,_,hlt,by go_num,by rw [hwr,hsh];rfl,rfl,rfl,?_,hs3.ok.1,hs3.ok.2.1,(q2.dis r4 r1.lt).symm,ns3,r5,hk3⟩
          rw [hf2,he.2 hge,← hsq];exact q1
        case measure => simp [intOf];omega
    · obtain rfl : k = M :=by omega
      rw [Nat.sub_self,Nat.pow_zero,Nat.div_one] at r1
      obtain ⟨xs,a1,a2,a3,a4,a5,a6,a7,a8,a9⟩ :=id r1
      have hnm :=nat_norm wr s n c xs a6 a1 (by unfold Big at a4;omega) a2
      have htz : trimZ xs = xs :=trimZ_nz a8
      rw [htz,a1] at hnm
      clear htz a1 a2 a3 a4 a5 a6 a7 a8 a9
      go_wp2_with fail
      refine wp_loop_rounds 1 ?_
      rw [rounds_succ]
      go_wp2_with (go_at_call 106;refine hnm.mono ?_;rintro e w' ⟨rfl,hw'⟩;rw [hw'];clear hw')
      refine leaves_cons (f :=145) (args :=#[ptr bs]) (by simp) (by simp [go_sem]) ?_
      refine (stack_free0 .returning _ bs (Kept.at r8 ST.out.1)).mono ?_
      rintro e u' w'' ⟨rfl,rfl,rfl⟩
      refine ⟨_,results_tmp rfl _ _ _,?_⟩
      exact ⟨s,n,c,rfl,r1,fun a ha => Nat.le_trans (Chg.size hk1) (r5 a ha),hk1.trans r8 fun _ _ _ h => h⟩
theorem int_doneN {w0 w w1 : World} {bz : Nat} {s : Option Addr} {n c : Nat} {X : Int} (v : Bool) (hv : v = decide (X < 0)) (hk : Kept w0 w) (hb : w0.heap.size ≤ bz) (hz : ZeroInt w bz) (k1 : NatAt w1 s n c X.natAbs) (k2 : NewS w s) (k3 : Kept w w1) :
    IntN w0 ((w1.setCell ⟨bz,1,none⟩ (.slice s n c)).setCell ⟨bz,0,none⟩ (.bool v)) bz X ∧ Kept w0 ((w1.setCell ⟨bz,1,none⟩ (.slice s n c)).setCell ⟨bz,0,none⟩ (.bool v)) :=by
  subst hv
  obtain ⟨z0,z1,zf⟩ :=hz.kept k3
  have c1 :=Chg.setCell w1 bz 1 (.slice s n c) (fun b _ => b = bz) fun _ => rfl
  have c2 :=Chg.setCell (w1.setCell ⟨bz,1,none⟩ (.slice s n c)) bz 0 (.bool (decide (X < 0))) (fun b _ => b = bz) fun _ => rfl
  have hs : ∀ a,s = some a → a.block ≠ bz :=fun a ha => by
    have :=k2 a ha
    have :=lt_of_cell hz.neg
    omega
  refine ⟨⟨s,n,c,⟨?_,?_,?_,?_,hs⟩,hb,fun a ha => Nat.le_trans (Chg.size hk) (k2 a ha)⟩,?_⟩
  · exact cell_setCell_eq ((cell_setCell_ne (by omega)).trans z0)
  · exact (cell_setCell_ne (by omega)).trans (cell_setCell_eq z1)
  · exact (k1.chg c1 (fun b o h o' e => hs _ h e)).chg c2 (fun b o h o' e => hs _ h e)
  · exact (zf.chg (lt_of_cell z0) c1).chg (by have :=c1.size;have :=lt_of_cell z0;omega) c2
  · exact ((hk.trans k3 fun _ _ _ x => x).keptNew c1 (fun b o e => by omega)).keptNew c2 (fun b o e => by omega)
theorem int_exp (w0 w : World) (hg : Glob w) (hk : Kept w0 w) (bz bx by' : Nat) (hb : w0.heap.size ≤ bz) (hz : ZeroInt w bz) (x v : Nat) (hx : IntAt w bx x) (hy : IntAt w by' v) (hxb : bx ≠ bz) (hyb : by' ≠ bz) (h2 : 2 ≤ x) (hv : 2 ≤ v) (hxl : x < W64) (hvl : v < W64) (hB : x ^ v < W64 ^ 22) :
    Calls Tryz.prog 129 #[ptr bz,ptr bx,ptr by',.pointer none,.bool false] w fun e w' => e = .returned (ptr bz) ∧ IntN w0 w' bz (x ^ v : Nat) ∧ Kept w0 w' :=by
  obtain ⟨sx,nx,cx,hx⟩ :=hx
  obtain ⟨sy,ny,cy,hy⟩ :=hy
  have hnx : nx = 1 :=one_word hx.nat (by simpa using hxl) (by simp;omega)
  have hny : ny = 1 :=one_word hy.nat (by simpa using hvl) (by simp;omega)
  subst hnx
  subst hny
  have ex : (x : Int).natAbs = x :=by simp
  have ey : (v : Int).natAbs = v :=by simp
  have hxn :=hx.nat
  have hyn :=hy.nat
  rw [ex] at hxn
  rw [ey] at hyn
  have he :=nat_expNN w hg sx sy cx cy x v hxn hyn h2 hv hB
  have x0 :=hx.neg
  have y0 :=hy.neg
  have x1 :=hx.abs
  have y1 :=hy.abs
  have dx : decide ((x : Int) < 0) = false :=by simp
  have dy : decide ((v : Int) < 0) = false :=by simp
  rw [dx] at x0
  rw [dy] at y0
  have z0 :=hz.neg
  have z1 :=hz.abs
  have f0 :=hz.nf 0
  have f1 :=hz.nf 1
  have hpos : 0 < x ^ v :=Nat.pow_pos (by omega)
  clear ex ey dx dy
  go_enter Tryz.func129,Tryz.ntmps129
  go_wp2_with (first
    | (refine wp_region_lit_segs (id :=12) [[0,1,2,3,4,5,6,7,8,9,10,11,12,13]] mixed (by kernel_rfl) ?_;simp only [wpSegsL,gaC,gaN,lZ0,lS0,coS])
    | (refine wp_region_lit_segs (id :=18) [[0,1,2,3,4,5,6,7,8,9,10,11,12,13]] mixed (by kernel_rfl) ?_;simp only [wpSegsL,gaC,gaN,lZ0,lS0,coS])
    | refine ⟨by kernel_rfl,?_⟩
    | (go_at_call 156;refine he.mono ?_;rintro e w1 ⟨s',n',c',rfl,k1,k2,k3⟩;obtain ⟨z0',z1',zf'⟩ :=hz.kept k3;have f0' :=zf' 0;have f1' :=zf' 1;have x2 :=cs_ne (u :=.slice s' n' c') (Kept.at k3 x0) (b' :=bz) (o' :=1) (by omega);have hn0 : ¬ n' = 0 :=(fun h => by have :=k1.eq_zero.2 h;omega);obtain ⟨n',rfl⟩ : ∃ m,n' = m + 1 :=⟨n' - 1,by omega⟩))
  first | go_ret | refine ⟨_,results_tmp rfl _ _ _,?_⟩
  have hd :=int_doneN (X :=((x ^ v : Nat) : Int)) false (by rw [eq_comm,decide_eq_false_iff_not];exact Int.not_lt.2 (Int.natCast_nonneg _)) hk hb hz (by simpa using k1) k2 k3
  first | exact ⟨rfl,hd⟩ | exact ⟨rfl,done_drew hd⟩
theorem int_Exp (w0 w : World) (hg : Glob w) (hk : Kept w0 w) (bz bx by' : Nat) (hb : w0.heap.size ≤ bz) (hz : ZeroInt w bz) (x v : Nat) (hx : IntAt w bx x) (hy : IntAt w by' v) (hxb : bx ≠ bz) (hyb : by' ≠ bz) (h2 : 2 ≤ x) (hv : 2 ≤ v) (hxl : x < W64) (hvl : v < W64) (hB : x ^ v < W64 ^ 22) :
    Calls Tryz.prog 112 #[ptr bz,ptr bx,ptr by',.pointer none] w fun e w' => e = .returned (ptr bz) ∧ IntN w0 w' bz (x ^ v : Nat) ∧ Kept w0 w' :=by
  have he :=int_exp w0 w hg hk bz bx by' hb hz x v hx hy hxb hyb h2 hv hxl hvl hB
  go_enter Tryz.func112,Tryz.ntmps112
  go_wp2_with (go_at_call 129;refine he.mono ?_;rintro e w1 ⟨rfl,k⟩;have K :=Lib.hid k;clear k)
  first | go_ret | refine ⟨_,results_tmp rfl _ _ _,?_⟩
  exact ⟨rfl,K.out⟩
theorem tenInt (w : World) : Calls Tryz.prog 113 #[] w (NewInt w 10) :=by
  have h :=int_new w 10 (by omega) (by omega)
  go_enter Tryz.func113,Tryz.ntmps113
  go_wp2_with (go_at_call 93;refine h.mono ?_;rintro e w1 ⟨b,rfl,k⟩;have K :=Lib.hid k;clear k)
  first | go_ret | refine ⟨_,results_tmp rfl _ _ _,?_⟩
  exact ⟨b,rfl,K.out⟩
theorem oneInt (w : World) : Calls Tryz.prog 125 #[] w (NewInt w 1) :=by
  have h :=int_new w 1 (by omega) (by omega)
  go_enter Tryz.func125,Tryz.ntmps125
  go_wp2_with (go_at_call 93;refine h.mono ?_;rintro e w1 ⟨b,rfl,k⟩;have K :=Lib.hid k;clear k)
  first | go_ret | refine ⟨_,results_tmp rfl _ _ _,?_⟩
  exact ⟨b,rfl,K.out⟩
theorem pow10_lt {n : Nat} (h : n ≤ 127) : 10 ^ n < W39 :=Nat.lt_of_le_of_lt (Nat.pow_le_pow_right (by decide) h) (by decide)
theorem pow10Table (w : World) (hg : Glob w) (n : Nat) (hn : n ≤ 127) : Calls Tryz.prog 111 #[.int .i64 n] w (NewInt w (10 ^ n : Nat)) :=by
  have h1 :=int_new w 1 (by omega) (by omega)
  go_enter Tryz.func111,Tryz.ntmps111
  go_wp2_with (go_at_call 93;refine h1.mono ?_;rintro e w1 ⟨b1,rfl,k1,k2⟩)
  go_loopw [3,4] (fun t i wr => ∃ (k b : Nat),k ≤ n ∧ i = .int .i64 ((k : Int) + 1) ∧ t = ptr b ∧ IntN w wr b (10 ^ k : Nat) ∧ Kept w wr) (fun _ i _ => n + 1 - (intOf i).toNat)
  case atStart => exact ⟨0,b1,Nat.zero_le _,rfl,rfl,k1,k2⟩
  case round =>
    obtain ⟨k,b,hk,rfl,rfl,r1,r2⟩ :=hrel
    by_cases hlt : k < n
    · have hm : ∀ w2 b2,Kept (wr.alloc (.cells #[.bool false,.slice none 0 0] 112)) w2 → IntN (wr.alloc (.cells #[.bool false,.slice none 0 0] 112)) w2 b2 10 → Calls Tryz.prog 91 #[ptr wr.heap.size,ptr b,ptr b2] w2 fun e w' => e = .returned (ptr wr.heap.size) ∧ IntN wr w' wr.heap.size ((10 ^ k : Nat) * 10) ∧ Kept wr w' :=by
        intro w2 b2 q1 q2
        have ka : Kept wr (wr.alloc (.cells #[.bool false,.slice none 0 0] 112)) :=Chg.alloc _ _ _
        have kw :=ka.trans q1 fun _ _ _ h => h
        have hlt1 :=r1.at.lt
        have hge :=q2.ge
        have hsz : (wr.alloc (.cells #[.bool false,.slice none 0 0] 112)).heap.size = wr.heap.size + 1 :=by simp
        exact int_Mul wr w2 (hg.kept (r2.trans kw fun _ _ _ h => h)) kw wr.heap.size b b2 (Nat.le_refl _) ((ZeroInt.made wr).kept q1) _ 10 (r1.at.kept kw) q2.at (by omega) (by omega) (fun e => by omega) (by simpa using pow10_lt (by omega)) (by decide)
      go_wp2_with (first
        | (go_at_call 113;refine (tenInt _).mono ?_;rintro e w2 ⟨b2,rfl,q1,q2⟩)
        | (go_at_call 91;refine (hm w2 b2 q2 q1).mono ?_;rintro e w3 ⟨rfl,q3,q4⟩))
      go_roundw
      case rel => exact ⟨k + 1,_,hlt,by go_num,rfl,by have :=q3.older (Chg.size r2);simpa [Nat.pow_succ] using this,r2.trans q4 fun _ _ _ h => h⟩
      case measure => simp [intOf];omega
    · obtain rfl : k = n :=by omega
      go_wp2
      first | go_ret | refine ⟨_,results_tmp rfl _ _ _,?_⟩
      exact ⟨b,rfl,r1,r2⟩
theorem pow10_lt2 {n : Nat} (h : n ≤ 420) : 10 ^ n < W64 ^ 22 :=Nat.lt_of_le_of_lt (Nat.pow_le_pow_right (by decide) h) (by decide)
theorem pow10 (w : World) (hg : Glob w) (n : Nat) (hn : n ≤ 420) : Calls Tryz.prog 92 #[.int .i64 n] w (NewInt w (10 ^ n : Nat)) :=by
  by_cases h : n ≤ 127
  · have ht :=pow10Table w hg n h
    go_enter Tryz.func92,Tryz.ntmps92
    go_wp2_with (go_at_call 111;refine ht.mono ?_;rintro e w1 ⟨b,rfl,k⟩;have K :=Lib.hid k;clear k)
    first | go_ret | refine ⟨_,results_tmp rfl _ _ _,?_⟩
    exact ⟨b,rfl,K.out⟩
  · have hm : ∀ w2 b2 b3,Kept (w.alloc (.cells #[.bool false,.slice none 0 0] 112)) w2 → IntAt w2 b2 10 → IntAt w2 b3 n → w.heap.size < b2 → w.heap.size < b3 → Calls Tryz.prog 112 #[ptr w.heap.size,ptr b2,ptr b3,.pointer none] w2 fun e w' => e = .returned (ptr w.heap.size) ∧ IntN w w' w.heap.size (10 ^ n : Nat) ∧ Kept w w' :=by
      intro w2 b2 b3 q1 q2 q3 q4 q5
      have ka : Kept w (w.alloc (.cells #[.bool false,.slice none 0 0] 112)) :=Chg.alloc _ _ _
      have kw :=ka.trans q1 fun _ _ _ h => h
      exact int_Exp w w2 (hg.kept kw) kw w.heap.size b2 b3 (Nat.le_refl _) ((ZeroInt.made w).kept q1) 10 n q2 q3 (by omega) (by omega) (by omega) (by omega) (by decide) (by unfold W64;omega) (pow10_lt2 hn)
    have hn' :=fun W => int_new W n (by omega) (by omega)
    go_enter Tryz.func92,Tryz.ntmps92
    go_wp2_with (first
      | (go_at_call 113;refine (tenInt _).mono ?_;rintro e w2 ⟨b2,rfl,q1,q2⟩)
      | (go_at_call 93;refine (hn' _).mono ?_;rintro e w3 ⟨b3,rfl,q3,q4⟩)
      | (go_at_call 112;refine (hm w3 b2 b3 (q2.trans q4 fun _ _ _ h => h) (q1.at.kept q4) q3.at (by have :=q1.ge;simp at this;omega) (by have :=q3.ge;have :=q2.size;simp at this;omega)).mono ?_;rintro e w4 ⟨rfl,k⟩;have K :=Lib.hid k;clear k))
    first | go_ret | refine ⟨_,results_tmp rfl _ _ _,?_⟩
    exact ⟨_,rfl,K.out⟩
end Go.Proofs.YtfmmdamgcpiciaaGreatDoor
namespace Go.Proofs.YtfmmdamgcpiciaaGreatDoor.Plain
theorem guess_done {b u2 u1 v1 v0 q r : Nat} (hv : 0 < v1 * b + v0) (he : q * v1 + r = u2) (hge : (u2 * b + u1) / (v1 * b + v0) ≤ q) (ht : q * v0 ≤ b * r + u1) : q = (u2 * b + u1) / (v1 * b + v0) :=by
  refine Nat.le_antisymm ?_ hge
  rw [Nat.le_div_iff_mul_le hv]
  have e : q * (v1 * b + v0) = (u2 - r) * b + q * v0 :=by
    have : u2 - r = q * v1 :=by omega
    rw [this,Nat.mul_add,Nat.mul_assoc]
  have e2 : (u2 - r) * b + b * r = u2 * b :=by rw [Nat.mul_comm b r,← Nat.add_mul];congr 1;omega
  omega
theorem guess_more {b u2 u1 v1 v0 q r : Nat} (hv : 0 < v1 * b + v0) (he : q * v1 + r = u2) (ht : b * r + u1 < q * v0) : (u2 * b + u1) / (v1 * b + v0) < q :=by
  rw [Nat.div_lt_iff_lt_mul hv]
  have e : q * (v1 * b + v0) = q * v1 * b + q * v0 :=by rw [Nat.mul_add,Nat.mul_assoc]
  have e2 : u2 * b = q * v1 * b + b * r :=by rw [← he,Nat.add_mul,Nat.mul_comm b r]
  omega
theorem guess_lt {b u2 u1 v1 v0 : Nat} (hb : u1 < b) (h : u2 < v1 * b + v0) : (u2 * b + u1) / (v1 * b + v0) < b :=by
  rw [Nat.div_lt_iff_lt_mul (by omega)]
  have : (u2 + 1) * b ≤ (v1 * b + v0) * b :=Nat.mul_le_mul_right b h
  rw [Nat.add_mul,Nat.one_mul] at this
  rw [Nat.mul_comm b]
  omega
theorem guess_start {b u2 u1 v1 v0 : Nat} (hv : 0 < v1) (hb : u1 < b) : (u2 * b + u1) / (v1 * b + v0) ≤ u2 / v1 :=by
  rw [Nat.le_div_iff_mul_le hv]
  have hpos : 0 < v1 * b + v0 :=by have :=Nat.mul_pos hv (show 0 < b by omega);omega
  have h :=Nat.div_mul_le_self (u2 * b + u1) (v1 * b + v0)
  generalize (u2 * b + u1) / (v1 * b + v0) = q at *
  rw [Nat.mul_add,← Nat.mul_assoc] at h
  have h2 : q * v1 * b < (u2 + 1) * b :=by rw [Nat.add_mul,Nat.one_mul];omega
  have h3 :=Nat.lt_of_mul_lt_mul_right h2
  omega
theorem recip {B u : Nat} (hu : 0 < u) (h : u < B) : ((B - 1 - u) * B + (B - 1)) / u = (B * B - 1) / u - B :=by
  have e : (B - 1 - u) * B + (B - 1) + u * B = B * B - 1 :=by
    have : (B - 1 - u + u) * B = (B - 1) * B :=by congr 1;omega
    rw [Nat.add_mul] at this
    have h1 : (B - 1) * B + B = B * B :=by rw [← Nat.succ_mul];congr 1;omega
    omega
  rw [← e,Nat.add_mul_div_left _ _ hu]
  exact (Nat.add_sub_cancel _ _).symm
theorem recip_bounds {B d m : Nat} (hd : 0 < d) (hB : 0 < B) (hm : (B * B - 1) / d = m + B) : d * (m + B) ≤ B * B - 1 ∧ B * B ≤ d * (m + B) + d :=by
  have h1 :=Nat.div_add_mod (B * B - 1) d
  have h2 :=Nat.mod_lt (B * B - 1) hd
  have h3 :=Nat.mul_pos hB hB
  rw [hm] at h1
  omega
theorem recip_low {B d m x1 x0 q : Nat} (hdB : d ≤ B) (hB : 0 < B) (h1 : d * (m + B) ≤ B * B - 1) (hq : q * B ≤ x1 * (m + B) + x0) : q * d ≤ x1 * B + x0 :=by
  have a : (q * d) * B ≤ (x1 * B + x0) * B :=by
    have e1 : (q * B) * d ≤ (x1 * (m + B) + x0) * d :=Nat.mul_le_mul_right d hq
    have e2 : (x1 * (m + B) + x0) * d = x1 * (d * (m + B)) + x0 * d :=by rw [Nat.add_mul,Nat.mul_assoc,Nat.mul_comm (m + B) d]
    have e3 : x1 * (d * (m + B)) ≤ x1 * (B * B) :=Nat.mul_le_mul_left x1 (by omega)
    have e4 : x0 * d ≤ x0 * B :=Nat.mul_le_mul_left x0 hdB
    have e5 : (q * d) * B = (q * B) * d :=by rw [Nat.mul_assoc,Nat.mul_comm d B,← Nat.mul_assoc]
    rw [e5,Nat.add_mul,Nat.mul_assoc x1 B B]
    omega
  exact Nat.le_of_mul_le_mul_right a hB
theorem recip_high {B d m x1 x0 q : Nat} (hd : 0 < d) (hdB : d < B) (h2 : B * B ≤ d * (m + B) + d) (hx1 : x1 < d) (hx0 : x0 < B) (hq : x1 * (m + B) + x0 < (q + 1) * B) : x1 * B + x0 < q * d + (B + d) :=by
  have a : (x1 * B + x0) * B < (q * d + (B + d)) * B :=by
    -- x1 (B B - d) + x0 d <= (x1 (m + B) + x0) d <= ((q + 1) B - 1) d
    have e1 : (x1 * (m + B) + x0) * d ≤ ((q + 1) * B - 1) * d :=Nat.mul_le_mul_right d (by omega)
    have e2 : (x1 * (m + B) + x0) * d = x1 * (d * (m + B)) + x0 * d :=by rw [Nat.add_mul,Nat.mul_assoc,Nat.mul_comm (m + B) d]
    have e3 : x1 * (B * B) ≤ x1 * (d * (m + B)) + x1 * d :=by rw [← Nat.mul_add];exact Nat.mul_le_mul_left x1 h2
    have e4 : ((q + 1) * B - 1) * d + d = q * d * B + B * d :=by
      have h : (q + 1) * B = ((q + 1) * B - 1) + 1 :=by
        have : 0 < (q + 1) * B :=Nat.mul_pos (by omega) (by omega)
        omega
      have h' : ((q + 1) * B) * d = (((q + 1) * B - 1) + 1) * d :=by rw [← h]
      rw [Nat.add_mul _ 1 d,Nat.one_mul] at h'
      rw [← h',Nat.add_mul,Nat.one_mul,Nat.add_mul,Nat.mul_assoc q B d,Nat.mul_comm B d,← Nat.mul_assoc]
    have e5 : x0 * B = x0 * d + x0 * (B - d) :=by rw [← Nat.mul_add];congr 1;omega
    have e6 : x0 * (B - d) ≤ (B - 1) * (B - d) :=Nat.mul_le_mul_right _ (by omega)
    have e7 : x1 * d ≤ (d - 1) * d :=Nat.mul_le_mul_right _ (by omega)
    have e8 : (B - 1) * (B - d) + (B - d) = B * B - B * d :=by rw [← Nat.succ_mul,← Nat.mul_sub];congr 1;omega
    have e9 : (d - 1) * d + d = d * d :=by rw [← Nat.succ_mul];congr 1;omega
    have e10 : d * d < d * B :=Nat.mul_lt_mul_of_pos_left hdB hd
    have e11 : B * d ≤ B * B :=Nat.mul_le_mul_left B (by omega)
    rw [Nat.add_mul,Nat.add_mul,Nat.add_mul,Nat.mul_assoc x1 B B,Nat.mul_comm d B]
    rw [Nat.mul_comm d B] at e10
    omega
  exact Nat.lt_of_mul_lt_mul_right a
theorem knuth_low {P U V U3 V2 u v q : Nat} (hP : 0 < P) (hU : U = U3 * P + u) (hu : u < P) (hV : V = V2 * P + v) (h : q * V ≤ U) : q * V2 ≤ U3 :=by
  have h1 : (q * V2) * P < (U3 + 1) * P :=by
    rw [hV,Nat.mul_add,← Nat.mul_assoc] at h
    rw [Nat.add_mul,Nat.one_mul]
    omega
  have :=Nat.lt_of_mul_lt_mul_right h1
  omega
theorem knuth_high {P B U V U3 V2 u v q : Nat} (hU : U = U3 * P + u) (hV : V = V2 * P + v) (hv : v < P) (hq : q * V2 ≤ U3) (hqB : q ≤ B) (hVB : B ≤ V2) (hpos : 0 < q) : q * V < U + V :=by
  have h1 : q * V2 * P ≤ U3 * P :=Nat.mul_le_mul_right P hq
  have h2 : q * v < q * P :=Nat.mul_lt_mul_of_pos_left hv hpos
  have h3 : q * P ≤ V2 * P :=Nat.mul_le_mul_right P (by omega)
  rw [hV,Nat.mul_add,← Nat.mul_assoc]
  omega
end Go.Proofs.YtfmmdamgcpiciaaGreatDoor.Plain
namespace Go.Proofs.YtfmmdamgcpiciaaGreatDoor
open Go Go.RowKit
theorem mask32 (x : Nat) (hx : x < 18446744073709551616) : bits .and .u64 (x : Int) 4294967295 = ((x % 4294967296 : Nat) : Int) :=by
  have h :=and_u64 x (2 ^ 32 - 1) hx (by decide)
  rw [Nat.and_two_pow_sub_one_eq_mod] at h
  exact h
theorem bitsDiv64_small (lo y : Nat) (hlo : lo < W64) (hy : y < W64) (h0 : 0 < y) (w : World) :
    Calls Tryz.prog 263 #[.int .u64 0,.int .u64 lo,.int .u64 y] w fun e w' => e = .returned (.tuple #[.int .u64 (lo / y : Nat),.int .u64 (lo % y : Nat)]) ∧ Kept w w' :=by
  have e1 : ((y : Int) == 0) = false :=by simp;omega
  unfold W64 at hlo hy
  have hq : lo / y < 18446744073709551616 :=Nat.lt_of_le_of_lt (Nat.div_le_self _ _) hlo
  have e2 : (lo : Int) / (y : Int) = ((lo / y : Nat) : Int) :=(Int.natCast_ediv lo y).symm
  have e3 : (lo : Int) % (y : Int) = ((lo % y : Nat) : Int) :=(Int.natCast_emod lo y).symm
  generalize lo / y = q at *
  generalize lo % y = r at *
  have e4 :=wrap_u64_in (q : Int) (by omega) (by omega)
  go_enter Tryz.func263,Tryz.ntmps263
  go_wp2_with (first
    | (refine wp_region_lit_segs (id :=6) [[0,1,2,3,4,5,6,7]] mixed (by kernel_rfl) ?_;simp only [wpSegsL,gaC,gaN,lZ0,lS0,coS])
    | refine ⟨by kernel_rfl,?_⟩)
  refine ⟨_,results_tmp2 rfl _ _ _,?_⟩
  exact ⟨rfl,(Chg.refl _ _).drew⟩
def GuessAt (b u2 u1 v1 v0 q r : Nat) : Prop :=q * v1 + r = u2 ∧ (u2 * b + u1) / (v1 * b + v0) ≤ q
def Guess32 (u2 u1 v1 v0 q r : Nat) : Prop :=GuessAt 4294967296 u2 u1 v1 v0 q r ∧ q < 4294967298 ∧ r < 4294967296
theorem guess_step {b u2 u1 v1 v0 q r : Nat} (hv : 0 < v1 * b + v0) (hu : u2 < v1 * b + v0) (hb : u1 < b) (h : GuessAt b u2 u1 v1 v0 q r) (ht : b ≤ q ∨ b * r + u1 < q * v0) : 0 < q ∧ GuessAt b u2 u1 v1 v0 (q - 1) (r + v1) :=by
  obtain ⟨h1,h2⟩ :=h
  have hlt : (u2 * b + u1) / (v1 * b + v0) < q :=by
    rcases ht with ht | ht
    · exact Nat.lt_of_lt_of_le (Plain.guess_lt hb hu) ht
    · exact Plain.guess_more hv h1 ht
  unfold GuessAt
  generalize (u2 * b + u1) / (v1 * b + v0) = Q at *
  refine ⟨by omega,?_,by omega⟩
  obtain ⟨q,rfl⟩ : ∃ k,q = k + 1 :=⟨q - 1,by omega⟩
  rw [Nat.add_mul,Nat.one_mul] at h1
  simp only [Nat.add_sub_cancel]
  omega
theorem guess_end {b u2 u1 v1 v0 q r : Nat} (hv : 0 < v1 * b + v0) (h0 : v0 < b) (h : GuessAt b u2 u1 v1 v0 q r) (ht : (q ≤ b ∧ b ≤ r) ∨ q * v0 ≤ b * r + u1) : q = (u2 * b + u1) / (v1 * b + v0) :=by
  refine Plain.guess_done hv h.1 h.2 ?_
  rcases ht with ⟨h1,h2⟩ | ht
  · have a :=Nat.mul_le_mul h1 (Nat.le_of_lt h0)
    have c :=Nat.mul_le_mul_left b h2
    omega
  · exact ht
theorem two_digits {b W hi lo l1 l0 y Q1 R1 Q0 R0 : Nat} (hW : b * b = W) (h1 : y * Q1 + R1 = hi * b + l1) (h0 : y * Q0 + R0 = R1 * b + l0) (hl : lo = l1 * b + l0) (hR : R0 < y) :
    (hi * W + lo) / y = Q1 * b + Q0 ∧ (hi * W + lo) % y = R0 :=by
  have e : hi * W + lo = y * (Q1 * b + Q0) + R0 :=by
    have a1 : hi * W + l1 * b = (hi * b + l1) * b :=by rw [← hW,Nat.add_mul,Nat.mul_assoc]
    rw [← h1,Nat.add_mul] at a1
    rw [Nat.mul_add,← Nat.mul_assoc]
    omega
  rw [e]
  exact ⟨by rw [Nat.mul_add_div (by omega),Nat.div_eq_of_lt hR,Nat.add_zero],by rw [Nat.mul_add_mod,Nat.mod_eq_of_lt hR]⟩
theorem bitsDiv64_norm (hi lo y : Nat) (hlo : lo < W64) (hy : y < W64) (h0 : 9223372036854775808 ≤ y) (h1 : 0 < hi) (h2 : hi < y) (w : World) :
    Calls Tryz.prog 263 #[.int .u64 hi,.int .u64 lo,.int .u64 y] w fun e w' => e = .returned (.tuple #[.int .u64 ((hi * W64 + lo) / y : Nat),.int .u64 ((hi * W64 + lo) % y : Nat)]) ∧ Kept w w' :=by
  have e1 : ((y : Int) == 0) = false :=by simp;omega
  have e2 : ((hi : Int) == 0) = false :=by simp;omega
  have hz :=leadingZeros64 y hy
  have hb : Lib.bitLen y = 64 :=by
    have b1 :=bitLen_64 hy
    have b2 :=(bitLen_bounds hy (by omega)).2.2
    rcases Nat.lt_or_ge (Lib.bitLen y) 64 with h | h
    · have : 2 ^ Lib.bitLen y ≤ 2 ^ 63 :=Nat.pow_le_pow_right (by decide) (by omega)
      omega
    · omega
  rw [hb] at hz
  unfold W64 at hlo hy ⊢
  obtain ⟨v1,hv1⟩ : ∃ n,y / 4294967296 = n :=⟨_,rfl⟩
  obtain ⟨v0,hv0⟩ : ∃ n,y % 4294967296 = n :=⟨_,rfl⟩
  obtain ⟨l1,hl1⟩ : ∃ n,lo / 4294967296 = n :=⟨_,rfl⟩
  obtain ⟨l0,hl0⟩ : ∃ n,lo % 4294967296 = n :=⟨_,rfl⟩
  have hyv : v1 * 4294967296 + v0 = y :=by omega
  have f1 : bits .and .u64 (y : Int) 4294967295 = (v0 : Int) :=by rw [mask32 y hy,hv0]
  have f2 : bits .or .u64 (hi : Int) ((lo : Int) / 18446744073709551616) = (hi : Int) :=by
    rw [show (lo : Int) / 18446744073709551616 = ((0 : Nat) : Int) by omega,or_u64 hi 0 (by omega) (by decide),Nat.or_zero]
  have f3 : (y : Int) / 4294967296 = (v1 : Int) :=by omega
  have f4 : (lo : Int) / 4294967296 = (l1 : Int) :=by omega
  have f5 : bits .and .u64 (lo : Int) 4294967295 = (l0 : Int) :=by rw [mask32 lo hlo,hl0]
  have bv1 : 2147483648 ≤ v1 ∧ v1 < 4294967296 :=by omega
  have bv0 : v0 < 4294967296 :=by omega
  have bl1 : l1 < 4294967296 :=by omega
  have bl0 : l0 < 4294967296 :=by omega
  have hq1 : hi / v1 < 4294967298 :=by rw [Nat.div_lt_iff_lt_mul (by omega)];omega
  have hdm :=Nat.div_add_mod hi v1
  have hr1 : hi % v1 < v1 :=Nat.mod_lt _ (by omega)
  have hcd : (hi : Int) / (v1 : Int) = ((hi / v1 : Nat) : Int) :=by simp
  have hgs :=Plain.guess_start (b :=4294967296) (u2 :=hi) (u1 :=l1) (v1 :=v1) (v0 :=v0) (by omega) bl1
  generalize hi / v1 = q0 at *
  generalize hi % v1 = r0 at *
  have f6 : IntKind.u64.wrap ((hi : Int) / (v1 : Int)) = (q0 : Int) :=by
    rw [hcd,wrap_u64_in (q0 : Int) (by omega) (by omega)]
  have f7 : IntKind.u64.wrap ((hi : Int) - IntKind.u64.wrap ((q0 : Int) * (v1 : Int))) = (r0 : Int) :=by
    rw [← Int.natCast_mul,Nat.mul_comm]
    generalize v1 * q0 = P at *
    rw [wrap_u64_in (P : Int) (by omega) (by omega),wrap_u64_in ((hi : Int) - (P : Int)) (by omega) (by omega)]
    omega
  have hG : GuessAt 4294967296 hi l1 v1 v0 q0 r0 :=⟨by rw [Nat.mul_comm];exact hdm,hgs⟩
  have HG :=Lib.hid (And.intro hG (And.intro hq1 (And.intro hr1 (And.intro hv1 (And.intro hv0 (And.intro hl1 hl0))))))
  clear hG hq1 hr1 hdm hv1 hv0 hl1 hl0 hb hgs hcd
  go_enter Tryz.func263,Tryz.ntmps263
  go_upto_block 0 with (go_at_call 270;refine (hz _).mono ?_;rintro r w1 ⟨rfl,hw⟩;rw [hw];clear hw)
  obtain ⟨Q1,hQ1⟩ : ∃ Q,(hi * 4294967296 + l1) / y = Q :=⟨_,rfl⟩
  have HQ1 :=Lib.hid hQ1
  clear hQ1
  go_cut [15,16] (fun q r wx => w = wx ∧ q = .int .u64 Q1)
  case first =>
    go_wp2_with fail
    go_loop [15,16] (fun t15 t16 => ∃ q r : Nat,t15 = .int .u64 q ∧ t16 = .int .u64 r ∧ Guess32 hi l1 v1 v0 q r) (fun t15 _ => (intOf t15).toNat)
    case atStart => exact ⟨q0,r0,rfl,rfl,HG.out.1,HG.out.2.1,by have :=HG.out.2.2.1;omega⟩
    case round =>
      obtain ⟨q,r,rfl,rfl,hg,hq,hr⟩ :=hrel
      have hb2 : q < 4294967296 → q * v0 < 18446744073709551616 :=fun h => by
        have :=Nat.mul_lt_mul'' h bv0
        omega
      obtain ⟨qi,hqi⟩ : ∃ i : Int,(q : Int) = i :=⟨_,rfl⟩
      obtain ⟨ri,hri⟩ : ∃ i : Int,(r : Int) = i :=⟨_,rfl⟩
      obtain ⟨vi,hvi⟩ : ∃ i : Int,(v1 : Int) = i :=⟨_,rfl⟩
      obtain ⟨wi,hwi⟩ : ∃ i : Int,(v0 : Int) = i :=⟨_,rfl⟩
      obtain ⟨li,hli⟩ : ∃ i : Int,(l1 : Int) = i :=⟨_,rfl⟩
      have hqw : ((q * v0 : Nat) : Int) = qi * wi :=by rw [Int.natCast_mul,hqi,hwi]
      have HA :=Lib.hid (And.intro hqi (And.intro hri (And.intro hvi (And.intro hwi (And.intro hli (And.intro hg (And.intro hq hqw)))))))
      rw [hqi,hri,hvi,hwi,hli]
      have b1 : 0 ≤ ri :=by omega
      have b2 : ri < 4294967296 :=by omega
      have b3 : 0 ≤ vi :=by omega
      have b4 : vi < 4294967296 :=by omega
      have b5 : 0 ≤ li :=by omega
      have b6 : li < 4294967296 :=by omega
      have b7 : 0 ≤ qi :=by omega
      have b8 : qi < 4294967298 :=by omega
      by_cases hc : 4294967296 ≤ q ∨ 4294967296 * r + l1 < q * v0
      · obtain ⟨hpos,hgn⟩ :=guess_step (by omega) (by omega) bl1 hg hc
        have HN :=Lib.hid (And.intro hgn hpos)
        have c1 : 0 < qi :=by omega
        by_cases hr32 : 4294967296 ≤ r + v1
        · have c7 : 4294967296 ≤ ri + vi :=by omega
          by_cases hq32 : 4294967296 ≤ q
          · have c6 : 4294967296 ≤ qi :=by omega
            clear hr32 hq32 hc hgn hpos hb2 hqi hri hvi hwi hli hqw hq hr hg
            go_wp2
            obtain ⟨hqi,hri,hvi,hwi,hli,hg,hq,hqw⟩ :=HA.out
            subst hvi hwi hli hri
            go_meet
            obtain ⟨hgn,hpos⟩ :=HN.out
            have he :=guess_end (by omega) bv0 hgn (.inl ⟨by omega,by omega⟩)
            rw [hyv,HQ1.out] at he
            have E : Value.int IntKind.u64 (qi - 1) = .int .u64 (Q1 : Nat) :=by rw [← hqi,← he];congr 1;omega
            first | exact ⟨rfl,E⟩ | exact E
          · have c6 : ¬ 4294967296 ≤ qi :=by omega
            have c8 : 4294967296 * ri + li < qi * wi :=by omega
            have c9 : qi * wi < 18446744073709551616 :=by have :=hb2 (by omega);omega
            clear hr32 hq32 hc hgn hpos hb2 hqi hri hvi hwi hli hqw hq hr hg
            go_wp2
            obtain ⟨hqi,hri,hvi,hwi,hli,hg,hq,hqw⟩ :=HA.out
            subst hvi hwi hli hri
            go_meet
            obtain ⟨hgn,hpos⟩ :=HN.out
            have he :=guess_end (by omega) bv0 hgn (.inl ⟨by omega,by omega⟩)
            rw [hyv,HQ1.out] at he
            have E : Value.int IntKind.u64 (qi - 1) = .int .u64 (Q1 : Nat) :=by rw [← hqi,← he];congr 1;omega
            first | exact ⟨rfl,E⟩ | exact E
        · have c7 : ri + vi < 4294967296 :=by omega
          by_cases hq32 : 4294967296 ≤ q
          · have c6 : 4294967296 ≤ qi :=by omega
            clear hr32 hq32 hc hgn hpos hb2 hqi hri hvi hwi hli hqw hq hr hg
            go_wp2
            go_round
            case rel =>
              obtain ⟨hqi,hri,hvi,hwi,hli,hg,hq,hqw⟩ :=HA.out
              obtain ⟨hgn,hpos⟩ :=HN.out
              exact ⟨q - 1,r + v1,by rw [← hqi];congr 1;omega,by rw [← hri,← hvi];congr 1,hgn,by omega,by omega⟩
            case measure =>
              obtain ⟨hqi,hri,hvi,hwi,hli,hg,hq,hqw⟩ :=HA.out
              simp [intOf];omega
          · have c6 : ¬ 4294967296 ≤ qi :=by omega
            have c8 : 4294967296 * ri + li < qi * wi :=by omega
            have c9 : qi * wi < 18446744073709551616 :=by have :=hb2 (by omega);omega
            clear hr32 hq32 hc hgn hpos hb2 hqi hri hvi hwi hli hqw hq hr hg
            go_wp2
            go_round
            case rel =>
              obtain ⟨hqi,hri,hvi,hwi,hli,hg,hq,hqw⟩ :=HA.out
              obtain ⟨hgn,hpos⟩ :=HN.out
              exact ⟨q - 1,r + v1,by rw [← hqi];congr 1;omega,by rw [← hri,← hvi];congr 1,hgn,by omega,by omega⟩
            case measure =>
              obtain ⟨hqi,hri,hvi,hwi,hli,hg,hq,hqw⟩ :=HA.out
              simp [intOf];omega
      · have c6 : ¬ 4294967296 ≤ qi :=by omega
        have c8 : ¬ 4294967296 * ri + li < qi * wi :=by omega
        have c9 : qi * wi < 18446744073709551616 :=by have :=hb2 (by omega);omega
        have c10 : 0 ≤ qi * wi :=by omega
        have HN :=Lib.hid hc
        clear hc hb2 hqi hri hvi hwi hli hqw hq hr hg
        go_wp2
        obtain ⟨hqi,hri,hvi,hwi,hli,hg,hq,hqw⟩ :=HA.out
        subst hvi hwi hli hri
        go_meet
        have hc :=HN.out
        have he :=guess_end (by omega) bv0 hg (.inr (by omega))
        rw [hyv,HQ1.out] at he
        have E : Value.int IntKind.u64 qi = .int .u64 (Q1 : Nat) :=by rw [← hqi,he]
        first | exact ⟨rfl,E⟩ | exact E
  case rest =>
    obtain ⟨rfl,rfl⟩ :=hcut
    have hQ1 :=HQ1.out
    obtain ⟨R1,hR1⟩ : ∃ R,(hi * 4294967296 + l1) % y = R :=⟨_,rfl⟩
    have hdm :=Nat.div_add_mod (hi * 4294967296 + l1) y
    have hRy : R1 < y :=by rw [← hR1];exact Nat.mod_lt _ (by omega)
    rw [hQ1,hR1] at hdm
    have hQb : Q1 < 4294967296 :=by rw [← hQ1,← hyv];exact Plain.guess_lt bl1 (by omega)
    have g1 : IntKind.u64.wrap (IntKind.u64.wrap (IntKind.u64.wrap ((hi : Int) * 4294967296) + (l1 : Int)) - IntKind.u64.wrap ((Q1 : Int) * (y : Int))) = (R1 : Int) :=by
      rw [← Int.natCast_mul,Nat.mul_comm,wrap_u64,wrap_u64,wrap_u64,wrap_u64]
      generalize y * Q1 = P at *
      omega
    have hdm2 :=Nat.div_add_mod R1 v1
    have hr1 : R1 % v1 < v1 :=Nat.mod_lt _ (by omega)
    have hq1 : R1 / v1 < 4294967298 :=by rw [Nat.div_lt_iff_lt_mul (by omega)];omega
    have hcd : (R1 : Int) / (v1 : Int) = ((R1 / v1 : Nat) : Int) :=(Int.natCast_ediv _ _).symm
    have hgs :=Plain.guess_start (b :=4294967296) (u2 :=R1) (u1 :=l0) (v1 :=v1) (v0 :=v0) (by omega) bl0
    generalize R1 / v1 = q2 at *
    generalize R1 % v1 = r2 at *
    have g2 : IntKind.u64.wrap ((R1 : Int) / (v1 : Int)) = (q2 : Int) :=by
      rw [hcd,wrap_u64_in (q2 : Int) (by omega) (by omega)]
    have g3 : IntKind.u64.wrap ((R1 : Int) - IntKind.u64.wrap ((q2 : Int) * (v1 : Int))) = (r2 : Int) :=by
      rw [← Int.natCast_mul,Nat.mul_comm]
      generalize v1 * q2 = P at *
      rw [wrap_u64_in (P : Int) (by omega) (by omega),wrap_u64_in ((R1 : Int) - (P : Int)) (by omega) (by omega)]
      omega
    have hG : GuessAt 4294967296 R1 l0 v1 v0 q2 r2 :=⟨by rw [Nat.mul_comm];exact hdm2,hgs⟩
    have HD :=Lib.hid (And.intro hdm (And.intro hRy (And.intro hQb (And.intro hG (And.intro hq1 hr1)))))
    clear hdm hRy hQb hG hq1 hr1 hdm2 hcd hgs hQ1 hR1
    go_upto_block 2 with fail
    obtain ⟨Q0,hQ0⟩ : ∃ Q,(R1 * 4294967296 + l0) / y = Q :=⟨_,rfl⟩
    have HQ0 :=Lib.hid hQ0
    clear hQ0
    go_cut [18,16] (fun q r wx => w = wx ∧ q = .int .u64 Q0)
    case first =>
      go_wp2_with fail
      go_loop [18,16] (fun t15 t16 => ∃ q r : Nat,t15 = .int .u64 q ∧ t16 = .int .u64 r ∧ Guess32 R1 l0 v1 v0 q r) (fun t15 _ => (intOf t15).toNat)
      case atStart => exact ⟨q2,r2,rfl,rfl,HD.out.2.2.2.1,HD.out.2.2.2.2.1,by have :=HD.out.2.2.2.2.2;omega⟩
      case round =>
        obtain ⟨q,r,rfl,rfl,hg,hq,hr⟩ :=hrel
        have hRy :=HD.out.2.1
        have hb2 : q < 4294967296 → q * v0 < 18446744073709551616 :=fun h => by
          have :=Nat.mul_lt_mul'' h bv0
          omega
        obtain ⟨qi,hqi⟩ : ∃ i : Int,(q : Int) = i :=⟨_,rfl⟩
        obtain ⟨ri,hri⟩ : ∃ i : Int,(r : Int) = i :=⟨_,rfl⟩
        obtain ⟨vi,hvi⟩ : ∃ i : Int,(v1 : Int) = i :=⟨_,rfl⟩
        obtain ⟨wi,hwi⟩ : ∃ i : Int,(v0 : Int) = i :=⟨_,rfl⟩
        obtain ⟨li,hli⟩ : ∃ i : Int,(l0 : Int) = i :=⟨_,rfl⟩
        have hqw : ((q * v0 : Nat) : Int) = qi * wi :=by rw [Int.natCast_mul,hqi,hwi]
        have HA :=Lib.hid (And.intro hqi (And.intro hri (And.intro hvi (And.intro hwi (And.intro hli (And.intro hg (And.intro hq hqw)))))))
        rw [hqi,hri,hvi,hwi,hli]
        have b1 : 0 ≤ ri :=by omega
        have b2 : ri < 4294967296 :=by omega
        have b3 : 0 ≤ vi :=by omega
        have b4 : vi < 4294967296 :=by omega
        have b5 : 0 ≤ li :=by omega
        have b6 : li < 4294967296 :=by omega
        have b7 : 0 ≤ qi :=by omega
        have b8 : qi < 4294967298 :=by omega
        by_cases hc : 4294967296 ≤ q ∨ 4294967296 * r + l0 < q * v0
        · obtain ⟨hpos,hgn⟩ :=guess_step (by omega) (by omega) bl0 hg hc
          have HN :=Lib.hid (And.intro hgn hpos)
          have c1 : 0 < qi :=by omega
          by_cases hr32 : 4294967296 ≤ r + v1
          · have c7 : 4294967296 ≤ ri + vi :=by omega
            by_cases hq32 : 4294967296 ≤ q
            · have c6 : 4294967296 ≤ qi :=by omega
              clear hr32 hq32 hc hgn hpos hb2 hqi hri hvi hwi hli hqw hq hr hg
              go_wp2
              obtain ⟨hqi,hri,hvi,hwi,hli,hg,hq,hqw⟩ :=HA.out
              subst hvi hwi hli hri
              go_meet
              obtain ⟨hgn,hpos⟩ :=HN.out
              have he :=guess_end (by omega) bv0 hgn (.inl ⟨by omega,by omega⟩)
              rw [hyv,HQ0.out] at he
              have E : Value.int IntKind.u64 (qi - 1) = .int .u64 (Q0 : Nat) :=by rw [← hqi,← he];congr 1;omega
              first | exact ⟨rfl,E⟩ | exact E
            · have c6 : ¬ 4294967296 ≤ qi :=by omega
              have c8 : 4294967296 * ri + li < qi * wi :=by omega
              have c9 : qi * wi < 18446744073709551616 :=by have :=hb2 (by omega);omega
              clear hr32 hq32 hc hgn hpos hb2 hqi hri hvi hwi hli hqw hq hr hg
              go_wp2
              obtain ⟨hqi,hri,hvi,hwi,hli,hg,hq,hqw⟩ :=HA.out
              subst hvi hwi hli hri
              go_meet
              obtain ⟨hgn,hpos⟩ :=HN.out
              have he :=guess_end (by omega) bv0 hgn (.inl ⟨by omega,by omega⟩)
              rw [hyv,HQ0.out] at he
              have E : Value.int IntKind.u64 (qi - 1) = .int .u64 (Q0 : Nat) :=by rw [← hqi,← he];congr 1;omega
              first | exact ⟨rfl,E⟩ | exact E
          · have c7 : ri + vi < 4294967296 :=by omega
            by_cases hq32 : 4294967296 ≤ q
            · have c6 : 4294967296 ≤ qi :=by omega
              clear hr32 hq32 hc hgn hpos hb2 hqi hri hvi hwi hli hqw hq hr hg
              go_wp2
              go_round
              case rel =>
                obtain ⟨hqi,hri,hvi,hwi,hli,hg,hq,hqw⟩ :=HA.out
                obtain ⟨hgn,hpos⟩ :=HN.out
                exact ⟨q - 1,r + v1,by rw [← hqi];congr 1;omega,by rw [← hri,← hvi];congr 1,hgn,by omega,by omega⟩
              case measure =>
                obtain ⟨hqi,hri,hvi,hwi,hli,hg,hq,hqw⟩ :=HA.out
                simp [intOf];omega
            · have c6 : ¬ 4294967296 ≤ qi :=by omega
              have c8 : 4294967296 * ri + li < qi * wi :=by omega
              have c9 : qi * wi < 18446744073709551616 :=by have :=hb2 (by omega);omega
              clear hr32 hq32 hc hgn hpos hb2 hqi hri hvi hwi hli hqw hq hr hg
              go_wp2
              go_round
              case rel =>
                obtain ⟨hqi,hri,hvi,hwi,hli,hg,hq,hqw⟩ :=HA.out
                obtain ⟨hgn,hpos⟩ :=HN.out
                exact ⟨q - 1,r + v1,by rw [← hqi];congr 1;omega,by rw [← hri,← hvi];congr 1,hgn,by omega,by omega⟩
              case measure =>
                obtain ⟨hqi,hri,hvi,hwi,hli,hg,hq,hqw⟩ :=HA.out
                simp [intOf];omega
        · have c6 : ¬ 4294967296 ≤ qi :=by omega
          have c8 : ¬ 4294967296 * ri + li < qi * wi :=by omega
          have c9 : qi * wi < 18446744073709551616 :=by have :=hb2 (by omega);omega
          have c10 : 0 ≤ qi * wi :=by omega
          have HN :=Lib.hid hc
          clear hc hb2 hqi hri hvi hwi hli hqw hq hr hg
          go_wp2
          obtain ⟨hqi,hri,hvi,hwi,hli,hg,hq,hqw⟩ :=HA.out
          subst hvi hwi hli hri
          go_meet
          have hc :=HN.out
          have he :=guess_end (by omega) bv0 hg (.inr (by omega))
          rw [hyv,HQ0.out] at he
          have E : Value.int IntKind.u64 qi = .int .u64 (Q0 : Nat) :=by rw [← hqi,he]
          first | exact ⟨rfl,E⟩ | exact E
    case rest =>
      obtain ⟨rfl,rfl⟩ :=hcut
      obtain ⟨hdm,hRy,hQb,_⟩ :=HD.out
      have hQ0 :=HQ0.out
      obtain ⟨R0,hR0⟩ : ∃ R,(R1 * 4294967296 + l0) % y = R :=⟨_,rfl⟩
      have hdm0 :=Nat.div_add_mod (R1 * 4294967296 + l0) y
      have hR0y : R0 < y :=by rw [← hR0];exact Nat.mod_lt _ (by omega)
      rw [hQ0,hR0] at hdm0
      have hQ0b : Q0 < 4294967296 :=by rw [← hQ0,← hyv];exact Plain.guess_lt bl0 (by omega)
      have g4 : IntKind.u64.wrap (IntKind.u64.wrap (IntKind.u64.wrap ((R1 : Int) * 4294967296) + (l0 : Int)) - IntKind.u64.wrap ((Q0 : Int) * (y : Int))) = (R0 : Int) :=by
        rw [← Int.natCast_mul,Nat.mul_comm,wrap_u64,wrap_u64,wrap_u64,wrap_u64]
        generalize y * Q0 = P at *
        omega
      have hl : lo = l1 * 4294967296 + l0 :=by obtain ⟨_,_,_,_,_,h5,h6⟩ :=HG.out;omega
      obtain ⟨hdiv,hmod⟩ :=two_digits (W :=18446744073709551616) (by decide) hdm hdm0 hl hR0y
      have HF :=Lib.hid (And.intro hdiv hmod)
      have c1 : (0 : Int) ≤ Q1 :=by omega
      have c2 : (Q1 : Int) < 4294967296 :=by omega
      have c3 : (Q0 : Int) < 4294967296 :=by omega
      clear hdm hdm0 hQ0 hdiv hmod hl hR0 HD
      go_wp2_with fail
      first | go_ret2 | refine ⟨_,results_tmp2 rfl _ _ _,?_⟩
      refine ⟨?_,Chg.refl _ _⟩
      rw [HF.out.1,HF.out.2]
      rfl
end Go.Proofs.YtfmmdamgcpiciaaGreatDoor
namespace Go.Proofs.YtfmmdamgcpiciaaGreatDoor
open Go Go.RowKit
theorem bitsDiv_small (lo y : Nat) (hlo : lo < W64) (hy : y < W64) (h0 : 0 < y) (w : World) :
    Calls Tryz.prog 226 #[.int .u64 0,.int .u64 lo,.int .u64 y] w fun e w' => e = .returned (.tuple #[.int .u64 (lo / y : Nat),.int .u64 (lo % y : Nat)]) ∧ Kept w w' :=by
  have h :=bitsDiv64_small lo y hlo hy h0
  have hq : lo / y < W64 :=Nat.lt_of_le_of_lt (Nat.div_le_self _ _) hlo
  have hr : lo % y < W64 :=Nat.lt_of_le_of_lt (Nat.mod_le _ _) hlo
  generalize lo / y = q at *
  generalize lo % y = r at *
  unfold W64 at *
  go_enter Tryz.func226,Tryz.ntmps226
  go_wp2_with (go_at_call 263;refine (h _).mono ?_;rintro e w1 ⟨rfl,k⟩;have K :=Lib.hid k;clear k)
  first | go_ret2 | refine ⟨_,results_tmp2 rfl _ _ _,?_⟩
  exact ⟨rfl,K.out⟩
theorem bitsDiv_norm (hi lo y : Nat) (hlo : lo < W64) (hy : y < W64) (h0 : 9223372036854775808 ≤ y) (h2 : hi < y) (w : World) :
    Calls Tryz.prog 226 #[.int .u64 hi,.int .u64 lo,.int .u64 y] w fun e w' => e = .returned (.tuple #[.int .u64 ((hi * W64 + lo) / y : Nat),.int .u64 ((hi * W64 + lo) % y : Nat)]) ∧ Kept w w' :=by
  rcases Nat.eq_zero_or_pos hi with rfl | h1
  · rw [Nat.zero_mul,Nat.zero_add]
    exact bitsDiv_small lo y hlo hy (by omega) w
  · have h :=bitsDiv64_norm hi lo y hlo hy h0 h1 h2
    have hq : (hi * W64 + lo) / y < W64 :=by
      rw [Nat.div_lt_iff_lt_mul (by omega)]
      unfold W64 at *
      omega
    have hr : (hi * W64 + lo) % y < W64 :=Nat.lt_trans (Nat.mod_lt _ (by omega)) hy
    generalize (hi * W64 + lo) / y = q at *
    generalize (hi * W64 + lo) % y = r at *
    unfold W64 at *
    clear h0 h1 h2
    go_enter Tryz.func226,Tryz.ntmps226
    go_wp2_with (go_at_call 263;refine (h _).mono ?_;rintro e w1 ⟨rfl,k⟩;have K :=Lib.hid k;clear k)
    first | go_ret2 | refine ⟨_,results_tmp2 rfl _ _ _,?_⟩
    exact ⟨rfl,K.out⟩
def up (y : Nat) : Nat :=y * 2 ^ (64 - Lib.bitLen y)
theorem up_bounds {y : Nat} (hy : y < W64) (h0 : y ≠ 0) : 9223372036854775808 ≤ up y ∧ up y < W64 ∧ Lib.bitLen y ≤ 64 ∧ 1 ≤ Lib.bitLen y :=by
  obtain ⟨b1,b2,b3⟩ :=bitLen_bounds hy h0
  have b4 :=bitLen_64 hy
  unfold up
  refine ⟨?_,?_,b4,b1⟩
  · have :=Nat.mul_le_mul_right (2 ^ (64 - Lib.bitLen y)) b2
    rw [← Nat.pow_add,show Lib.bitLen y - 1 + (64 - Lib.bitLen y) = 63 by omega] at this
    exact this
  · have :=Nat.mul_lt_mul_of_pos_right b3 (Nat.two_pow_pos (64 - Lib.bitLen y))
    rw [← Nat.pow_add,show Lib.bitLen y + (64 - Lib.bitLen y) = 64 by omega] at this
    exact this
def rec64 (y : Nat) : Nat :=(W64 * W64 - 1) / up y - W64
theorem rec64_spec {y : Nat} (hy : y < W64) (h0 : y ≠ 0) : (W64 * W64 - 1) / up y = rec64 y + W64 :=by
  obtain ⟨h1,h2,_⟩ :=up_bounds hy h0
  have : W64 ≤ (W64 * W64 - 1) / up y :=by
    rw [Nat.le_div_iff_mul_le (by omega)]
    have :=Nat.mul_le_mul_left W64 (show up y ≤ W64 - 1 by omega)
    rw [Nat.mul_sub] at this
    unfold W64 at *
    omega
  unfold rec64
  omega
theorem compl64 (u : Nat) (hu : u < 18446744073709551616) : bits .xor .u64 IntKind.u64.max (u : Int) = 18446744073709551615 - (u : Int) :=by
  have h1 : BitVec.ofInt 64 IntKind.u64.max = BitVec.allOnes 64 :=by decide
  show IntKind.u64.wrap (((BitVec.ofInt 64 IntKind.u64.max) ^^^ (BitVec.ofInt 64 (u : Int))).toNat : Int) = _
  rw [h1,BitVec.allOnes_xor,BitVec.toNat_not,BitVec.ofInt_natCast,BitVec.toNat_ofNat,Nat.mod_eq_of_lt hu,wrap_u64_in _ (Int.natCast_nonneg _) (by omega)]
  omega
theorem reciprocalWord_walk (y u z m rr : Nat) (xi : Int) (hx : bits .xor .u64 IntKind.u64.max (u : Int) = xi) (hy : y < 18446744073709551616) (hu : u < 18446744073709551616) (hm : m < 18446744073709551616) (hz : ∀ w,Calls Tryz.prog 185 #[.int .u64 y] w fun e w' => e = .returned (.int .u64 (z : Nat)) ∧ w' = w)
    (hz64 : z ≤ 64) (hw : IntKind.u64.wrap ((y : Int) * 2 ^ z) = (u : Nat)) (hd : ∀ w,Calls Tryz.prog 226 #[.int .u64 xi,.int .u64 18446744073709551615,.int .u64 u] w fun e w' => e = .returned (.tuple #[.int .u64 (m : Nat),.int .u64 (rr : Nat)]) ∧ Kept w w') (w : World) :
    Calls Tryz.prog 227 #[.int .u64 y] w fun e w' => e = .returned (.int .u64 (m : Nat)) ∧ Kept w w' :=by
  go_enter Tryz.func227,Tryz.ntmps227
  go_wp2_with (first
    | (go_at_call 185;refine (hz _).mono ?_;rintro e w1 ⟨rfl,hw⟩;rw [hw])
    | (go_at_call 226;(with_reducible refine (hd _).mono ?_);rintro e w1 ⟨rfl,k⟩;have K :=Lib.hid k;clear k))
  first | go_ret | refine ⟨_,results_tmp rfl _ _ _,?_⟩
  exact ⟨rfl,K.out⟩
theorem rec64_lt {y : Nat} (hy : y < W64) (h0 : y ≠ 0) : rec64 y < W64 :=by
  obtain ⟨h1,h2,_⟩ :=up_bounds hy h0
  have h3 :=rec64_spec hy h0
  have : (W64 * W64 - 1) / up y < W64 * 2 :=by
    rw [Nat.div_lt_iff_lt_mul (by omega)]
    have :=Nat.mul_le_mul_left (W64 * 2) h1
    have e : W64 * 2 * 9223372036854775808 = W64 * W64 :=by decide
    have p : 0 < W64 * W64 :=by decide
    omega
  omega
theorem up_wrap {y : Nat} (hy : y < W64) (h0 : y ≠ 0) : IntKind.u64.wrap ((y : Int) * 2 ^ (64 - Lib.bitLen y)) = (up y : Nat) :=by
  obtain ⟨h1,h2,_⟩ :=up_bounds hy h0
  have e : (y : Int) * 2 ^ (64 - Lib.bitLen y) = ((up y : Nat) : Int) :=by unfold up;push_cast;rfl
  rw [e,wrap_u64_in _ (Int.natCast_nonneg _) (by unfold W64 at h2;omega)]
theorem reciprocalWord (y : Nat) (hy : y < W64) (h0 : y ≠ 0) (w : World) : Calls Tryz.prog 227 #[.int .u64 y] w fun e w' => e = .returned (.int .u64 (rec64 y : Nat)) ∧ Kept w w' :=by
  obtain ⟨h1,h2,h3,h4⟩ :=up_bounds hy h0
  have hd :=bitsDiv_norm (W64 - 1 - up y) (W64 - 1) (up y) (by unfold W64;omega) h2 h1 (by unfold W64;omega)
  rw [Plain.recip (by omega) h2] at hd
  have e1 : ((W64 - 1 - up y : Nat) : Int) = 18446744073709551615 - (up y : Int) :=by unfold W64 at *;omega
  have e2 : ((W64 - 1 : Nat) : Int) = 18446744073709551615 :=by decide
  rw [e1,e2] at hd
  exact reciprocalWord_walk y (up y) _ (rec64 y) _ _ (compl64 (up y) h2) hy h2 (rec64_lt hy h0) (nlz y hy) (by omega) (up_wrap hy h0) hd w
end Go.Proofs.YtfmmdamgcpiciaaGreatDoor
namespace Go.Proofs.YtfmmdamgcpiciaaGreatDoor
open Go Go.RowKit
theorem make26 (w : World) (n : Nat) (hn : n ≤ 1048576) : (Instr.makeSlice 26 (.int .i64 n) (.int .i64 n)).run Tryz.prog w = .ok (.slice (some ⟨w.heap.size,0,none⟩) n n) (w.alloc (.cells (madeCells #[.int .u32 0] n) 72)) :=by
  obtain ⟨i0,hi,hz0,hz1,hz2⟩ :=info_parts T26.info
  have :=run_make (P :=Tryz.prog) w 26 72 i0 (.int .u32 0) T26.u hi hz0 .i64 .i64 (n : Int) (n : Int) (by omega) (by omega) (by rw [hz2];omega) (by omega)
  rw [this]
  simp [hz1,Value.cells]
theorem made26 (w : World) (n : Nat) : OutK .u32 (w.alloc (.cells (madeCells #[.int .u32 0] n) 72)) w.heap.size 0 n (List.replicate n 0) :=by
  have hc : ∀ j,j < n → (w.alloc (.cells (madeCells #[.int .u32 0] n) 72)).cell? ⟨w.heap.size,0 + j,none⟩ = some (.int .u32 0) :=fun j hj => by
    rw [World.cell?_alloc_at _ _ _ _ rfl]
    simp [madeCells,hj,Nat.mod_one]
  refine ⟨fun j x hj => ?_,fun j hj => ⟨⟨_,hc j hj⟩,NF.made w _ _ _⟩,by simp,NF.made w _ _,by simp⟩
  obtain ⟨h1,h2⟩ :=List.getElem?_eq_some_iff.1 hj
  rw [List.getElem_replicate] at h2
  subst h2
  rw [hc j (by simpa using h1)];rfl
theorem val_set {B : Nat} {us : List Nat} {p : Nat} (v : Nat) (hp : p < us.length) : val B (us.set p v) + B ^ p * lb us p = val B us + B ^ p * v :=by
  have h1 : us[p]? = some (lb us p) :=by rw [lb_in (List.getElem?_eq_getElem hp)];exact List.getElem?_eq_getElem hp
  have h2 : (us.set p v)[p]? = some v :=List.getElem?_set_self hp
  have e1 :=val_split (B :=B) h1
  have e2 :=val_split (B :=B) h2
  rw [List.take_set_of_le (Nat.le_refl _),List.drop_set_of_lt (by omega)] at e2
  rw [Nat.mul_add] at e1 e2
  omega
theorem lb_set_ne {us : List Nat} {p k v : Nat} (h : k ≠ p) : lb (us.set p v) k = lb us k :=by simp [lb,List.getElem?_set_ne (Ne.symm h)]
theorem Lt.set {us : List Nat} {p v : Nat} (h : Lt L9 us) (hv : v < L9) : Lt L9 (us.set p v) :=fun x hx => by
  rcases List.mem_or_eq_of_mem_set hx with h1 | h1
  · exact h x h1
  · rw [h1];exact hv
def MulO (xs : List Nat) (m n Y i : Nat) (zs : List Nat) : Prop :=zs.length = m + n ∧ Lt L9 zs ∧ val L9 zs = val L9 (xs.take i) * Y ∧ ∀ k,i + n ≤ k → lb zs k = 0
def MulJ (ys zs : List Nat) (i x j c : Nat) (us : List Nat) : Prop :=us.length = zs.length ∧ Lt L9 us ∧ c < L9 ∧ val L9 us + L9 ^ (i + j) * c = val L9 zs + L9 ^ i * x * val L9 (ys.take j) ∧ ∀ k,i + j ≤ k → lb us k = lb zs k
theorem MulJ.start {ys zs : List Nat} {i x : Nat} (h : Lt L9 zs) : MulJ ys zs i x 0 0 zs :=⟨rfl,h,by decide,by simp [val],fun _ _ => rfl⟩
theorem MulJ.step {ys zs us : List Nat} {i x j c y : Nat} (h : MulJ ys zs i x j c us) (hx : x < L9) (hy : ys[j]? = some y) (hyb : y < L9) (hp : i + j < zs.length) (t : Nat) (ht : c + (lb us (i + j) + x * y) = t) : t < L9 * L9 ∧ MulJ ys zs i x (j + 1) (t / L9) (us.set (i + j) (t % L9)) :=by
  obtain ⟨h1,h2,h3,h4,h5⟩ :=h
  have hd :=lb_lt h2 (i + j)
  have hxy : x * y ≤ (L9 - 1) * (L9 - 1) :=Nat.mul_le_mul (by unfold L9 at *;omega) (by unfold L9 at *;omega)
  have htb : t < L9 * L9 :=by
    have e1 : (L9 - 1) * (L9 - 1) = 999999998000000001 :=by decide
    have e2 : L9 * L9 = 1000000000000000000 :=by decide
    unfold L9 at hd h3
    omega
  obtain ⟨hjl,rfl⟩ :=List.getElem?_eq_some_iff.1 hy
  refine ⟨htb,by rw [List.length_set,h1],Lt.set h2 (Nat.mod_lt _ (by decide)),?_,?_,fun k hk => ?_⟩
  · rw [Nat.div_lt_iff_lt_mul (by decide)];exact htb
  · have e :=val_set (B :=L9) (us :=us) (p :=i + j) (t % L9) (by omega)
    rw [val_take_succ hjl,Nat.mul_add]
    have e3 : L9 ^ (i + (j + 1)) * (t / L9) = L9 ^ (i + j) * (L9 * (t / L9)) :=by rw [← Nat.add_assoc,Nat.pow_succ,Nat.mul_assoc]
    have e4 : L9 ^ i * x * (L9 ^ j * ys[j]) = L9 ^ (i + j) * (x * ys[j]) :=by
      rw [Nat.pow_add,Nat.mul_assoc,Nat.mul_assoc,Nat.mul_left_comm x]
    rw [e3,e4]
    have hmd :=Nat.mod_add_div t L9
    have e5 : L9 ^ (i + j) * (t % L9) + L9 ^ (i + j) * (L9 * (t / L9)) = L9 ^ (i + j) * c + L9 ^ (i + j) * lb us (i + j) + L9 ^ (i + j) * (x * ys[j]) :=by
      rw [← Nat.mul_add,← Nat.mul_add,← Nat.mul_add,hmd,← ht,Nat.add_assoc]
    omega
  · rw [lb_set_ne (by omega),h5 k (by omega)]
theorem MulO.step {xs ys zs us : List Nat} {m n Y i x c : Nat} (h : MulO xs m n Y i zs) (hx : xs[i]? = some x) (hm : xs.length = m) (hn : ys.length = n) (hY : val L9 ys = Y) (hj : MulJ ys zs i x n c us) : MulO xs m n Y (i + 1) (us.set (i + n) c) :=by
  obtain ⟨h1,h2,h3,h4⟩ :=h
  obtain ⟨g1,g2,g3,g4,g5⟩ :=hj
  obtain ⟨hil,rfl⟩ :=List.getElem?_eq_some_iff.1 hx
  have e :=val_set (B :=L9) (us :=us) (p :=i + n) c (by omega)
  rw [g5 _ (Nat.le_refl _),h4 _ (Nat.le_refl _),Nat.mul_zero,Nat.add_zero] at e
  refine ⟨by rw [List.length_set,g1,h1],Lt.set g2 g3,?_,fun k hk => ?_⟩
  · rw [List.take_of_length_le (by omega),hY] at g4
    rw [e,g4,h3,val_take_succ hil,Nat.add_mul]
  · rw [lb_set_ne (by omega),g5 k (by omega),h4 k (by omega)]
theorem natMul (w : World) (sx sy : Option Addr) (m n cx cy X Y : Nat) (hx : Dig w sx m cx X) (hy : Dig w sy n cy Y) (hm : m < 500000) (hn : n < 500000) :
    Calls Tryz.prog 40 #[.slice sx m cx,.slice sy n cy] w fun e w' => (∃ v,e = .returned v ∧ NV w' v (X * Y)) ∧ Kept w w' :=by
  obtain ⟨xs,h1,h2,h3,h4,h5,h6,h7,h8⟩ :=hx
  obtain ⟨ys,k1,k2,k3,k4,k5,k6,k7,k8⟩ :=hy
  have hmk :=make26 w (m + n) (by omega)
  have hO :=made26 w (m + n)
  have hMO : MulO xs m n Y 0 (List.replicate (m + n) 0) :=⟨by simp,Lt.zeros (by decide) _,by rw [val_zeros];simp [val],fun k _ => by
    rw [lb,List.getD_eq_getElem?_getD,List.getElem?_replicate]
    split <;> rfl⟩
  have HS :=Lib.hid (And.intro h8 k8)
  have ka : Kept w (w.alloc (.cells (madeCells #[.int .u32 0] (m + n)) 72)) :=Chg.alloc _ _ _
  clear h3 h7 h8 k3 k7 k8
  obtain ⟨g,hg⟩ : ∃ g,w.heap.size = g :=⟨_,rfl⟩
  rw [hg] at hmk hO
  have hmn : ((m + n : Nat) : Int) = ((m : Int) + (n : Int)) :=by omega
  rw [hmn] at hmk
  clear hmn
  go_enter Tryz.func40,Tryz.ntmps40
  go_wp2
  go_loopw [19] (fun t19 wx => ∃ (i : Nat) (zs : List Nat),t19 = .int .i64 i ∧ i ≤ m ∧ Hid (MulO xs m n Y i zs) ∧ Hid (OutK .u32 wx g 0 (m + n) zs) ∧ Kept w wx) (fun t19 _ => m - (intOf t19).toNat)
  case atStart => exact ⟨0,_,rfl,Nat.zero_le _,Lib.hid hMO,Lib.hid (by subst hg;exact hO),ka⟩
  case round =>
    clear hMO hO ka hmk
    obtain ⟨i,zs,rfl,hi,hMO,hO,hK⟩ :=hrel
    rcases Nat.lt_or_ge i m with him | him
    · have hic : i < cx :=by omega
      have gx : xs[i]? = some xs[i] :=List.getElem?_eq_getElem (by omega)
      have lx : xs[i] < L9 :=h6 _ (List.getElem_mem _)
      generalize xs[i] = x at gx lx
      obtain ⟨g1,rfl,r1⟩ :=h5.row (fun e => by subst e;simp at h1;omega)
      have c1 :=(r1.keep hK) i x gx
      simp only [Nat.zero_add] at c1
      obtain ⟨A,eA⟩ : ∃ A : Int,(x : Int) = A :=⟨_,rfl⟩
      rw [eA] at c1
      have A0 : 0 ≤ A :=by omega
      have A1 : A ≤ 999999999 :=by unfold L9 at lx;omega
      have HX :=Lib.hid (And.intro gx (And.intro lx eA))
      clear gx lx eA
      go_upto_block 2 with fail
      go_cut [8,26] from 27 to 56 (fun t8 t26 wx => ∃ (c : Nat) (C : Int) (us : List Nat),t8 = .int .u64 C ∧ Hid (C = c) ∧ Hid (MulJ ys zs i x n c us) ∧ Hid (OutK .u32 wx g 0 (m + n) us) ∧ Kept w wx)
      case first =>
        go_wp2
        go_loopw [8,26] (fun t8 t26 wx => ∃ (j c : Nat) (C : Int) (us : List Nat),t26 = .int .i64 j ∧ j ≤ n ∧ t8 = .int .u64 C ∧ Hid (C = c) ∧ Hid (MulJ ys zs i x j c us) ∧ Hid (OutK .u32 wx g 0 (m + n) us) ∧ Kept w wx) (fun _ t26 _ => n - (intOf t26).toNat)
        case atStart => exact ⟨0,0,0,zs,rfl,Nat.zero_le _,rfl,Lib.hid rfl,Lib.hid (MulJ.start hMO.out.2.1),hO,hK⟩
        case round =>
          clear hK c1
          obtain ⟨j,c,C,us,rfl,hj,rfl,hC,hMJ,hO2,hK⟩ :=hrel
          rcases Nat.lt_or_ge j n with hjn | hjn
          · have hjc : j < cy :=by omega
            have gy : ys[j]? = some ys[j] :=List.getElem?_eq_getElem (by omega)
            have ly : ys[j] < L9 :=k6 _ (List.getElem_mem _)
            generalize ys[j] = y at gy ly
            obtain ⟨g2,rfl,r2⟩ :=k5.row (fun e => by subst e;simp at k1;omega)
            have c2 :=(r2.keep hK) j y gy
            obtain ⟨p,hp⟩ : ∃ p,i + j = p :=⟨_,rfl⟩
            have hp1 : p < m + n :=by omega
            have hul : us.length = m + n :=hMJ.out.1.trans hMO.out.1
            have c3 :=hO2.out.row p (lb us p) (by rw [lb_in (List.getElem?_eq_getElem (by omega))];exact List.getElem?_eq_getElem (by omega))
            have f3 :=(hO2.out.room p hp1).2
            have ld :=lb_lt hMJ.out.2.1 p
            obtain ⟨t,ht⟩ : ∃ t,c + (lb us p + x * y) = t :=⟨_,rfl⟩
            obtain ⟨htb,hst⟩ :=hMJ.out.step HX.out.2.1 gy ly (by rw [hMO.out.1];omega) t (by rw [hp];exact ht)
            rw [hp] at hst
            obtain ⟨B,eB⟩ : ∃ B : Int,(y : Int) = B :=⟨_,rfl⟩
            obtain ⟨D,eD⟩ : ∃ D : Int,((lb us p : Nat) : Int) = D :=⟨_,rfl⟩
            rw [eB] at c2
            rw [eD] at c3
            simp only [Nat.zero_add] at c2 c3 f3
            have B0 : 0 ≤ B :=by omega
            have B1 : B ≤ 999999999 :=by unfold L9 at ly;omega
            have D0 : 0 ≤ D :=by omega
            have D1 : D ≤ 999999999 :=by unfold L9 at ld;omega
            have C0 : 0 ≤ C :=by have :=hC.out;omega
            have eT : C + (D + A * B) = (t : Int) :=by rw [hC.out,← eD,← eB,← HX.out.2.2,← ht];push_cast;rfl
            have P0 : 0 ≤ A * B :=Int.mul_nonneg A0 B0
            have T1 : C + (D + A * B) ≤ 1000000000000000000 :=by rw [eT];unfold L9 at htb;omega
            have hpi : ((i : Int) + (j : Int)) = (p : Int) :=by omega
            have hO3 :=hO2.out.set (t % L9) (i :=p) (by omega)
            simp only [Nat.zero_add] at hO3
            have HH :=Lib.hid (And.intro eT (And.intro hst (And.intro hO3 hC.out)))
            clear eT hst hO3 hC htb ht gy ly ld eB eD
            go_wp2
            go_roundw
            case rel =>
              obtain ⟨eT,hst,hO3,hCc⟩ :=HH.out
              refine ⟨j + 1,t / L9,_,us.set p (t % L9),by go_num,hjn,rfl,Lib.hid ?_,Lib.hid hst,Lib.hid ?_,?_⟩
              · rw [eT];rfl
              · have e1 : (C + (D + A * B)) % 1000000000 = ((t % L9 : Nat) : Int) :=by rw [eT];rfl
                rw [e1]
                exact hO3
              · exact hK.keptNew (Chg.setCell _ g p _ (fun b _ => b = g) fun _ => rfl) fun b _ h => by omega
            case measure => simp [intOf];omega
          · obtain rfl : j = n :=by omega
            go_wp2
            go_meet
            exact ⟨c,C,us,rfl,hC,hMJ,hO2,hK⟩
      case rest =>
        clear hK c1
        obtain ⟨c,C,us,rfl,hC,hMJ,hO2,hK⟩ :=hcut
        have hst :=hMO.out.step HX.out.1 h1 k1 HS.out.2 hMJ.out
        have hcb :=hMJ.out.2.2.1
        have C0 : 0 ≤ C :=by have :=hC.out;omega
        have C1 : C ≤ 999999999 :=by have :=hC.out;unfold L9 at hcb;omega
        have hul : us.length = m + n :=hMJ.out.1.trans hMO.out.1
        obtain ⟨p,hp⟩ : ∃ p,i + n = p :=⟨_,rfl⟩
        have hp1 : p < m + n :=by omega
        have hpi : ((i : Int) + (n : Int)) = (p : Int) :=by omega
        have f3 :=(hO2.out.room p hp1).2
        obtain ⟨⟨u3,c3⟩,_⟩ :=hO2.out.room p hp1
        have hO3 :=hO2.out.set c (i :=p) (by omega)
        simp only [Nat.zero_add] at hO3 f3 c3
        rw [hp] at hst
        rw [← hC.out] at hO3
        have HH :=Lib.hid (And.intro hst hO3)
        clear hst hO3 hcb
        go_wp2
        go_roundw
        case rel =>
          obtain ⟨hst,hO3⟩ :=HH.out
          refine ⟨i + 1,us.set p c,by go_num,him,Lib.hid hst,Lib.hid hO3,?_⟩
          exact hK.keptNew (Chg.setCell _ g p _ (fun b _ => b = g) fun _ => rfl) fun b _ h => by omega
        case measure => simp [intOf];omega
    · obtain rfl : i = m :=by omega
      have hv :=hMO.out.2.2.1
      rw [List.take_of_length_le (by omega),HS.out.1] at hv
      have ht :=natTrim wr (some ⟨g,0,none⟩) (i + n) (i + n) zs hMO.out.1 (Nat.le_refl _) (by simp only [maxLen];omega) (by omega) (.inr ⟨g,rfl,hO.out.row⟩) hMO.out.2.1
      rw [hv] at ht
      have HK :=Lib.hid hK
      clear hv
      go_wp2_with (go_at_call 80;refine ht.mono ?_;rintro r w2 ⟨rfl,n',rfl,hD⟩)
      first | go_ret | refine ⟨_,results_tmp rfl _ _ _,?_⟩
      exact ⟨⟨_,rfl,_,n',_,rfl,hD⟩,HK.out⟩
end Go.Proofs.YtfmmdamgcpiciaaGreatDoor
namespace Go.Proofs.YtfmmdamgcpiciaaGreatDoor
open Go Go.RowKit
abbrev B32 : Nat :=4294967296
def halves : List Nat → List Nat
  | [] => []
  | w :: l => (w % B32) :: (w / B32) :: halves l
theorem halves_snoc : ∀ (l : List Nat) (w : Nat),halves (l ++ [w]) = halves l ++ [w % B32,w / B32]
  | [],_ => rfl
  | x :: l,w => by simp [halves,halves_snoc l w]
theorem halves_length : ∀ l : List Nat,(halves l).length = 2 * l.length
  | [] => rfl
  | x :: l => by simp [halves,halves_length l];omega
theorem halves_lt : ∀ {l : List Nat},Lt W64 l → Lt B32 (halves l)
  | [],_ => Lt.nil
  | x :: l,h => by
    intro y hy
    have hx : x < W64 :=h x (List.mem_cons_self ..)
    simp only [halves,List.mem_cons] at hy
    rcases hy with rfl | rfl | hy
    · exact Nat.mod_lt _ (by decide)
    · unfold W64 at hx;unfold B32;omega
    · exact halves_lt (fun z hz => h z (List.mem_cons_of_mem _ hz)) y hy
theorem halves_val : ∀ l : List Nat,val B32 (halves l) = val W64 l
  | [] => rfl
  | x :: l => by
    simp only [halves,val,halves_val l]
    have h2 : B32 * (B32 * val W64 l) = W64 * val W64 l :=by rw [← Nat.mul_assoc,show B32 * B32 = W64 from rfl]
    rw [Nat.mul_add,h2]
    have :=Nat.mod_add_div x B32
    omega
theorem div_limb {B D r x V R T : Nat} (hR : V * D + r = R) (n : Nat) (hn : n = r * B + x) (hT : T = n / D + B * V) : T * D + n % D = x + B * R :=by
  have h1 :=Nat.mod_add_div n D
  rw [hT,← hR,Nat.add_mul,Nat.mul_add,Nat.mul_assoc B V D,Nat.mul_comm (n / D) D,Nat.mul_comm B r]
  omega
theorem div_digit {r x : Nat} (hr : r < 1000000000) (hx : x < B32) : (r * B32 + x) / 1000000000 < B32 ∧ r * B32 + x < W64 :=by
  unfold B32 at *
  unfold W64
  omega
theorem or_low {r x : Nat} (hx : x < B32) : (r * B32) ||| x = r * B32 + x :=by
  have : r * B32 = B32 * r :=Nat.mul_comm _ _
  rw [this]
  exact (Nat.two_pow_add_eq_or_of_lt (i :=32) hx r).symm
def Emit (more : Bool) (r k : Nat) (es : List Nat) : Prop :=(more = true → es = pad k r) ∧ (more = false → es ++ dl (r / 10 ^ k) = dl r)
theorem Emit.start (more : Bool) (r : Nat) : Emit more r 0 [] :=⟨fun _ => rfl,fun _ => by simp⟩
theorem Emit.step {more : Bool} {r k : Nat} {es : List Nat} (h : Emit more r k es) (hn : more = true ∨ r / 10 ^ k ≠ 0) : Emit more r (k + 1) (es ++ [r / 10 ^ k % 10]) :=by
  refine ⟨fun hm => ?_,fun hm => ?_⟩
  · rw [h.1 hm,pad_add];rfl
  · rw [← h.2 hm,dl_pos (hn.resolve_left (by simp [hm])),Nat.div_div_eq_div_mul,Nat.pow_succ]
    simp
theorem Emit.done {more : Bool} {r k V : Nat} {es : List Nat} (h : Emit more r k es) (hr : r < 1000000000) (hk : k ≤ 9) (hx : k = 9 ∨ (more = false ∧ r / 10 ^ k = 0)) (hV : more = decide (V ≠ 0)) : dl (r + 1000000000 * V) = es ++ dl V :=by
  cases more with
  | true =>
    have hk9 : k = 9 :=hx.resolve_right (by simp)
    subst hk9
    have hv : V ≠ 0 :=of_decide_eq_true hV.symm
    rw [h.1 rfl]
    exact dl_split 9 r V (by omega) (by omega)
  | false =>
    have hv : V = 0 :=by simpa using of_decide_eq_false hV.symm
    subst hv
    have h0 : r / 10 ^ k = 0 :=by
      rcases hx with rfl | ⟨_,h⟩
      · exact Nat.div_eq_of_lt (by omega)
      · exact h
    have h2 :=h.2 rfl
    rw [h0,dl_zero,List.append_nil] at h2
    rw [dl_zero,List.append_nil,Nat.mul_zero,Nat.add_zero,h2]
theorem Emit.pos {more : Bool} {r k : Nat} {es : List Nat} (h : Emit more r k es) (hx : k = 9 ∨ (more = false ∧ r / 10 ^ k = 0)) (hn : more = true ∨ r ≠ 0) : es ≠ [] :=by
  intro e
  subst e
  cases more with
  | true =>
    have :=h.1 rfl
    have hk9 : k = 9 :=hx.resolve_right (by simp)
    subst hk9
    simp [pad] at this
  | false =>
    have h2 :=h.2 rfl
    rw [List.nil_append,dl_pos (hn.resolve_left (by simp))] at h2
    rcases hx with rfl | ⟨_,h3⟩
    · by_cases h9 : r / 10 ^ 9 = 0
      · rw [h9,dl_zero] at h2;cases h2
      · have h5 :=congrArg List.length h2
        rw [← dl_pos (hn.resolve_left (by simp))] at h5
        have h6 : (dl (r / 10 ^ 9)).length < (dl r).length :=by
          have :=dl_split 9 (r % 10 ^ 9) (r / 10 ^ 9) (Nat.mod_lt _ (by decide)) (Nat.pos_of_ne_zero h9)
          rw [Nat.mod_add_div] at this
          rw [this,List.length_append,pad_length]
          omega
        omega
    · rw [h3,dl_zero] at h2;cases h2
def Turned (L zs : List Nat) (i : Nat) : Prop :=zs.length = L.length ∧ ∀ j,j < L.length → zs[j]? = if j < i ∨ L.length ≤ j + i then L[L.length - 1 - j]? else L[j]?
theorem Turned.start (L : List Nat) : Turned L L 0 :=⟨rfl,fun j hj => by rw [if_neg (by omega)]⟩
theorem Turned.step {L zs : List Nat} {i k x y : Nat} (h : Turned L zs i) (hk : k + 1 + i = L.length) (hlt : i < k) (hx : zs[k]? = some x) (hy : zs[i]? = some y) : Turned L ((zs.set i x).set k y) (i + 1) :=by
  obtain ⟨hl,h⟩ :=h
  refine ⟨by simp [hl],fun j hj => ?_⟩
  have h1 : L[k]? = some x :=by rw [← hx,h k (by omega),if_neg (by omega)]
  have h2 : L[i]? = some y :=by rw [← hy,h i (by omega),if_neg (by omega)]
  by_cases e : j = k
  · subst e
    rw [List.getElem?_set_self (by simp;omega),if_pos (.inr (by omega)),show L.length - 1 - j = i by omega,h2]
  · rw [List.getElem?_set_ne (Ne.symm e)]
    by_cases e2 : j = i
    · subst e2
      rw [List.getElem?_set_self (by omega),if_pos (.inl (by omega)),show L.length - 1 - j = k by omega,h1]
    · rw [List.getElem?_set_ne (Ne.symm e2),h j hj]
      by_cases h3 : j < i ∨ L.length ≤ j + i
      · rw [if_pos h3,if_pos (by omega)]
      · rw [if_neg h3,if_neg (by omega)]
theorem Turned.done {L zs : List Nat} {i : Nat} (h : Turned L zs i) (hi : L.length ≤ 2 * i + 1) : zs = L.reverse :=by
  obtain ⟨hl,h⟩ :=h
  refine List.ext_getElem? fun j => ?_
  by_cases hj : j < L.length
  · rw [List.getElem?_reverse hj,h j hj]
    split
    · rfl
    · rw [show L.length - 1 - j = j by omega]
  · rw [List.getElem?_eq_none (by omega),List.getElem?_eq_none (by simp;omega)]
def str (l : List Nat) : Value :=.string ⟨(l.map UInt8.ofNat).toArray⟩
theorem digT_eq {n : Nat} (h : n ≠ 0) : digT n = ((dl n).map (48 + ·)).reverse :=by unfold digT;rw [if_neg h,List.map_reverse]
end Go.Proofs.YtfmmdamgcpiciaaGreatDoor
namespace Go.Proofs.YtfmmdamgcpiciaaGreatDoor
open Go Go.RowKit
def ShI (xs : List Nat) (n b k r : Nat) (us : List Nat) : Prop :=∃ ts,us = List.replicate k 0 ++ ts ∧ ts.length = n - k ∧ Lt L9 ts ∧ r < b ∧ val L9 ts * b + r = val L9 (xs.drop k)
theorem ShI.step {xs us : List Nat} {n b k r x : Nat} (h : ShI xs n b (k + 1) r us) (hb : b < L9) (hk : k < n) (hx : xs[k]? = some x) (hxb : x < L9) (t : Nat) (ht : r * L9 + x = t) : t / b < L9 ∧ t < L9 * L9 ∧ ShI xs n b k (t % b) (us.set k (t / b)) :=by
  obtain ⟨ts,rfl,h2,h3,h4,h5⟩ :=h
  have h1 : t < b * L9 :=by
    have : (r + 1) * L9 ≤ b * L9 :=Nat.mul_le_mul_right _ h4
    rw [Nat.add_mul,Nat.one_mul] at this
    omega
  have hq : t / b < L9 :=by
    rw [Nat.div_lt_iff_lt_mul (by omega),Nat.mul_comm];exact h1
  refine ⟨hq,Nat.lt_of_lt_of_le h1 (Nat.mul_le_mul_right _ (by omega)),(t / b) :: ts,?_,by rw [List.length_cons];omega,fun y hy => ?_,Nat.mod_lt _ (by omega),?_⟩
  · rw [List.replicate_succ',List.append_assoc,List.set_append_right _ _ (by simp)]
    simp
  · rcases List.mem_cons.1 hy with rfl | hy
    · exact hq
    · exact h3 y hy
  · obtain ⟨hl,rfl⟩ :=List.getElem?_eq_some_iff.1 hx
    rw [List.drop_eq_getElem_cons hl]
    exact div_limb h5 t ht.symm rfl
theorem natShort (w : World) (s : Option Addr) (n c X b : Nat) (hx : Dig w s n c X) (hb : 0 < b) (hbL : b < L9) (hn : n ≤ 1000000) :
    Calls Tryz.prog 103 #[.slice s n c,.int .u32 (b : Int)] w fun e w' => (∃ v,e = .returned (.tuple #[v,.int .u32 ((X % b : Nat) : Int)]) ∧ NV w' v (X / b)) ∧ Kept w w' :=by
  obtain ⟨xs,h1,h2,h3,h4,h5,h6,h7,h8⟩ :=hx
  have hmk :=make26 w n (by omega)
  have hO :=made26 w n
  have hI : ShI xs n b n 0 (List.replicate n 0) :=⟨[],by simp,by simp,Lt.nil,hb,by rw [List.drop_of_length_le (by omega)];simp [val]⟩
  have ka : Kept w (w.alloc (.cells (madeCells #[.int .u32 0] n) 72)) :=Chg.alloc _ _ _
  obtain ⟨B,eB⟩ : ∃ B : Int,(b : Int) = B :=⟨_,rfl⟩
  rw [eB]
  have B0 : 0 < B :=by omega
  have B1 : B ≤ 999999999 :=by unfold L9 at hbL;omega
  have HS :=Lib.hid (And.intro h8 (And.intro hb (And.intro hbL (And.intro eB h3))))
  clear h3 h7 h8 eB hb hbL
  obtain ⟨g,hg⟩ : ∃ g,w.heap.size = g :=⟨_,rfl⟩
  rw [hg] at hmk hO
  go_enter Tryz.func103,Tryz.ntmps103
  go_wp2
  go_loopw [7,8] (fun t7 t8 wx => ∃ (k r : Nat) (R : Int) (us : List Nat),t8 = .int .i64 ((k : Int) - 1) ∧ k ≤ n ∧ t7 = .int .u64 R ∧ Hid (R = r) ∧ Hid (ShI xs n b k r us) ∧ Hid (OutK .u32 wx g 0 n us) ∧ Kept w wx) (fun _ t8 _ => (intOf t8 + 1).toNat)
  case atStart => exact ⟨n,0,0,_,by first | rfl | (congr 1;omega),Nat.le_refl _,rfl,Lib.hid rfl,Lib.hid hI,Lib.hid (by subst hg;exact hO),ka⟩
  case round =>
    clear hI hO ka hmk
    obtain ⟨k,r,R,us,rfl,hk,rfl,hR,hI,hO,hK⟩ :=hrel
    have hrb : r < b :=by obtain ⟨_,_,_,_,h,_⟩ :=hI.out;exact h
    have R0 : 0 ≤ R :=by have :=hR.out;omega
    have R1 : R < B :=by have :=hR.out;have :=HS.out.2.2.2.1;omega
    rcases Nat.eq_zero_or_pos k with rfl | hkp
    · obtain ⟨ts,e1,e2,e3,e4,e5⟩ :=hI.out
      rw [List.replicate_zero,List.nil_append] at e1
      subst e1
      rw [List.drop_zero,HS.out.1] at e5
      have hd : val L9 us = X / b :=by
        symm
        rw [← e5]
        rw [Nat.mul_comm,Nat.mul_add_div (by omega),Nat.div_eq_of_lt e4,Nat.add_zero]
      have hm : r = X % b :=by
        rw [← e5,Nat.mul_comm,Nat.mul_add_mod,Nat.mod_eq_of_lt e4]
      have ht :=natTrim wr (some ⟨g,0,none⟩) n n us (by omega) (Nat.le_refl _) (by simp only [maxLen];omega) (by omega) (.inr ⟨g,rfl,hO.out.row⟩) e3
      rw [hd] at ht
      have hR2 :=Lib.hid (hR.out.trans (by rw [hm]) : R = ((X % b : Nat) : Int))
      have HK :=Lib.hid hK
      clear hd hm e5 e4 hrb
      go_wp2_with (go_at_call 80;refine ht.mono ?_;rintro r w2 ⟨rfl,n',rfl,hD⟩)
      first | go_ret2 | go_ret | refine ⟨_,results_tmp2 rfl _ _ _,?_⟩
      exact ⟨⟨_,by rw [← hR2.out];rfl,_,n',_,rfl,hD⟩,HK.out⟩
    · obtain ⟨i,rfl⟩ : ∃ i,k = i + 1 :=⟨k - 1,by omega⟩
      have hic : i < c :=by omega
      have hin : i < n :=by omega
      have gx : xs[i]? = some xs[i] :=List.getElem?_eq_getElem (by omega)
      have lx : xs[i] < L9 :=h6 _ (List.getElem_mem _)
      generalize xs[i] = x at gx lx
      obtain ⟨g1,rfl,r1⟩ :=h5.row (fun e => by subst e;simp at h1;omega)
      have c1 :=(r1.keep hK) i x gx
      simp only [Nat.zero_add] at c1
      obtain ⟨A,eA⟩ : ∃ A : Int,(x : Int) = A :=⟨_,rfl⟩
      rw [eA] at c1
      have A0 : 0 ≤ A :=by omega
      have A1 : A ≤ 999999999 :=by unfold L9 at lx;omega
      obtain ⟨t,ht⟩ : ∃ t,r * L9 + x = t :=⟨_,rfl⟩
      obtain ⟨q1,q2,q3⟩ :=hI.out.step HS.out.2.2.1 hin gx lx t ht
      obtain ⟨q,hq⟩ : ∃ q,t / b = q :=⟨_,rfl⟩
      rw [hq] at q1 q3
      have eT : R * 1000000000 + A = (t : Int) :=by rw [hR.out,← eA,← ht,Int.natCast_add,Int.natCast_mul];rfl
      have T1 : R * 1000000000 + A ≤ 999999999999999999 :=by rw [eT];unfold L9 at q2;omega
      have hul : us.length = n :=by obtain ⟨ts,e1,e2,_⟩ :=hI.out;rw [e1,List.length_append,List.length_replicate,e2];omega
      have f3 :=(hO.out.room i hin).2
      obtain ⟨⟨u3,c3⟩,_⟩ :=hO.out.room i hin
      have hO3 :=hO.out.set q (i :=i) (by omega)
      simp only [Nat.zero_add] at hO3 f3 c3
      have e1 : (((i + 1 : Nat) : Int) - 1) = (i : Int) :=by omega
      have eQ : (R * 1000000000 + A) / B = (q : Int) :=by rw [eT,← HS.out.2.2.2.1,← hq];rfl
      have Q0 : 0 ≤ (R * 1000000000 + A) / B :=by rw [eQ];omega
      have Q1 : (R * 1000000000 + A) / B ≤ 999999999 :=by rw [eQ];unfold L9 at q1;omega
      have eM : (R * 1000000000 + A) % B = ((t % b : Nat) : Int) :=by rw [eT,← HS.out.2.2.2.1];rfl
      have hB0 : B ≠ 0 :=by omega
      have HH :=Lib.hid (And.intro q3 (And.intro eQ (And.intro eM hO3)))
      rw [e1]
      clear e1 eT eA q1 q2 q3 eQ eM hO3 ht gx lx hrb hq
      go_wp2
      go_roundw
      case rel =>
        obtain ⟨q3,eQ,eM,hO3⟩ :=HH.out
        refine ⟨i,t % b,_,us.set i q,by go_num,by omega,rfl,Lib.hid ?_,Lib.hid q3,Lib.hid ?_,?_⟩
        · exact eM
        · rw [eQ];exact hO3
        · exact hK.keptNew (Chg.setCell _ g i _ (fun b _ => b = g) fun _ => rfl) fun b _ h => by omega
      case measure => simp [intOf]
end Go.Proofs.YtfmmdamgcpiciaaGreatDoor
namespace Go.Proofs.YtfmmdamgcpiciaaGreatDoor
open Go Go.RowKit
theorem pow10_val (q r : Nat) : val L9 (List.replicate q 0 ++ [10 ^ r]) = 10 ^ (9 * q + r) :=by
  rw [val_snoc,val_zeros,List.length_replicate,Nat.zero_add,Nat.pow_add,Nat.pow_mul]
theorem natPow10 (w : World) (n : Nat) (hn : n ≤ 100000) : Calls Tryz.prog 17 #[.int .i64 (n : Int)] w fun e w' => (∃ v,e = .returned v ∧ NV w' v (10 ^ n)) ∧ Kept w w' :=by
  obtain ⟨q,hq⟩ : ∃ q,n / 9 = q :=⟨_,rfl⟩
  obtain ⟨r,hr⟩ : ∃ r,n % 9 = r :=⟨_,rfl⟩
  have hn9 : n = 9 * q + r :=by omega
  have hr9 : r ≤ 8 :=by omega
  have iq : ((n : Int) / 9) = (q : Int) :=by omega
  have ir : ((n : Int) % 9) = (r : Int) :=by omega
  have hmk :=make26 w (q + 1) (by omega)
  have hO :=made26 w (q + 1)
  have ka : Kept w (w.alloc (.cells (madeCells #[.int .u32 0] (q + 1)) 72)) :=Chg.alloc _ _ _
  rw [show ((q + 1 : Nat) : Int) = (q : Int) + 1 by omega] at hmk
  obtain ⟨g,hg⟩ : ∃ g,w.heap.size = g :=⟨_,rfl⟩
  rw [hg] at hmk hO
  obtain ⟨W1,hW1⟩ : ∃ W,w.alloc (.cells (madeCells #[.int .u32 0] (q + 1)) 72) = W :=⟨_,rfl⟩
  rw [hW1] at hmk hO ka
  clear hW1
  have HN :=Lib.hid (And.intro hn9 hn)
  clear hq hr hn9
  go_enter Tryz.func17,Tryz.ntmps17
  go_wp2
  go_loop [4,5] (fun t4 t5 => ∃ (i : Nat) (P : Int),t5 = .int .i64 i ∧ i ≤ r ∧ t4 = .int .u32 P ∧ Hid (P = (10 ^ i : Nat))) (fun _ t5 => 9 - (intOf t5).toNat)
  case atStart => exact ⟨0,1,rfl,Nat.zero_le _,rfl,Lib.hid rfl⟩
  case round =>
    obtain ⟨i,P,rfl,hi,rfl,hP⟩ :=hrel
    have p1 : 10 ^ i ≤ 10 ^ 8 :=Nat.pow_le_pow_right (by decide) (by omega)
    have p2 : 0 < 10 ^ i :=Nat.pow_pos (by decide)
    have P1 : P ≤ 100000000 :=by have :=hP.out;omega
    have P0 : 0 < P :=by have :=hP.out;omega
    have HP :=Lib.hid (And.intro p1 p2)
    clear p1 p2
    by_cases hlt : i < r
    · go_wp2
      go_round
      case rel => exact ⟨i + 1,_,by go_num,by omega,rfl,Lib.hid (by rw [hP.out,Nat.pow_succ];omega)⟩
      case measure => simp [intOf];omega
    · obtain rfl : i = r :=by omega
      have f3 :=(hO.room q (by omega)).2
      obtain ⟨⟨u3,c3⟩,_⟩ :=hO.room q (by omega)
      have hO3 :=hO.set (10 ^ i) (i :=q) (by simp)
      simp only [Nat.zero_add] at hO3 f3 c3
      have hO4 :=Lib.hid hO3
      have hqq : q < q + 1 :=by omega
      clear hO3
      go_wp2
      first | go_ret | refine ⟨_,results_tmp rfl _ _ _,?_⟩
      have e : (List.replicate (q + 1) 0).set q (10 ^ i) = List.replicate q 0 ++ [10 ^ i] :=by
        rw [List.replicate_succ',List.set_append_right _ _ (by simp)]
        simp
      have hO5 :=hO4.out
      rw [e,← hP.out] at hO5
      refine ⟨⟨_,rfl,_,q + 1,q + 1,rfl,List.replicate q 0 ++ [10 ^ i],by simp,Nat.le_refl _,by simp only [maxLen];omega,by omega,.inr ⟨g,rfl,?_⟩,?_,?_,?_⟩,?_⟩
      · exact hO5.row
      · refine (Lt.zeros (by decide) q).snoc ?_
        have :=HP.out.1
        unfold L9;omega
      · exact Nz.snoc (by have :=HP.out.2;omega)
      · rw [pow10_val,← HN.out.1]
      · exact ka.keptNew (Chg.setCell _ g q _ (fun b _ => b = g) fun _ => rfl) fun b _ h => by omega
end Go.Proofs.YtfmmdamgcpiciaaGreatDoor
namespace Go.Proofs.YtfmmdamgcpiciaaGreatDoor
open Go Go.RowKit
theorem run_app0 (w : World) (a : Addr) (n c : Nat) (s : Option Addr) (c' : Nat) (hn : n ≤ c) (hc : c ≤ maxLen) : (Builtin.append_ #[26,26] 26 #[.slice (some a) n c,.slice s 0 c']).run Tryz.prog w = .ok (.slice (some a) n c) w :=by
  obtain ⟨i0,hi,hz0,hz1,hz2⟩ :=info_parts T26.info
  have hf : (Builtin.firstCells i0.size 0 (.slice s 0 c')).run Tryz.prog w = .ok #[] w :=by
    cases s with
    | none => simp [Builtin.firstCells]
    | some b =>
      have :=run_firstCells_some (P :=Tryz.prog) w i0.size 0 b 0 c' [] (by simp) (fun j u h => by simp at h)
      simpa using this
  simp [Builtin.append_,run_underlying T26.u,sizeOf,typeInfo,hi,Builtin.lenOf,hn,hf,storeCells]
theorem wp_gappR {w0 w : World} {ops : Array Oper} {rest : List Oper} {op : Oper} {a : Act} {Q : Exit → Act → World → Prop} (hgd : op.guard = none) (s x : Operand) (ho : op.op = .call { callee :=.builtin .append,args :=#[s,x],argTypes :=#[26,26] }) (hty : op.type = 26) {sa : Addr} {sz : Option Addr} {c n m cz : Nat} {xs zs : List Nat}
    (hs : a.eval s = .slice (some sa) n c) (hx : a.eval x = .slice sz m cz) (h : Sl .u32 w0 w (some sa) c xs) (h0 : w0.heap.size ≤ w.heap.size) (hn : xs.length = n) (hm : zs.length = m) (hb : n + m < 2 ^ 40) (hz : Rd w sz zs)
    (hk : ∀ s' c' W1,Sl .u32 w0 W1 s' c' (xs ++ zs) → Chg w W1 (inS (some sa)) → wpList Tryz.prog ops Q rest (a.put op.dst (.slice s' (n + m) c')) W1) : wpList Tryz.prog ops Q (op :: rest) a w :=by
  rcases hz with rfl | ⟨g,rfl,hr⟩
  · have hm0 : m = 0 :=by rw [← hm];rfl
    subst hm0
    refine Lib.wpList_append_run _ hgd s x 26 26 ho _ _ hs hx _ _ (by rw [hty];exact run_app0 w sa n c sz cz (by rw [← hn];exact h.le) h.cap) ?_
    exact hk (some sa) c w (by rw [List.append_nil];exact h) (Chg.refl _ _)
  · rcases Nat.eq_zero_or_pos m with rfl | hmp
    · have hz : zs = [] :=List.eq_nil_of_length_eq_zero hm
      subst hz
      refine Lib.wpList_append_run _ hgd s x 26 26 ho _ _ hs hx _ _ (by rw [hty];exact run_app0 w sa n c _ cz (by rw [← hn];exact h.le) h.cap) ?_
      exact hk (some sa) c w (by rw [List.append_nil];exact h) (Chg.refl _ _)
    · exact wp_gapp T26 hgd s x ho hty zs hs hx h h0 hn hm (by omega) hb hr fun s' c' W1 q1 q2 _ => hk s' c' W1 q1 q2
theorem min_lt9 (t : Nat) : min t 999999999 < L9 :=Nat.lt_of_le_of_lt (Nat.min_le_right _ _) (by decide)
theorem min_cast9 (t : Nat) : ((min t 999999999 : Nat) : Int) = min (t : Int) 999999999 :=by omega
theorem le_min9 {q t : Nat} (h : q ≤ t) (h2 : q < L9) : q ≤ min t 999999999 :=Nat.le_min.2 ⟨h,by unfold L9 at h2;omega⟩
theorem guess_ge {R Y top yt D n : Nat} (hn : R < (top + 1) * L9 ^ n) (hy : yt * L9 ^ n ≤ Y) (hY : 0 < yt) (hD : D * Y ≤ R) : D ≤ top / yt :=by
  rw [Nat.le_div_iff_mul_le hY]
  have h1 : D * yt * L9 ^ n ≤ D * Y :=by rw [Nat.mul_assoc];exact Nat.mul_le_mul_left _ hy
  have h2 : D * yt * L9 ^ n < (top + 1) * L9 ^ n :=by omega
  have :=Nat.lt_of_mul_lt_mul_right h2
  omega
theorem top_limb {xs : List Nat} {n : Nat} (hlt : Lt L9 xs) (hl : xs.length = n + 1) : lb xs n * L9 ^ n ≤ val L9 xs ∧ val L9 xs < (lb xs n + 1) * L9 ^ n :=by
  have h1 :=val_take1 L9 xs n
  rw [List.take_of_length_le (by omega)] at h1
  have h2 :=val_lt (hlt.take n)
  rw [List.length_take,Nat.min_eq_left (by omega)] at h2
  rw [h1,Nat.add_mul,Nat.one_mul,Nat.mul_comm (lb xs n)]
  omega
theorem top_limb2 {xs : List Nat} {n : Nat} (hlt : Lt L9 xs) (hl : xs.length = n + 2) : val L9 xs < (lb xs n + lb xs (n + 1) * L9 + 1) * L9 ^ n :=by
  have h1 :=val_take1 L9 xs (n + 1)
  have h3 :=val_take1 L9 xs n
  rw [List.take_of_length_le (by omega)] at h1
  have h2 :=val_lt (hlt.take n)
  rw [List.length_take,Nat.min_eq_left (by omega)] at h2
  rw [h1,h3,Nat.pow_succ,Nat.add_mul,Nat.add_mul,Nat.one_mul,Nat.mul_comm (lb xs n),Nat.mul_assoc (lb xs (n + 1)),Nat.mul_comm (lb xs (n + 1)),Nat.mul_comm L9]
  omega
theorem natGuess (w : World) (sr sy : Option Addr) (m n cr cy R Y : Nat) (hr : Dig w sr m cr R) (hy : Dig w sy n cy Y) (hY : 0 < Y) (hRY : R < L9 * Y) (hn : n < 500000) :
    Calls Tryz.prog 104 #[.slice sr m cr,.slice sy n cy] w fun e w' => w' = w ∧ ∃ d : Nat,e = .returned (.int .u64 (d : Int)) ∧ R / Y ≤ d ∧ d < L9 :=by
  have hD : R / Y < L9 :=by rw [Nat.div_lt_iff_lt_mul hY];exact hRY
  have hDm : R / Y * Y ≤ R :=Nat.div_mul_le_self R Y
  have hn0 : n ≠ 0 :=fun h => by have :=hy.zero.1 h;omega
  have hzn :=hr.len_ge hy
  obtain ⟨xs,h1,h2,h3,h4,h5,h6,h7,h8⟩ :=hr
  obtain ⟨ys,k1,k2,k3,k4,k5,k6,k7,k8⟩ :=hy
  obtain ⟨p,rfl⟩ : ∃ p,n = p + 1 :=⟨n - 1,by omega⟩
  have hmn : m ≤ p + 2 :=by
    rcases Nat.lt_or_ge (p + 2) m with h | h
    · obtain ⟨t,rfl⟩ : ∃ t,m = t + 1 :=⟨m - 1,by omega⟩
      have a1 :=Nz.le (B :=L9) h7 h1
      have a2 :=val_lt k6
      rw [k1,k8] at a2
      rw [h8] at a1
      have a3 : L9 * Y < L9 * L9 ^ (p + 1) :=Nat.mul_lt_mul_of_pos_left a2 (by decide)
      rw [Nat.mul_comm L9 (L9 ^ (p + 1)),← Nat.pow_succ] at a3
      have a4 : L9 ^ (p + 1).succ ≤ L9 ^ t :=Nat.pow_le_pow_right (by decide) (by rw [Nat.succ_eq_add_one];omega)
      omega
    · exact h
  have ty :=top_limb k6 k1
  rw [k8] at ty
  have gy : ys[p]? = some (lb ys p) :=by rw [lb_in (List.getElem?_eq_getElem (by omega))];exact List.getElem?_eq_getElem (by omega)
  have hyt : 0 < lb ys p :=by
    refine Nat.pos_of_ne_zero fun h => k7 _ ?_ h
    rw [List.getLast?_eq_getElem?,k1]
    exact gy
  have hylt :=lb_lt k6 p
  obtain ⟨g2,rfl,r2⟩ :=k5.row (fun e => by subst e;simp at k1)
  have c2 :=r2 p (lb ys p) gy
  obtain ⟨B,eB⟩ : ∃ B : Int,((lb ys p : Nat) : Int) = B :=⟨_,rfl⟩
  rw [eB] at c2
  simp only [Nat.zero_add] at c2
  have B0 : 0 < B :=by omega
  have B1 : B ≤ 999999999 :=by unfold L9 at hylt;omega
  have ep : ((p + 1 : Nat) : Int) - 1 = (p : Int) :=by omega
  have epi : (p : Int) + 1 - 1 = (p : Int) :=by omega
  rcases (by omega : m < p + 1 ∨ m = p + 1 ∨ m = p + 2) with hm | rfl | rfl
  · have hlt : R < Y :=hzn hm
    clear hzn h3 k3 h7 k7 ty
    go_enter Tryz.func104,Tryz.ntmps104
    go_wp2
    first | go_ret | refine ⟨_,results_tmp rfl _ _ _,?_⟩
    exact ⟨rfl,0,rfl,by rw [Nat.div_eq_of_lt hlt];exact Nat.le_refl _,by decide⟩
  · have tx :=(top_limb h6 h1).2
    rw [h8] at tx
    have hg :=guess_ge tx ty.1 hyt hDm
    have gx : xs[p]? = some (lb xs p) :=by rw [lb_in (List.getElem?_eq_getElem (by omega))];exact List.getElem?_eq_getElem (by omega)
    have hxl :=lb_lt h6 p
    obtain ⟨g1,rfl,r1⟩ :=h5.row (fun e => by subst e;simp at h1)
    have c1 :=r1 p (lb xs p) gx
    obtain ⟨A,eA⟩ : ∃ A : Int,((lb xs p : Nat) : Int) = A :=⟨_,rfl⟩
    rw [eA] at c1
    simp only [Nat.zero_add] at c1
    have A0 : 0 ≤ A :=by omega
    have A1 : A ≤ 999999999 :=by unfold L9 at hxl;omega
    have eQ : A / B = ((lb xs p / lb ys p : Nat) : Int) :=by rw [← eA,← eB];rfl
    have Q0 : 0 ≤ A / B :=by rw [eQ];exact Int.natCast_nonneg _
    have HH :=Lib.hid (And.intro hg (And.intro eQ (And.intro hD hDm)))
    have hB0 : B ≠ 0 :=by omega
    clear hzn h3 k3 h7 k7 ty tx hg eQ hD hDm eA eB hxl hylt hyt gx gy
    go_enter Tryz.func104,Tryz.ntmps104
    go_wp2
    first | go_ret | refine ⟨_,results_tmp rfl _ _ _,?_⟩
    obtain ⟨hg,eQ,hD,hDm⟩ :=HH.out
    refine ⟨rfl,min (lb xs p / lb ys p) 999999999,?_,le_min9 hg hD,min_lt9 _⟩
    have : ((min (lb xs p / lb ys p) 999999999 : Nat) : Int) = min (A / B) 999999999 :=by rw [eQ];exact min_cast9 _
    rw [this];rfl
  · have tx :=top_limb2 h6 h1
    rw [h8] at tx
    have hg :=guess_ge tx ty.1 hyt hDm
    have gx : xs[p]? = some (lb xs p) :=by rw [lb_in (List.getElem?_eq_getElem (by omega))];exact List.getElem?_eq_getElem (by omega)
    have gx2 : xs[p + 1]? = some (lb xs (p + 1)) :=by rw [lb_in (List.getElem?_eq_getElem (by omega))];exact List.getElem?_eq_getElem (by omega)
    have hxl :=lb_lt h6 p
    have hxl2 :=lb_lt h6 (p + 1)
    obtain ⟨g1,rfl,r1⟩ :=h5.row (fun e => by subst e;simp at h1)
    have c1 :=r1 p (lb xs p) gx
    have c3 :=r1 (p + 1) (lb xs (p + 1)) gx2
    obtain ⟨A,eA⟩ : ∃ A : Int,((lb xs p : Nat) : Int) = A :=⟨_,rfl⟩
    obtain ⟨A2,eA2⟩ : ∃ A : Int,((lb xs (p + 1) : Nat) : Int) = A :=⟨_,rfl⟩
    rw [eA] at c1
    rw [eA2] at c3
    simp only [Nat.zero_add] at c1 c3
    have A0 : 0 ≤ A :=by omega
    have A1 : A ≤ 999999999 :=by unfold L9 at hxl;omega
    have A20 : 0 ≤ A2 :=by omega
    have A21 : A2 ≤ 999999999 :=by unfold L9 at hxl2;omega
    have eQ : (A + A2 * 1000000000) / B = (((lb xs p + lb xs (p + 1) * L9) / lb ys p : Nat) : Int) :=by rw [← eA,← eA2,← eB];rfl
    have Q0 : 0 ≤ (A + A2 * 1000000000) / B :=by rw [eQ];exact Int.natCast_nonneg _
    have HH :=Lib.hid (And.intro hg (And.intro eQ (And.intro hD hDm)))
    have hB0 : B ≠ 0 :=by omega
    clear hzn h3 k3 h7 k7 ty tx hg eQ hD hDm eA eA2 eB hxl hxl2 hylt hyt gx gx2 gy
    go_enter Tryz.func104,Tryz.ntmps104
    go_wp2
    first | go_ret | refine ⟨_,results_tmp rfl _ _ _,?_⟩
    obtain ⟨hg,eQ,hD,hDm⟩ :=HH.out
    refine ⟨rfl,min ((lb xs p + lb xs (p + 1) * L9) / lb ys p) 999999999,?_,le_min9 hg hD,min_lt9 _⟩
    have : ((min ((lb xs p + lb xs (p + 1) * L9) / lb ys p) 999999999 : Nat) : Int) = min ((A + A2 * 1000000000) / B) 999999999 :=by rw [eQ];exact min_cast9 _
    rw [this];rfl
end Go.Proofs.YtfmmdamgcpiciaaGreatDoor
namespace Go.Proofs.YtfmmdamgcpiciaaGreatDoor
open Go Go.RowKit
abbrev fl (n : Int) : Nat :=floatOfInt .f64 n
def readsAs (n : Int) : Bool :=match Ieee.double.read (fl n) with
  | .number s m i => i ≤ 0 && (s == decide (n < 0)) && m == n.natAbs * 2 ^ (-i).toNat && (n == 0 && i == -1074 || n != 0 && -52 ≤ i && i ≤ -42)
  | _ => false
theorem readsAs_all : ∀ k : Fin 1023,readsAs ((k.val : Int) - 511) = true :=by decide +kernel
theorem reads (n : Int) (h1 : -512 < n) (h2 : n < 512) : ∃ i : Int,Ieee.double.read (fl n) = .number (decide (n < 0)) (n.natAbs * 2 ^ (-i).toNat) i ∧ i ≤ 0 ∧ (n = 0 ∧ i = -1074 ∨ n ≠ 0 ∧ -52 ≤ i ∧ i ≤ -42) :=by
  have h :=readsAs_all ⟨(n + 511).toNat,by omega⟩
  have e : (((n + 511).toNat : Nat) : Int) - 511 = n :=by omega
  simp only [e] at h
  unfold readsAs at h
  split at h
  · rename_i s m i hr
    simp only [Bool.and_eq_true,Bool.or_eq_true,beq_iff_eq,bne_iff_ne,decide_eq_true_eq] at h
    obtain ⟨⟨⟨h3,h4⟩,h5⟩,h6⟩ :=h
    refine ⟨i,by rw [hr,h4,h5],h3,?_⟩
    rcases h6 with ⟨h6,h7⟩ | ⟨⟨h6,h7⟩,h8⟩
    · exact .inl ⟨h6,h7⟩
    · exact .inr ⟨h6,h7,h8⟩
  · cases h
theorem writes_all : ∀ d : Fin 1024,∀ k : Fin 11,∀ s : Bool,Ieee.double.nearest s (d.val * 2 ^ (k.val + 42)) (-((k.val + 42 : Nat) : Int)) = Ieee.double.nearest s d.val 0 :=by decide +kernel
theorem writes_far : ∀ d : Fin 1024,∀ s : Bool,Ieee.double.nearest s (d.val * 2 ^ 1074) (-1074) = Ieee.double.nearest s d.val 0 :=by decide +kernel
theorem writes (d : Nat) (hd : d < 1024) (s : Bool) (i : Int) (hi : i = -1074 ∨ -52 ≤ i ∧ i ≤ -42) : Ieee.double.nearest s (d * 2 ^ (-i).toNat) i = Ieee.double.nearest s d 0 :=by
  rcases hi with rfl | ⟨h1,h2⟩
  · exact writes_far ⟨d,hd⟩ s
  · have h :=writes_all ⟨d,hd⟩ ⟨(-i).toNat - 42,by omega⟩ s
    have e1 : (-i).toNat - 42 + 42 = (-i).toNat :=by omega
    simp only [e1] at h
    rw [show (-(((-i).toNat : Nat) : Int)) = i by omega] at h
    exact h
theorem signed_scale (n i j : Int) (hi : i ≤ 0) (hj : j ≤ i) : Ieee.signed (decide (n < 0)) (n.natAbs * 2 ^ (-i).toNat) (i - j).toNat = n * 2 ^ (-j).toNat :=by
  have e : 2 ^ (-j).toNat = 2 ^ (-i).toNat * 2 ^ (i - j).toNat :=by rw [← Nat.pow_add];congr 1;omega
  have e' : (2 : Int) ^ (-j).toNat = 2 ^ (-i).toNat * 2 ^ (i - j).toNat :=by exact_mod_cast e
  unfold Ieee.signed
  rw [Nat.shiftLeft_eq,Nat.mul_assoc,← e]
  by_cases h : n < 0
  · simp only [h,decide_true,if_true]
    push_cast
    rw [show ((n.natAbs : Nat) : Int) = -n by omega,Int.neg_mul,Int.neg_neg]
  · simp only [h,decide_false,Bool.false_eq_true,if_false]
    push_cast
    rw [show ((n.natAbs : Nat) : Int) = n by omega]
theorem opp_number (s : Bool) (m : Nat) (i : Int) : (Ieee.Datum.number s m i).opposite = .number (!s) m i :=rfl
theorem signed_neg (s : Bool) (m u : Nat) : Ieee.signed (!s) m u = -Ieee.signed s m u :=by
  unfold Ieee.signed
  cases s <;> simp
theorem fl_sub (a b : Int) (h1 : -512 < a) (h2 : a < 512) (h3 : -512 < b) (h4 : b < 512) (hne : a ≠ b) : floatBits .sub .f64 (fl a) (fl b) = some (fl (a - b)) :=by
  obtain ⟨i,ha,hi,hi2⟩ :=reads a h1 h2
  obtain ⟨j,hb,hj,hj2⟩ :=reads b h3 h4
  show Ieee.double.sub (fl a) (fl b) = _
  unfold Ieee.Format.sub
  rw [ha,hb,opp_number]
  simp only [Ieee.Datum.sum,Option.map_some]
  have ea : Ieee.signed (decide (a < 0)) (a.natAbs * 2 ^ (-i).toNat) (i - min i j).toNat = a * 2 ^ (-(min i j)).toNat :=signed_scale a i (min i j) hi (by omega)
  have eb : Ieee.signed (!decide (b < 0)) (b.natAbs * 2 ^ (-j).toNat) (j - min i j).toNat = -(b * 2 ^ (-(min i j)).toNat) :=by
    rw [signed_neg,signed_scale b j (min i j) hj (by omega)]
  rw [ea,eb]
  have hpos : (0 : Int) < 2 ^ (-(min i j)).toNat :=Int.pow_pos (by decide)
  have et : a * 2 ^ (-(min i j)).toNat + -(b * 2 ^ (-(min i j)).toNat) = (a - b) * 2 ^ (-(min i j)).toNat :=by rw [Int.sub_mul];omega
  rw [et]
  have hne0 : (a - b) * 2 ^ (-(min i j)).toNat ≠ 0 :=Int.mul_ne_zero (by omega) (by omega)
  have hneg : ((a - b) * 2 ^ (-(min i j)).toNat < 0) ↔ (a - b < 0) :=by
    constructor
    · intro h
      rcases Int.lt_or_le (a - b) 0 with h' | h'
      · exact h'
      · exact absurd h (Int.not_lt.2 (Int.mul_nonneg h' (Int.le_of_lt hpos)))
    · intro h
      exact Int.mul_neg_of_neg_of_pos h hpos
  have hab : ((a - b) * 2 ^ (-(min i j)).toNat).natAbs = (a - b).natAbs * 2 ^ (-(min i j)).toNat :=by
    rw [Int.natAbs_mul,Int.natAbs_pow];rfl
  rw [if_neg hne0,hab]
  show some (Ieee.double.nearest _ _ _) = _
  rw [writes (a - b).natAbs (by omega) _ (min i j) (by omega)]
  rw [decide_eq_decide.2 hneg]
  rfl
theorem fl_word : ∀ k : Fin 1024,fl (-(k.val : Int)) = (if k.val = 0 then 0 else 2 ^ 63) + fl (k.val : Int) ∧ fl (k.val : Int) < 2 ^ 63 :=by decide +kernel
theorem fl_int : ∀ k : Fin 1024,floatToIntVal .f64 (fl (k.val : Int)) .i64 = some (k.val : Int) :=by decide +kernel
end Go.Proofs.YtfmmdamgcpiciaaGreatDoor
namespace Go.Proofs.YtfmmdamgcpiciaaGreatDoor
open Go Go.RowKit
theorem callFloatBits (b : Nat) (w : World) : (callFunc 131 #[.float .f64 b]).run Tryz.prog w = .ok (.value (.int .u64 b)) w :=by
  rw [run_callFunc_extern Tryz.func131 (by kernel_rfl) (by kernel_rfl) (by kernel_rfl) (e :=Extern.MathFloatBits.float64bits) (by kernel_rfl)]
  rfl
theorem callFloatFrom (b : Nat) (w : World) : (callFunc 130 #[.int .u64 b]).run Tryz.prog w = .ok (.value (.float .f64 b)) w :=by
  rw [run_callFunc_extern Tryz.func130 (by kernel_rfl) (by kernel_rfl) (by kernel_rfl) (e :=Extern.MathFloatBits.float64frombits) (by kernel_rfl)]
  rfl
theorem andNot_top (b : Nat) (hb : b < 2 ^ 63) (s : Bool) : bits .andNot .u64 (((if s then 2 ^ 63 else 0) + b : Nat) : Int) 9223372036854775808 = (b : Int) :=by
  have hlt : (if s then 2 ^ 63 else 0) + b < 2 ^ 64 :=by cases s <;> simp <;> omega
  have e : ((2 ^ 63 : Nat) : Int) = 9223372036854775808 :=by decide
  rw [← e]
  have hm : ((if s then 2 ^ 63 else 0) + b) % 2 ^ 63 = b :=by cases s <;> simp <;> omega
  have hn : 2 ^ 64 - 1 - 2 ^ 63 % 2 ^ 64 = 2 ^ 63 - 1 :=by decide
  simp only [bits,BitVec.ofInt_natCast,BitVec.toNat_and,BitVec.toNat_not,BitVec.toNat_ofNat]
  show IntKind.u64.wrap ((((if s then 2 ^ 63 else 0) + b) % 2 ^ 64 &&& (2 ^ 64 - 1 - 2 ^ 63 % 2 ^ 64) : Nat) : Int) = b
  rw [Nat.mod_eq_of_lt hlt,hn,Nat.and_two_pow_sub_one_eq_mod,hm,wrap_u64]
  omega
theorem fl_abs (n : Int) (h1 : -1024 < n) (h2 : n < 1024) : bits .andNot .u64 (fl n : Nat) 9223372036854775808 = ((fl n.natAbs : Nat) : Int) :=by
  have h :=fl_word ⟨n.natAbs,by omega⟩
  simp only at h
  rcases Int.lt_or_le n 0 with hn | hn
  · have e : -((n.natAbs : Nat) : Int) = n :=by omega
    rw [e] at h
    have h0 : n.natAbs ≠ 0 :=by omega
    rw [if_neg h0] at h
    rw [h.1]
    have :=andNot_top (fl n.natAbs) h.2 true
    simpa using this
  · have e : ((n.natAbs : Nat) : Int) = n :=by omega
    have :=andNot_top (fl n.natAbs) h.2 false
    rw [e] at this ⊢
    simpa using this
theorem mathAbs (n : Int) (h1 : -1024 < n) (h2 : n < 1024) (w : World) : Calls Tryz.prog 115 #[.float .f64 (fl n)] w fun e w' => e = .returned (.float .f64 (fl n.natAbs)) ∧ w' = w :=by
  have ha :=fl_abs n h1 h2
  have hb :=callFloatBits (fl n)
  have hc :=callFloatFrom (fl n.natAbs)
  generalize fl n = x at *
  generalize fl n.natAbs = y at *
  go_enter Tryz.func115,Tryz.ntmps115
  go_wp2
  first | go_ret | refine ⟨_,results_tmp rfl _ _ _,?_⟩
  exact ⟨rfl,rfl⟩
end Go.Proofs.YtfmmdamgcpiciaaGreatDoor
namespace Go.Proofs.YtfmmdamgcpiciaaGreatDoor
open Go Go.RowKit
abbrev dv (b : Nat) (e : Int) : Value :=.agg #[ptr b,.int .i32 e]
def NewDec (w : World) (X : Int) (x : Int) (e : Ending) (w' : World) : Prop :=∃ b,e = .returned (dv b x) ∧ IntN w w' b X ∧ Kept w w'
abbrev Box (w : World) (x y : Value) : World :=w.alloc (.cells #[x,y] 55)
theorem box0 (w : World) (x y : Value) : (Box w x y).cell? ⟨w.heap.size,0,none⟩ = some x :=by rw [World.cell?_alloc_at _ _ _ _ rfl];rfl
theorem box1 (w : World) (x y : Value) : (Box w x y).cell? ⟨w.heap.size,1,none⟩ = some y :=by rw [World.cell?_alloc_at _ _ _ _ rfl];rfl
theorem boxK (w : World) (x y : Value) : Kept w (Box w x y) :=Chg.alloc _ _ _
theorem boxS (w : World) (x y : Value) : (Box w x y).heap.size = w.heap.size + 1 :=by simp
structure Slot (w : World) (b : Nat) : Prop where
  c0 : ∃ u,w.cell? ⟨b,0,none⟩ = some u
  c1 : ∃ u,w.cell? ⟨b,1,none⟩ = some u
  nf : NF w b
theorem Slot.made (w : World) (x y : Value) : Slot (Box w x y) w.heap.size :=⟨⟨_,box0 w x y⟩,⟨_,box1 w x y⟩,NF.made w _ _⟩
theorem Slot.kept {w w' : World} {b : Nat} (h : Slot w b) (hk : Kept w w') : Slot w' b :=by
  obtain ⟨⟨u,hu⟩,⟨v,hv⟩,hf⟩ :=h
  exact ⟨⟨u,Kept.at hk hu⟩,⟨v,Kept.at hk hv⟩,hf.chg (lt_of_cell hu) hk⟩
theorem IntN.chg {w0 w w' : World} {M : Nat → Nat → Prop} {b : Nat} {X : Int} (h : IntN w0 w b X) (hc : Chg w w' M) (hm : ∀ b o,M b o → b < w0.heap.size) : IntN w0 w' b X :=by
  obtain ⟨s,n,c,h1,h2,h3⟩ :=h
  refine ⟨s,n,c,h1.chg hc (fun o hM => ?_) (fun b' o hs o' hM => ?_),h2,h3⟩
  · have :=hm _ _ hM;omega
  · have :=hm _ _ hM
    have :=h3 _ hs
    simp only at this
    omega
abbrev put2 (w : World) (r : Nat) (x y : Value) : World :=(w.setCell ⟨r,0,none⟩ x).setCell ⟨r,1,none⟩ y
theorem put2_chg (w : World) (r : Nat) (x y : Value) : Chg w (put2 w r x y) fun b _ => b = r :=
  (Chg.setCell w r 0 x (fun b _ => b = r) fun _ => rfl).trans (Chg.setCell _ r 1 y (fun b _ => b = r) fun _ => rfl) fun _ _ _ h => h
theorem put2_0 {w : World} {r : Nat} (h : Slot w r) (x y : Value) : (put2 w r x y).cell? ⟨r,0,none⟩ = some x :=by
  obtain ⟨u,hu⟩ :=h.c0
  exact (cell_setCell_ne (by omega)).trans (cell_setCell_eq hu)
theorem put2_1 {w : World} {r : Nat} (h : Slot w r) (x y : Value) : (put2 w r x y).cell? ⟨r,1,none⟩ = some y :=by
  obtain ⟨u,hu⟩ :=h.c1
  exact cell_setCell_eq ((cell_setCell_ne (by omega)).trans hu)
theorem dec_ret {w W w1 : World} {r b : Nat} {X : Int} (hr : w.heap.size ≤ r) (hr2 : r < W.heap.size) (hk : Kept w W) (k1 : IntN W w1 b X) (k2 : Kept W w1) (x y : Value) : IntN w (put2 w1 r x y) b X ∧ Kept w (put2 w1 r x y) :=
  ⟨(k1.chg (put2_chg w1 r x y) fun b' _ h => by omega).older (Chg.size hk),(hk.trans k2 fun _ _ _ h => h).keptNew (put2_chg w1 r x y) fun b' _ h => by omega⟩
theorem info55 : (Tryz.prog.info? 55).map (fun i => (i.zero,i.size,i.bytes)) = some (some (.agg #[.pointer none,.int .i32 0]),2,16) :=by kernel_rfl
theorem results_dec {fn : Func} {t r : Nat} {tmps : Array Value} {w : World} {x y : Value} (h : fn.results = #[.cell t 55]) (hp : tmps.getD t undef = ptr r) (h0 : w.cell? ⟨r,0,none⟩ = some x) (h1 : w.cell? ⟨r,1,none⟩ = some y) :
    (results fn tmps).run Tryz.prog w = .ok (.agg #[x,y]) w :=by
  obtain ⟨i0,hi,hz0,hz1,hz2⟩ :=info_parts info55
  have hp' : tmps[t]?.getD undef = ptr r :=by simpa using hp
  simp [results,h,hp',go_sem,hi,hz1,h0,h1]
theorem dec_getValue (w : World) (b : Nat) (e : Int) : Calls Tryz.prog 88 #[dv b e] w fun r w' => r = .returned (ptr b) ∧ Kept w w' :=by
  go_enter Tryz.func88,Tryz.ntmps88
  go_wp2
  first | go_ret | refine ⟨_,results_tmp rfl _ _ _,?_⟩
  exact ⟨rfl,Chg.alloc _ _ _⟩
theorem dec_sign (w : World) (b : Nat) (e X : Int) (h : IntAt w b X) : Calls Tryz.prog 90 #[dv b e] w fun r w' => r = .returned (.int .i64 (Int.sign X)) ∧ Kept w w' :=by
  go_enter Tryz.func90,Tryz.ntmps90
  go_wp2_with (first
    | (go_at_call 88;refine (dec_getValue _ b e).mono ?_;rintro r w1 ⟨rfl,k⟩;have k :=(Chg.alloc _ _ _).trans k fun _ _ _ h => h;have K :=Lib.hid k)
    | (go_at_call 95;refine (int_sign _ b X (h.kept K.out)).mono ?_;rintro r w2 ⟨rfl,hw⟩;rw [hw]))
  first | go_ret | refine ⟨_,results_tmp rfl _ _ _,?_⟩
  exact ⟨rfl,K.out⟩
theorem dec_new (w : World) (x e : Int) (h1 : -9223372036854775808 ≤ x) (h2 : x ≤ 9223372036854775807) : Calls Tryz.prog 71 #[.int .i64 x,.int .i32 e] w (NewDec w x e) :=by
  have hn :=fun W => int_new W x h1 h2
  go_enter Tryz.func71,Tryz.ntmps71
  go_wp2_with (first
    | (go_at_call 93;refine (hn _).mono ?_;rintro r w1 ⟨b,rfl,k1,k2⟩;have S :=(Slot.made w (.pointer none) (.int .i32 0)).kept k2;obtain ⟨⟨u0,s0⟩,⟨u1,s1⟩,sf⟩ :=id S;have f0 :=sf 0;have f1 :=sf 1;have s2 :=cs_ne (u :=ptr b) s1 (b' :=w.heap.size) (o' :=0) (by omega)))
  exact bodyPost_ret (v :=dv b e) (results_dec rfl rfl (put2_0 S _ _) (put2_1 S _ _)) rfl ⟨b,rfl,dec_ret (Nat.le_refl _) (by simp) (boxK _ _ _) k1 k2 _ _⟩
end Go.Proofs.YtfmmdamgcpiciaaGreatDoor
