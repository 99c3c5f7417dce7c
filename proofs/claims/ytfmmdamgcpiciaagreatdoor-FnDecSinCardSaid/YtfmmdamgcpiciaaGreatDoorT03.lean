/- A part of the proof, joined out of the texts A13, A14, A15, A16, A17, A18, A19, D0; each theorem bears its own conditions. -/
import Derived.Defers
import Derived.Laws.BitsLemmas
import Derived.Lib.BitFns
import Derived.Lib.ItoaNum
import Derived.Lib.Slices
import Derived.Lib.Small
import Derived.Lib.Strings
import Derived.Lib.Walk
import Derived.Test.YtfmmdamgcpiciaaGreatDoorT01
import Derived.Test.YtfmmdamgcpiciaaGreatDoorT02
set_option linter.unusedVariables false
set_option linter.unusedSimpArgs false
set_option linter.all false
set_option maxHeartbeats 9000000
set_option exponentiation.threshold 400000
set_option maxRecDepth 1000000
namespace Go.Proofs.YtfmmdamgcpiciaaGreatDoor
open Go Go.RowKit
structure Glob (w : World) : Prop where
  sqrT : w.cell? ⟨2,0,none⟩ = some (.int .i64 12)
  ksqT : w.cell? ⟨3,0,none⟩ = some (.int .i64 80)
  karT : w.cell? ⟨4,0,none⟩ = some (.int .i64 40)
  divT : w.cell? ⟨5,0,none⟩ = some (.int .i64 40)
theorem Glob.chg {w w' : World} {M : Nat → Nat → Prop} (h : Glob w) (hc : Chg w w' M) (hm : ∀ b o,b < 6 → ¬ M b o) : Glob w' :=
  ⟨(hc.cell 2 0 (lt_of_cell h.sqrT) (hm _ _ (by omega))).trans h.sqrT,(hc.cell 3 0 (lt_of_cell h.ksqT) (hm _ _ (by omega))).trans h.ksqT,
   (hc.cell 4 0 (lt_of_cell h.karT) (hm _ _ (by omega))).trans h.karT,(hc.cell 5 0 (lt_of_cell h.divT) (hm _ _ (by omega))).trans h.divT⟩
theorem Glob.kept {w w' : World} (h : Glob w) (hc : Kept w w') : Glob w' :=h.chg hc fun _ _ _ x => x
theorem Glob.size {w : World} (h : Glob w) : 6 ≤ w.heap.size :=lt_of_cell h.divT
def Dis (s t : Option Addr) : Prop :=∀ a b,s = some a → t = some b → a.block ≠ b.block
theorem Dis.sep {s t : Option Addr} (h : Dis s t) : Sep s t :=.inr h
theorem Dis.symm {s t : Option Addr} (h : Dis s t) : Dis t s :=fun a b h1 h2 e => h b a h2 h1 e.symm
theorem Dis.nil (s : Option Addr) : Dis s Option.none :=fun _ _ _ h => by cases h
theorem Dis.nil' (s : Option Addr) : Dis Option.none s :=fun _ _ h => by cases h
theorem Dis.ne {w : World} {s : Option Addr} {c bx ox b o c' : Nat} (h : Dis (some ⟨bx,ox,Option.none⟩) s) (hf : Fr w s c (some ⟨b,o,Option.none⟩) c') (hb : bx < w.heap.size) : bx ≠ b :=by
  rcases hf with ⟨h1,_⟩ | ⟨b2,h1,h2⟩
  · exact h _ _ rfl h1.symm
  · simp only [Option.some.injEq,Addr.mk.injEq] at h1
    omega
theorem alias_dis (w : World) (s t : Option Addr) (n c n' c' : Nat) (hs : SlOk w s c) (ht : SlOk w t c') (hcc : c ≤ (8388607 * Big + 1099511627775)) (hcc' : c' ≤ (8388607 * Big + 1099511627775)) (hd : Dis s t) :
    Calls Tryz.prog 142 #[.slice s n c,.slice t n' c'] w fun e w' => e = .returned (.bool false) ∧ w' = w.drew :=by
  by_cases h0 : c = 0 ∨ c' = 0
  · exact alias_no w s t n c n' c' h0
  · obtain ⟨b,o,rfl,h1,n1,_⟩ :=hs.pos (by omega)
    obtain ⟨b',o',rfl,h2,n2,_⟩ :=ht.pos (by omega)
    refine (alias_two w b o b' o' n c n' c' (by omega) (by omega) hcc hcc' h1 h2 n1 n2).mono ?_
    rintro e w' ⟨rfl,h⟩
    have hb : b ≠ b' :=hd _ _ rfl rfl
    exact ⟨by simp [hb],h⟩
theorem NatAt.ok {w : World} {s : Option Addr} {n c X : Nat} (h : NatAt w s n c X) : SlOk w s c ∧ c ≤ (8388607 * Big + 1099511627775) ∧ n ≤ Big ∧ n ≤ c :=by
  obtain ⟨xs,_,h2,h3,h4,h5,_⟩ :=h
  exact ⟨h5,h3,h4,h2⟩
theorem SlOk.drew {w : World} {s : Option Addr} {c : Nat} (h : SlOk w s c) : SlOk w.drew s c :=h.chg (Chg.refl w (fun _ _ => False)).drew
theorem NatAt.drew {w : World} {s : Option Addr} {n c X : Nat} (h : NatAt w s n c X) : NatAt w.drew s n c X :=h.kept (Chg.refl w _).drew
theorem nat_mul_ge (w : World) (stk : Value) (s sx sy : Option Addr) (n0 c m n cx cy X Y : Nat) (hg : Glob w) (hc : SlOk w s c) (hcc : c ≤ (8388607 * Big + 1099511627775)) (hx : NatAt w sx m cx X) (hy : NatAt w sy n cy Y)
    (hmn : n ≤ m) (hm : 2 * m < Big) (hn : n < 40) (dx : Dis sx s) (dy : Dis sy s) :
    Calls Tryz.prog 128 #[.slice s n0 c,stk,.slice sx m cx,.slice sy n cy] w (GotNat w s c (X * Y)) :=by
  have hge : ¬ m < n :=by omega
  rcases (by omega : n = 0 ∨ n = 1 ∨ 1 < n) with h0 | h1 | h2
  · subst h0
    obtain rfl :=hy.zero
    unfold Big at *
    by_cases hm0 : m = 0
    · subst hm0
      go_enter Tryz.func128,Tryz.ntmps128
      go_wp2
      first | go_ret | refine ⟨_,results_tmp rfl _ _ _,?_⟩
      exact ⟨s,0,c,rfl,sliceNil_nat hc (by unfold Big;omega),.inl ⟨rfl,rfl⟩,Chg.refl _ _⟩
    · have hm1 : ((m : Int) == 0) = false :=by simp;omega
      go_enter Tryz.func128,Tryz.ntmps128
      go_wp2
      first | go_ret | refine ⟨_,results_tmp rfl _ _ _,?_⟩
      exact ⟨s,0,c,rfl,sliceNil_nat hc (by unfold Big;omega),.inl ⟨rfl,rfl⟩,Chg.refl _ _⟩
  · subst h1
    obtain ⟨xs,a1,a2,a3,a4,a5,a6,a7,a8,rfl⟩ :=hx
    obtain ⟨by',oy,ys,rfl,hry,hly,hlty,-,rfl,hwy,nfy,hy1,hy2,hby⟩ :=NatAt.open (n :=0) hy
    obtain ⟨y,rfl⟩ : ∃ y,ys = [y] :=by
      match ys,hly with
      | [y],_ => exact ⟨y,rfl⟩
    have hcy :=hry 0 y rfl
    simp only [Nat.add_zero] at hcy
    have hs :=nat_mulAddWW w s sx n0 c m cx y 0 xs hc hcc a6 a1 a7 (by unfold Big at *;omega) (hlty y (by simp)) (by decide) dx.sep
    unfold Big at *
    have hm1 : ((m : Int) == 0) = false :=by simp;omega
    go_enter Tryz.func128,Tryz.ntmps128
    go_wp2_with (go_at_call 148;refine hs.mono ?_;rintro e w1 ⟨s',n',c',rfl,hg⟩)
    first | go_ret | refine ⟨_,results_tmp rfl _ _ _,?_⟩
    refine ⟨s',n',c',rfl,?_⟩
    simpa [val] using hg
  · obtain ⟨m,rfl⟩ : ∃ k,m = k + 1 :=⟨m - 1,by omega⟩
    obtain ⟨n,rfl⟩ : ∃ k,n = k + 1 :=⟨n - 1,by omega⟩
    have al1 :=alias_dis w s sx n0 c (m + 1) cx hc hx.ok.1 hcc hx.ok.2.1 dx.symm
    have al2 :=alias_dis w.drew s sy n0 c (n + 1) cy hc.drew hy.drew.ok.1 hcc hy.ok.2.1 dy.symm
    have hmk :=nat_make w.drew.drew s n0 c (m + 1 + (n + 1)) hc.drew.drew (by omega) (by unfold Big at *;omega)
    obtain ⟨bx,ox,xs,rfl,hrx,hlx,hltx,-,rfl,hwx,nfx,hx1,hx2,hbx⟩ :=hx.open
    obtain ⟨by',oy,ys,rfl,hry,hly,hlty,-,rfl,hwy,nfy,hy1,hy2,hby⟩ :=hy.open
    clear hx hy
    unfold Big at hm hcc hx2 hy2
    have h40 : decide ((n + 1 : Int) < 40) = true :=by simp;omega
    have hm0 : ((m : Int) + 1 == 0) = false :=by simp;omega
    have hn0 : ((n : Int) + 1 == 0) = false :=by simp;omega
    have hn1 : ((n : Int) + 1 == 1) = false :=by simp;omega
    go_enter Tryz.func128,Tryz.ntmps128
    go_wp2_with (first
      | (go_at_call 142;first | ((with_reducible refine al1.mono ?_);rintro e w' ⟨rfl,hw'⟩;rw [hw'];clear hw') | ((with_reducible refine al2.mono ?_);rintro e w' ⟨rfl,hw'⟩;rw [hw'];clear hw'))
      | (go_at_call 134;refine hmk.mono ?_;rintro e w1 ⟨s',c',rfl,h1,h2,h3,h4,h5⟩;obtain ⟨b,o,rfl,hw,hf,hb⟩ :=h3.pos (by omega);have gk :=(hg.kept h5.of_drew.of_drew).karT)
      | (go_at_call 143;refine (basicMul w1 b o bx ox by' oy (m + 1) (n + 1) c' cx cy xs ys (by omega) (by unfold Big;omega) (by unfold Big;omega) (hrx.keep h5.of_drew.of_drew) (.inr (hry.keep h5.of_drew.of_drew)) hlx hly hltx hlty (fun j hj => hw j (by omega)) (by omega) (by omega) (dx.ne h4 hbx) (dy.ne h4 hby)).mono ?_;rintro e w2 ⟨zs,rfl,g1,g2,g3,g4,g5⟩)
      | (go_at_call 106;refine (nat_norm _ _ (m + 1 + (n + 1)) c' zs (.inr ⟨b,o,rfl,g2⟩) g1 (by omega) h1).mono ?_;rintro e w3 ⟨rfl,hw3⟩;rw [hw3];clear hw3))
    first | go_ret | refine ⟨_,results_tmp rfl _ _ _,?_⟩
    refine ⟨_,_,c',rfl,trim_nat (by omega) (by unfold Big at *;omega) (by unfold Big;omega) (h3.chg g5) (.inr ⟨b,o,rfl,g2⟩) g3 g4,h4,?_⟩
    exact (h5.of_drew.of_drew.any (Blk s)).fr h4 rfl g5 fun _ _ h => h.1
theorem nat_mul (w : World) (stk : Value) (s sx sy : Option Addr) (n0 c m n cx cy X Y : Nat) (hg : Glob w) (hc : SlOk w s c) (hcc : c ≤ (8388607 * Big + 1099511627775)) (hx : NatAt w sx m cx X) (hy : NatAt w sy n cy Y)
    (hm : m < 40) (hn : n < 40) (dx : Dis sx s) (dy : Dis sy s) :
    Calls Tryz.prog 128 #[.slice s n0 c,stk,.slice sx m cx,.slice sy n cy] w (GotNat w s c (X * Y)) :=by
  by_cases h : n ≤ m
  · exact nat_mul_ge w stk s sx sy n0 c m n cx cy X Y hg hc hcc hx hy h (by unfold Big;omega) hn dx dy
  · have hs :=nat_mul_ge w stk s sy sx n0 c n m cy cx Y X hg hc hcc hy hx (by omega) (by unfold Big;omega) hm dy dx
    go_enter Tryz.func128,Tryz.ntmps128
    go_wp2_with (go_at_call 128;refine hs.mono ?_;rintro e w1 ⟨s',n',c',rfl,hg⟩)
    first | go_ret | refine ⟨_,results_tmp rfl _ _ _,?_⟩
    rw [Nat.mul_comm Y X] at hg
    exact ⟨s',n',c',rfl,hg⟩
theorem Row.two {w : World} {b o : Nat} {u0 u1 : Value} (x y : Nat) (h0 : w.cell? ⟨b,o,none⟩ = some u0) (h1 : w.cell? ⟨b,o + 1,none⟩ = some u1) :
    Row .u64 ((w.setCell ⟨b,o + 1,none⟩ (.int .u64 y)).setCell ⟨b,o,none⟩ (.int .u64 x)) b o [x,y] :=fun j z hj => by
  match j,hj with
  | 0,hj =>
    simp at hj;subst hj
    exact cell_setCell_eq ((cell_setCell_ne (by omega)).trans h0)
  | 1,hj =>
    simp at hj;subst hj
    exact (cell_setCell_ne (by omega)).trans (cell_setCell_eq h1)
theorem val_two (B a b : Nat) : val B [a,b] = a + B * b :=by simp [val]
theorem nat_sqr (w : World) (stk : Value) (s sx : Option Addr) (n0 c n cx X : Nat) (hg : Glob w) (hc : SlOk w s c) (hcc : c ≤ (8388607 * Big + 1099511627775)) (hx : NatAt w sx n cx X) (hn : n < 12) (dx : Dis sx s) :
    Calls Tryz.prog 127 #[.slice s n0 c,stk,.slice sx n cx] w (GotNat w s c (X * X)) :=by
  rcases (by omega : n = 0 ∨ n = 1 ∨ 1 < n) with h0 | h1 | h2
  · subst h0
    obtain rfl :=hx.zero
    unfold Big at *
    go_enter Tryz.func127,Tryz.ntmps127
    go_wp2
    first | go_ret | refine ⟨_,results_tmp rfl _ _ _,?_⟩
    exact ⟨s,0,c,rfl,sliceNil_nat hc (by unfold Big;omega),.inl ⟨rfl,rfl⟩,Chg.refl _ _⟩
  · subst h1
    have hmk :=nat_make w s n0 c 2 hc (by unfold Big;omega) (by unfold Big at *;omega)
    obtain ⟨by',oy,ys,rfl,hry,hly,hlty,-,rfl,hwy,nfy,hy1,hy2,hby⟩ :=NatAt.open (n :=0) hx
    obtain ⟨y,rfl⟩ : ∃ y,ys = [y] :=by
      match ys,hly with
      | [y],_ => exact ⟨y,rfl⟩
    have hcy :=hry 0 y rfl
    simp only [Nat.add_zero] at hcy
    have hyl : y < 18446744073709551616 :=hlty y (by simp)
    have hmw :=mulWW y y hyl hyl
    have hq : y * y / W64 < W64 :=Nat.div_lt_of_lt_mul (Nat.mul_lt_mul'' hyl hyl)
    have hr : y * y % W64 < W64 :=Nat.mod_lt _ (by decide)
    have hv : y * y % W64 + W64 * (y * y / W64) = y * y :=Nat.mod_add_div _ _
    unfold Big W64 at *
    generalize y * y / 18446744073709551616 = q at *
    generalize y * y % 18446744073709551616 = r at *
    go_enter Tryz.func127,Tryz.ntmps127
    go_wp2_with (first
      | (go_at_call 134;refine hmk.mono ?_;rintro e w1 ⟨s',c',rfl,h1,h2,h3,h4,h5⟩;obtain ⟨b,o,rfl,hw,hf,hb⟩ :=h3.pos (by omega);obtain ⟨⟨u0,hu0⟩,hz0⟩ :=hw 0 (by omega);obtain ⟨⟨u1,hu1⟩,hz1⟩ :=hw 1 (by omega);simp only [Nat.add_zero] at hu0 hz0;have hne : ¬ (b = b ∧ o = o + 1) :=(by omega);have hu0' :=(cell_setCell_ne (w :=w1) (v :=.int .u64 q) hne).trans hu0;have hz0' :=(frozen_setCell w1 b o b (o + 1) (.int .u64 q)).trans hz0)
      | (go_at_call 141;refine (hmw _).mono ?_;rintro e w' ⟨rfl,hw'⟩;rw [hw'];clear hw')
      | (go_at_call 106;have hrow :=Row.two r q hu0 hu1;refine (nat_norm _ _ 2 c' [r,q] (.inr ⟨b,o,rfl,hrow⟩) rfl (by omega) h1).mono ?_;rintro e w3 ⟨rfl,hw3⟩;rw [hw3];clear hw3))
    first | go_ret | refine ⟨_,results_tmp rfl _ _ _,?_⟩
    have s1 :=Chg.setCell w1 b (o + 1) (.int .u64 q) (fun b' _ => b' = b) fun _ => rfl
    have s2 :=Chg.setCell (w1.setCell ⟨b,o + 1,none⟩ (.int .u64 q)) b o (.int .u64 r) (fun b' _ => b' = b) fun _ => rfl
    refine ⟨_,_,c',rfl,trim_nat (by simpa using h1) (by unfold Big;omega) (by simp [Big]) ((h3.chg s1).chg s2) (.inr ⟨b,o,rfl,hrow⟩) ?_ (by rw [val_two];simpa [val] using hv),h4,?_⟩
    · intro z hz
      simp at hz
      unfold W64
      rcases hz with rfl | rfl
      · exact hr
      · exact hq
    · exact ((h5.any (Blk s)).fr h4 rfl s1 fun _ _ h => h).fr h4 rfl s2 fun _ _ h => h
  · obtain ⟨n,rfl⟩ : ∃ k,n = k + 1 :=⟨n - 1,by omega⟩
    have al :=alias_dis w s sx n0 c (n + 1) cx hc hx.ok.1 hcc hx.ok.2.1 dx.symm
    have hmk :=nat_make w.drew s n0 c (2 * (n + 1)) hc.drew (by unfold Big;omega) (by unfold Big at *;omega)
    rw [show 2 * (n + 1) = n + 1 + (n + 1) by omega] at hmk
    obtain ⟨bx,ox,xs,rfl,hrx,hlx,hltx,-,rfl,hwx,nfx,hx1,hx2,hbx⟩ :=hx.open
    clear hx
    unfold Big at hcc hx2
    have h40 : decide ((n + 1 : Int) < 12) = true :=by simp;omega
    have h80 : decide ((n + 1 : Int) < 80) = true :=by simp;omega
    have hn0 : ((n : Int) + 1 == 0) = false :=by simp;omega
    have hn1 : ((n : Int) + 1 == 1) = false :=by simp;omega
    have e2 : (2 * ((n : Int) + 1)) = ((n + 1 + (n + 1) : Nat) : Int) :=by omega
    go_enter Tryz.func127,Tryz.ntmps127
    go_wp2_with (first
      | (go_at_call 142;refine al.mono ?_;rintro e w' ⟨rfl,hw'⟩;rw [hw'];clear hw')
      | (go_at_call 134;refine hmk.mono ?_;rintro e w1 ⟨s',c',rfl,h1,h2,h3,h4,h5⟩;obtain ⟨b,o,rfl,hw,hf,hb⟩ :=h3.pos (by omega);have gk :=(hg.kept h5.of_drew).sqrT;have gk2 :=(hg.kept h5.of_drew).ksqT)
      | (go_at_call 143;refine (basicMul w1 b o bx ox bx ox (n + 1) (n + 1) c' cx cx xs xs (by omega) (by unfold Big;omega) (by unfold Big;omega) (hrx.keep h5.of_drew) (.inr (hrx.keep h5.of_drew)) hlx hlx hltx hltx (fun j hj => hw j (by omega)) (by omega) (by omega) (dx.ne h4 hbx) (dx.ne h4 hbx)).mono ?_;rintro e w2 ⟨zs,rfl,g1,g2,g3,g4,g5⟩)
      | (go_at_call 106;refine (nat_norm _ _ (n + 1 + (n + 1)) c' zs (.inr ⟨b,o,rfl,g2⟩) g1 (by omega) h1).mono ?_;rintro e w3 ⟨rfl,hw3⟩;rw [hw3];clear hw3))
    first | go_ret | refine ⟨_,results_tmp rfl _ _ _,?_⟩
    refine ⟨_,_,c',rfl,trim_nat (by omega) (by unfold Big at *;omega) (by unfold Big;omega) (h3.chg g5) (.inr ⟨b,o,rfl,g2⟩) g3 g4,h4,?_⟩
    exact (h5.of_drew.any (Blk s)).fr h4 rfl g5 fun _ _ h => h.1
end Go.Proofs.YtfmmdamgcpiciaaGreatDoor
namespace Go.Proofs.YtfmmdamgcpiciaaGreatDoor
open Go Go.RowKit
structure IntA (w : World) (b : Nat) (s : Option Addr) (n c : Nat) (X : Int) : Prop where
  neg : w.cell? ⟨b,0,none⟩ = some (.bool (decide (X < 0)))
  abs : w.cell? ⟨b,1,none⟩ = some (.slice s n c)
  nat : NatAt w s n c X.natAbs
  nf : NF w b
  sep : ∀ a,s = some a → a.block ≠ b
def IntAt (w : World) (b : Nat) (X : Int) : Prop :=∃ s n c,IntA w b s n c X
def IntN (w0 w : World) (b : Nat) (X : Int) : Prop :=∃ s n c,IntA w b s n c X ∧ w0.heap.size ≤ b ∧ ∀ a,s = some a → w0.heap.size ≤ a.block
structure ZeroInt (w : World) (b : Nat) : Prop where
  neg : w.cell? ⟨b,0,none⟩ = some (.bool false)
  abs : w.cell? ⟨b,1,none⟩ = some (.slice none 0 0)
  nf : NF w b
abbrev ptr (b : Nat) : Value :=.pointer (some ⟨b,0,none⟩)
abbrev W39 : Nat :=W64 ^ 39
theorem IntA.chg {w w' : World} {M : Nat → Nat → Prop} {b : Nat} {s : Option Addr} {n c : Nat} {X : Int} (h : IntA w b s n c X) (hc : Chg w w' M) (hb : ∀ o,¬ M b o) (hs : ∀ b o,s = some ⟨b,o,none⟩ → ∀ o',¬ M b o') : IntA w' b s n c X :=
  ⟨(hc.cell b 0 (lt_of_cell h.neg) (hb 0)).trans h.neg,(hc.cell b 1 (lt_of_cell h.abs) (hb 1)).trans h.abs,h.nat.chg hc hs,h.nf.chg (lt_of_cell h.neg) hc,h.sep⟩
theorem IntA.kept {w w' : World} {b : Nat} {s : Option Addr} {n c : Nat} {X : Int} (h : IntA w b s n c X) (hc : Kept w w') : IntA w' b s n c X :=h.chg hc (fun _ x => x) fun _ _ _ _ x => x
theorem IntAt.kept {w w' : World} {b : Nat} {X : Int} (h : IntAt w b X) (hc : Kept w w') : IntAt w' b X :=by
  obtain ⟨s,n,c,h⟩ :=h
  exact ⟨s,n,c,h.kept hc⟩
theorem IntAt.lt {w : World} {b : Nat} {X : Int} (h : IntAt w b X) : b < w.heap.size :=by
  obtain ⟨s,n,c,h⟩ :=h
  exact lt_of_cell h.neg
theorem IntN.at {w0 w : World} {b : Nat} {X : Int} (h : IntN w0 w b X) : IntAt w b X :=by
  obtain ⟨s,n,c,h,_⟩ :=h
  exact ⟨s,n,c,h⟩
theorem IntN.kept {w0 w w' : World} {b : Nat} {X : Int} (h : IntN w0 w b X) (hc : Kept w w') : IntN w0 w' b X :=by
  obtain ⟨s,n,c,h,h2⟩ :=h
  exact ⟨s,n,c,h.kept hc,h2⟩
theorem IntN.older {w0 w1 w : World} {b : Nat} {X : Int} (h : IntN w1 w b X) (hc : w0.heap.size ≤ w1.heap.size) : IntN w0 w b X :=by
  obtain ⟨s,n,c,h,h2,h3⟩ :=h
  exact ⟨s,n,c,h,Nat.le_trans hc h2,fun a ha => Nat.le_trans hc (h3 a ha)⟩
theorem IntN.ge {w0 w : World} {b : Nat} {X : Int} (h : IntN w0 w b X) : w0.heap.size ≤ b :=by
  obtain ⟨s,n,c,h,h2,h3⟩ :=h
  exact h2
theorem ZeroInt.kept {w w' : World} {b : Nat} (h : ZeroInt w b) (hc : Kept w w') : ZeroInt w' b :=
  ⟨(hc.cell b 0 (lt_of_cell h.neg) (fun x => x)).trans h.neg,(hc.cell b 1 (lt_of_cell h.abs) (fun x => x)).trans h.abs,h.nf.chg (lt_of_cell h.neg) hc⟩
theorem ZeroInt.made (w : World) : ZeroInt (w.alloc (.cells #[.bool false,.slice none 0 0] 112)) w.heap.size :=
  ⟨by rw [World.cell?_alloc_at _ _ _ _ rfl];rfl,by rw [World.cell?_alloc_at _ _ _ _ rfl];rfl,NF.made w _ _⟩
theorem NatAt.len_lt {w : World} {s : Option Addr} {n c X k : Nat} (h : NatAt w s n c X) (hX : X < W64 ^ k) : n ≤ k :=by
  obtain ⟨xs,a1,_,_,_,_,_,_,a8,rfl⟩ :=h
  cases n with
  | zero => omega
  | succ n => exact (Nat.pow_lt_pow_iff_right (a :=W64) (by decide)).1 (Nat.lt_of_le_of_lt (a8.le (B :=W64) a1) hX)
theorem Chg.keptNew {w0 w w' : World} {M : Nat → Nat → Prop} (h : Kept w0 w) (k : Chg w w' M) (hm : ∀ b o,M b o → w0.heap.size ≤ b) : Kept w0 w' :=
  h.trans k fun b o hb hM => by
    have :=hm b o hM
    exact absurd hb (by omega)
theorem Blk.none {b o : Nat} : ¬ Blk none b o :=fun ⟨_,h⟩ => by cases h
theorem Blk.old {w0 : World} {s : Option Addr} (h : ∀ a,s = some a → w0.heap.size ≤ a.block) {b o : Nat} (hb : Blk s b o) : w0.heap.size ≤ b :=by
  obtain ⟨o',h'⟩ :=hb
  exact h _ h'
theorem Fr.new {w0 w : World} {s s' : Option Addr} {c c' : Nat} (h : Fr w s c s' c') (hs : ∀ a,s = some a → w0.heap.size ≤ a.block) (hw : w0.heap.size ≤ w.heap.size) : ∀ a,s' = some a → w0.heap.size ≤ a.block :=by
  rcases h with ⟨rfl,_⟩ | ⟨b,rfl,hb⟩
  · exact hs
  · intro a ha
    simp only [Option.some.injEq] at ha
    subst ha
    exact Nat.le_trans hw hb
theorem info112 : ∃ i,Tryz.prog.info? 112 = some i ∧ i.size ≠ 0 :=by
  have h : (Tryz.prog.info? 112).map (fun i => (i.zero,i.size,i.bytes)) = some (some (.agg #[.bool false,.slice none 0 0]),2,32) :=by kernel_rfl
  obtain ⟨i0,hi,_,hz1,_⟩ :=info_parts h
  exact ⟨i0,hi,by omega⟩
theorem ptrRun53 (w : World) (b1 b2 : Nat) {v1 v2 : Value} (h1 : w.cell? ⟨b1,0,none⟩ = some v1) (h2 : w.cell? ⟨b2,0,none⟩ = some v2) (n1 : NF w b1) (n2 : NF w b2) :
    (binOp .eql 53 (ptr b1) (ptr b2)).run Tryz.prog w = .ok (.bool (decide (b1 = b2 ∧ 0 = 0))) w ∧
    (binOp .neq 53 (ptr b1) (ptr b2)).run Tryz.prog w = .ok (.bool (!decide (b1 = b2 ∧ 0 = 0))) w :=by
  obtain ⟨i,hi,hz⟩ :=info112
  exact run_ptr Tryz.prog w 53 112 Tryz.underlying53 i hi hz b1 0 b2 0 h1 h2 n1 n2
theorem cs_ne {w : World} {b o b' o' : Nat} {v u : Value} (h : w.cell? ⟨b,o,none⟩ = some v) (hne : ¬ (b = b' ∧ o = o')) : (w.setCell ⟨b',o',none⟩ u).cell? ⟨b,o,none⟩ = some v :=(cell_setCell_ne hne).trans h
theorem Chg.at {w w' : World} {M : Nat → Nat → Prop} {b o : Nat} {v : Value} (h : Chg w w' M) (hc : w.cell? ⟨b,o,none⟩ = some v) (hm : ¬ M b o) : w'.cell? ⟨b,o,none⟩ = some v :=(h.cell b o (lt_of_cell hc) hm).trans hc
theorem Chg.noneK {w w' : World} (h : Chg w w' (Blk Option.none)) : Kept w w' :=h.mono fun _ _ _ h => Blk.none h
theorem Kept.at {w w' : World} {b o : Nat} {v : Value} (h : Kept w w') (hc : w.cell? ⟨b,o,none⟩ = some v) : w'.cell? ⟨b,o,none⟩ = some v :=Chg.at h hc fun x => x
theorem int_done {w0 w w1 : World} {bz : Nat} {s : Option Addr} {n c : Nat} {X : Int} (v : Bool) (hv : v = decide (X < 0)) (hk : Kept w0 w) (hb : w0.heap.size ≤ bz) (hz : ZeroInt w bz) (k1 : NatAt w1 s n c X.natAbs) (k2 : Fr w Option.none 0 s c) (k3 : Kept w w1) :
    IntN w0 ((w1.setCell ⟨bz,1,none⟩ (.slice s n c)).setCell ⟨bz,0,none⟩ (.bool v)) bz X ∧ Kept w0 ((w1.setCell ⟨bz,1,none⟩ (.slice s n c)).setCell ⟨bz,0,none⟩ (.bool v)) :=by
  subst hv
  obtain ⟨z0,z1,zf⟩ :=hz.kept k3
  have c1 :=Chg.setCell w1 bz 1 (.slice s n c) (fun b _ => b = bz) fun _ => rfl
  have c2 :=Chg.setCell (w1.setCell ⟨bz,1,none⟩ (.slice s n c)) bz 0 (.bool (decide (X < 0))) (fun b _ => b = bz) fun _ => rfl
  have hs : ∀ a,s = some a → a.block ≠ bz :=by
    rcases k2 with ⟨rfl,_⟩ | ⟨b,rfl,h⟩
    · intro a ha;cases ha
    · intro a ha
      simp only [Option.some.injEq] at ha
      subst ha
      have :=lt_of_cell hz.neg
      show b ≠ bz
      omega
  refine ⟨⟨s,n,c,⟨?_,?_,?_,?_,hs⟩,hb,k2.new (fun a ha => by cases ha) hk.size⟩,?_⟩
  · exact cell_setCell_eq ((cell_setCell_ne (by omega)).trans z0)
  · exact (cell_setCell_ne (by omega)).trans (cell_setCell_eq z1)
  · exact (k1.chg c1 (fun b o h o' e => hs _ h e)).chg c2 (fun b o h o' e => hs _ h e)
  · exact (zf.chg (lt_of_cell z0) c1).chg (by have :=c1.size;have :=lt_of_cell z0;omega) c2
  · exact ((hk.trans k3 fun _ _ _ x => x).keptNew c1 (fun b o e => by omega)).keptNew c2 (fun b o e => by omega)
theorem int_resign {w0 w : World} {b : Nat} {s : Option Addr} {n c : Nat} {X Y : Int} (v : Bool) (hv : v = decide (Y < 0)) (h : IntA w b s n c X) (hn : Y.natAbs = X.natAbs) (h2 : w0.heap.size ≤ b) (h3 : ∀ a,s = some a → w0.heap.size ≤ a.block) (hk : Kept w0 w) :
    IntN w0 (w.setCell ⟨b,0,none⟩ (.bool v)) b Y ∧ Kept w0 (w.setCell ⟨b,0,none⟩ (.bool v)) :=by
  subst hv
  have c1 :=Chg.setCell w b 0 (.bool (decide (Y < 0))) (fun b' _ => b' = b) fun _ => rfl
  refine ⟨⟨s,n,c,⟨cell_setCell_eq h.neg,(cell_setCell_ne (by omega)).trans h.abs,by rw [hn];exact h.nat.chg c1 (fun b o h' o' e => h.sep _ h' e),h.nf.chg (lt_of_cell h.neg) c1,h.sep⟩,h2,h3⟩,hk.keptNew c1 (fun b o e => by omega)⟩
theorem int_sign (w : World) (b : Nat) (X : Int) (h : IntAt w b X) : Calls Tryz.prog 95 #[ptr b] w fun e w' => e = .returned (.int .i64 (Int.sign X)) ∧ w' = w :=by
  obtain ⟨s,n,c,h⟩ :=h
  have h1 :=h.neg
  have h2 :=h.abs
  have h3 :=h.nat.eq_zero
  have h4 :=h.nat.ok.2.2.1
  unfold Big at h4
  rcases Int.lt_trichotomy X 0 with hX | rfl | hX
  · have hn : ((n : Int) == 0) = false :=by simp;omega
    have hs : Int.sign X = -1 :=Int.sign_eq_neg_one_of_neg hX
    have hd : decide (X < 0) = true :=by simpa using hX
    rw [hs]
    rw [hd] at h1
    clear hd hs h h3 h4 hX
    go_enter Tryz.func95,Tryz.ntmps95
    go_wp2
    first | go_ret | refine ⟨_,results_tmp rfl _ _ _,?_⟩
    exact ⟨rfl,rfl⟩
  · have hn : n = 0 :=by omega
    subst hn
    go_enter Tryz.func95,Tryz.ntmps95
    go_wp2
    first | go_ret | refine ⟨_,results_tmp rfl _ _ _,?_⟩
    exact ⟨rfl,rfl⟩
  · have hn : ((n : Int) == 0) = false :=by simp;omega
    have hs : Int.sign X = 1 :=Int.sign_eq_one_of_pos hX
    have hd : decide (X < 0) = false :=by simp;omega
    rw [hs]
    rw [hd] at h1
    clear hd hs h h3 h4 hX
    go_enter Tryz.func95,Tryz.ntmps95
    go_wp2
    first | go_ret | refine ⟨_,results_tmp rfl _ _ _,?_⟩
    exact ⟨rfl,rfl⟩
theorem int_set (w0 w : World) (hk : Kept w0 w) (bz bx : Nat) (hb : w0.heap.size ≤ bz) (hz : ZeroInt w bz) (X : Int) (hx : IntAt w bx X) (hxb : bx ≠ bz) :
    Calls Tryz.prog 107 #[ptr bz,ptr bx] w fun e w' => e = .returned (ptr bz) ∧ IntN w0 w' bz X ∧ Kept w0 w' :=by
  obtain ⟨s,n,c,hx⟩ :=hx
  have hne : (Bool.not (decide (bz = bx ∧ 0 = 0))) = true :=by simp;exact fun e => hxb e.symm
  have hp :=(ptrRun53 w bz bx hz.neg hx.neg hz.nf hx.nf).2
  rw [hne] at hp
  have hs :=nat_set' w.drew none s 0 0 n c X.natAbs (.inl ⟨rfl,rfl⟩) (by omega) hx.nat.drew
  have x0 :=hx.neg
  have x1 :=hx.abs
  have z0 :=hz.neg
  have z1 :=hz.abs
  have f0 :=hz.nf 0
  have f1 :=hz.nf 1
  clear hne
  go_enter Tryz.func107,Tryz.ntmps107
  go_wp2_with (first
    | (refine wp_region_lit_segs (id :=2) [[0,1,2,3,4,5,6,7,8,9,10,11,12]] mixed (by kernel_rfl) ?_;simp only [wpSegsL,gaC,gaN,lZ0,lS0,coS])
    | refine ⟨by kernel_rfl,?_⟩
    | (go_at_call 126;refine hs.mono ?_;rintro e w1 ⟨s',n',c',rfl,k1,k2,k3⟩;have k3 :=k3.of_drew.noneK;obtain ⟨z0',z1',zf'⟩ :=hz.kept k3;have f0' :=zf' 0;have f1' :=zf' 1;have x2 :=cs_ne (u :=.slice s' n' c') (k3.at x0) (b' :=bz) (o' :=1) (by omega)))
  first | go_ret | refine ⟨_,results_tmp rfl _ _ _,?_⟩
  exact ⟨rfl,int_done _ rfl hk hb hz k1 k2 k3⟩
theorem int_abs (w0 w : World) (hk : Kept w0 w) (bz bx : Nat) (hb : w0.heap.size ≤ bz) (hz : ZeroInt w bz) (X : Int) (hx : IntAt w bx X) (hxb : bx ≠ bz) :
    Calls Tryz.prog 87 #[ptr bz,ptr bx] w fun e w' => e = .returned (ptr bz) ∧ IntN w0 w' bz X.natAbs ∧ Kept w0 w' :=by
  have hs :=int_set w0 w hk bz bx hb hz X hx hxb
  go_enter Tryz.func87,Tryz.ntmps87
  go_wp2_with (go_at_call 107;refine hs.mono ?_;rintro e w1 ⟨rfl,⟨s',n',c',k1,k2,k3⟩,k4⟩;have z0' :=k1.neg;have f0' :=k1.nf 0)
  first | go_ret | refine ⟨_,results_tmp rfl _ _ _,?_⟩
  exact ⟨rfl,int_resign false (by simp) k1 (by simp) k2 k3 k4⟩
theorem int_neg (w0 w : World) (hk : Kept w0 w) (bz bx : Nat) (hb : w0.heap.size ≤ bz) (hz : ZeroInt w bz) (X : Int) (hx : IntAt w bx X) (hxb : bx ≠ bz) :
    Calls Tryz.prog 86 #[ptr bz,ptr bx] w fun e w' => e = .returned (ptr bz) ∧ IntN w0 w' bz (-X) ∧ Kept w0 w' :=by
  have hs :=int_set w0 w hk bz bx hb hz X hx hxb
  by_cases h0 : X = 0
  · subst h0
    go_enter Tryz.func86,Tryz.ntmps86
    go_wp2_with (go_at_call 107;refine hs.mono ?_;rintro e w1 ⟨rfl,⟨s',n',c',k1,k2,k3⟩,k4⟩;have z0' :=k1.neg;have z1' :=k1.abs;have f0' :=k1.nf 0;obtain rfl : n' = 0 :=k1.nat.eq_zero.1 rfl)
    first | go_ret | refine ⟨_,results_tmp rfl _ _ _,?_⟩
    exact ⟨rfl,int_resign false (by simp) k1 (by simp) k2 k3 k4⟩
  · go_enter Tryz.func86,Tryz.ntmps86
    go_wp2_with (go_at_call 107;refine hs.mono ?_;rintro e w1 ⟨rfl,⟨s',n',c',k1,k2,k3⟩,k4⟩;have z0' :=k1.neg;have z1' :=k1.abs;have f0' :=k1.nf 0;have hn0 : ¬ n' = 0 :=(fun h => h0 (by have :=k1.nat.eq_zero.2 h;omega));obtain ⟨n',rfl⟩ : ∃ m,n' = m + 1 :=⟨n' - 1,by omega⟩)
    first | go_ret | refine ⟨_,results_tmp rfl _ _ _,?_⟩
    exact ⟨rfl,int_resign _ (by rw [Bool.eq_iff_iff];simp;omega) k1 (by simp) k2 k3 k4⟩
end Go.Proofs.YtfmmdamgcpiciaaGreatDoor
namespace Go.Proofs.YtfmmdamgcpiciaaGreatDoor
open Go Go.RowKit
structure Recv (w0 w : World) (b : Nat) (s : Option Addr) (n c : Nat) : Prop where
  neg : ∃ v,w.cell? ⟨b,0,none⟩ = some v
  abs : w.cell? ⟨b,1,none⟩ = some (.slice s n c)
  ok : SlOk w s c
  le : c ≤ (8388607 * Big + 1099511627775)
  nf : NF w b
  sep : ∀ a,s = some a → a.block ≠ b
  new : w0.heap.size ≤ b
  newS : ∀ a,s = some a → w0.heap.size ≤ a.block
  kept : Kept w0 w
theorem IntN.recv {w0 w : World} {b : Nat} {X : Int} (h : IntN w0 w b X) (hk : Kept w0 w) : ∃ s n c,Recv w0 w b s n c ∧ IntA w b s n c X :=by
  obtain ⟨s,n,c,h,h2,h3⟩ :=h
  exact ⟨s,n,c,⟨⟨_,h.neg⟩,h.abs,h.nat.ok.1,h.nat.ok.2.1,h.nf,h.sep,h2,h3,hk⟩,h⟩
theorem ZeroInt.recv {w0 w : World} {b : Nat} (h : ZeroInt w b) (hb : w0.heap.size ≤ b) (hk : Kept w0 w) : Recv w0 w b none 0 0 :=
  ⟨⟨_,h.neg⟩,h.abs,.inl ⟨rfl,rfl⟩,by omega,h.nf,(fun a h => by cases h),hb,(fun a h => by cases h),hk⟩
theorem IntA.lt {w : World} {b : Nat} {s : Option Addr} {n c : Nat} {X : Int} (h : IntA w b s n c X) : ∀ a,s = some a → a.block < w.heap.size :=by
  intro a ha
  rcases h.nat.ok.1 with ⟨h1,_⟩ | ⟨b',o',h1,_,_,h2⟩
  · rw [h1] at ha;cases ha
  · rw [h1] at ha
    simp only [Option.some.injEq] at ha
    subst ha
    exact h2
theorem Recv.dis {w0 w : World} {b bx : Nat} {s sx : Option Addr} {n c nx cx : Nat} {X : Int} (h : Recv w0 w b s n c) (hx : IntA w0 bx sx nx cx X) : Dis sx s ∧ bx ≠ b :=by
  refine ⟨fun a a' h1 h2 e => ?_,fun e => ?_⟩
  · have :=hx.lt a h1
    have :=h.newS a' h2
    omega
  · have :=lt_of_cell hx.neg
    have :=h.new
    omega
def RDone (w0 w w' : World) (bz : Nat) (sz : Option Addr) (X : Int) : Prop :=IntN w0 w' bz X ∧ Kept w0 w' ∧ Chg w w' fun b o => b = bz ∨ Blk sz b o
theorem recv_done {w0 w w1 : World} {bz : Nat} {sz s : Option Addr} {nz cz n c : Nat} {X : Int} (v : Bool) (hv : v = decide (X < 0)) (hz : Recv w0 w bz sz nz cz) (k1 : NatAt w1 s n c X.natAbs) (k2 : Fr w sz cz s c) (k3 : Chg w w1 (Blk sz)) :
    RDone w0 w ((w1.setCell ⟨bz,1,none⟩ (.slice s n c)).setCell ⟨bz,0,none⟩ (.bool v)) bz sz X :=by
  subst hv
  have nb : ∀ o,¬ Blk sz bz o :=fun o ⟨o',h⟩ => hz.sep _ h rfl
  obtain ⟨u,hu⟩ :=hz.neg
  have z0 :=k3.at hu (nb 0)
  have z1 :=k3.at hz.abs (nb 1)
  have hlt :=lt_of_cell hu
  have zf :=hz.nf.chg hlt k3
  have c1 :=Chg.setCell w1 bz 1 (.slice s n c) (fun b _ => b = bz) fun _ => rfl
  have c2 :=Chg.setCell (w1.setCell ⟨bz,1,none⟩ (.slice s n c)) bz 0 (.bool (decide (X < 0))) (fun b _ => b = bz) fun _ => rfl
  have hs : ∀ a,s = some a → a.block ≠ bz :=by
    rcases k2 with ⟨rfl,_⟩ | ⟨b,rfl,h⟩
    · exact hz.sep
    · intro a ha
      simp only [Option.some.injEq] at ha
      subst ha
      show b ≠ bz
      omega
  have hk :=hz.kept
  refine ⟨⟨s,n,c,⟨?_,?_,?_,?_,hs⟩,hz.new,k2.new hz.newS hk.size⟩,?_,?_⟩
  · exact cell_setCell_eq ((cell_setCell_ne (by omega)).trans z0)
  · exact (cell_setCell_ne (by omega)).trans (cell_setCell_eq z1)
  · exact (k1.chg c1 (fun b o h o' e => hs _ h e)).chg c2 (fun b o h o' e => hs _ h e)
  · exact (zf.chg (lt_of_cell z0) c1).chg (by have :=c1.size;have :=lt_of_cell z0;omega) c2
  · have hn :=hz.new
    exact ((hk.keptNew k3 (fun b o e => Blk.old hz.newS e)).keptNew c1 (fun b o e => by omega)).keptNew c2 (fun b o e => by omega)
  · exact ((k3.mono fun _ _ _ h => .inr h).trans c1 fun _ _ _ h => .inl h).trans c2 fun _ _ _ h => .inl h
theorem Recv.after {w0 w w1 : World} {b : Nat} {s : Option Addr} {n c : Nat} (hz : Recv w0 w b s n c) (k3 : Chg w w1 (Blk s)) : (∃ v,w1.cell? ⟨b,0,none⟩ = some v) ∧ w1.cell? ⟨b,1,none⟩ = some (.slice s n c) ∧ NF w1 b :=by
  have nb : ∀ o,¬ Blk s b o :=fun o ⟨o',h⟩ => hz.sep _ h rfl
  obtain ⟨u,hu⟩ :=hz.neg
  exact ⟨⟨u,k3.at hu (nb 0)⟩,k3.at hz.abs (nb 1),hz.nf.chg (lt_of_cell hu) k3⟩
theorem cmpI_lt {a b : Nat} (h : a < b) : cmpI a b = -1 :=by simp [cmpI,h]
theorem cmpI_ge {a b : Nat} (h : b ≤ a) : 0 ≤ cmpI a b :=by unfold cmpI;repeat' split <;> omega
theorem Fr.mono {w w' : World} {s s' : Option Addr} {c c' : Nat} (h : Fr w' s c s' c') (hs : w.heap.size ≤ w'.heap.size) : Fr w s c s' c' :=by
  rcases h with h | ⟨b,h1,h2⟩
  · exact .inl h
  · exact .inr ⟨b,h1,Nat.le_trans hs h2⟩
theorem int_add_same0 (w0 w : World) (bz bx by' : Nat) (sz sx sy : Option Addr) (nz cz nx cx ny cy : Nat) (X Y : Int) (hz : Recv w0 w bz sz nz cz) (hx : IntA w bx sx nx cx X) (hy : IntA w by' sy ny cy Y) (bX : nx < Big) (bY : ny < Big) (hsx : Sep sx sz) (hsy : Sep sy sz)
    (hs : (decide (X < 0) == decide (Y < 0)) = true) (hN : X.natAbs + Y.natAbs = 0) :
    Calls Tryz.prog 101 #[ptr bz,ptr bx,ptr by'] w fun e w' => e = .returned (ptr bz) ∧ RDone w0 w w' bz sz (X + Y) :=by
  have x0 :=hx.neg
  have x1 :=hx.abs
  have y0 :=hy.neg
  have y1 :=hy.abs
  have z1 :=hz.abs
  obtain ⟨u,z0⟩ :=hz.neg
  have ha :=fun W (hW : Kept w W) => nat_add W sz sx sy nz cz nx ny cx cy X.natAbs Y.natAbs (hz.ok.chg hW) hz.le (hx.nat.kept hW) (hy.nat.kept hW) bX bY hsx hsy
  have HP : Hid (∀ v,v = decide (X + Y < 0) → v = decide (X + Y < 0)) :=Lib.hid fun _ h => h
  have HX : ∃ p,p = decide (X < 0) :=⟨_,rfl⟩
  have HY : ∃ p,p = decide (Y < 0) :=⟨_,rfl⟩
  obtain ⟨p,hp⟩ :=HX
  obtain ⟨q,hq⟩ :=HY
  rw [← hp] at x0 hs
  rw [← hq] at y0 hs
  have HPQ :=Lib.hid (And.intro hp hq)
  have HN :=Lib.hid hN
  clear hp hq hN
  go_enter Tryz.func101,Tryz.ntmps101
  go_wp2_with (first
    | (refine wp_region_lit_segs (id :=2) [[0,1,2,3,4,5,6,7,8]] mixed (by kernel_rfl) ?_;simp only [wpSegsL,gaC,gaN,lZ0,lS0,coS])
    | (refine wp_region_lit_segs (id :=3) [[0,1,2,3,4,5,6,7,8,9,10,11,12,13,14,15,16]] mixed (by kernel_rfl) ?_;simp only [wpSegsL,gaC,gaN,lZ0,lS0,coS])
    | (refine wp_region_lit_segs (id :=4) [[0,1,2,3,4,5,6,7,8,9]] mixed (by kernel_rfl) ?_;simp only [wpSegsL,gaC,gaN,lZ0,lS0,coS])
    | (refine wp_region_lit_segs (id :=5) [[0,1,2,3,4,5,6,7,8,9,10,11,12,13,14,15,16]] mixed (by kernel_rfl) ?_;simp only [wpSegsL,gaC,gaN,lZ0,lS0,coS])
    | (refine wp_region_lit_segs (id :=7) [[0,1,2,3,4,5,6,7,8,9,10,11,12,13,14,15,16]] mixed (by kernel_rfl) ?_;simp only [wpSegsL,gaC,gaN,lZ0,lS0,coS])
    | refine ⟨by kernel_rfl,?_⟩
    | (go_at_call 120;refine (ha _ (Chg.refl _ _).drew.drew).mono ?_;have hN :=HN.out;rintro e w2 ⟨s',n',c',rfl,k1,k2,k3⟩;have k3 :=(k3.of_drew.of_drew);obtain ⟨⟨u',z0'⟩,z1',zf'⟩ :=hz.after k3;have f0' :=zf' 0;have f1' :=zf' 1;have k2 : Fr w sz cz s' c' :=(by exact k2);obtain rfl : n' = 0 :=k1.eq_zero.1 hN;clear hN))
  first | go_ret | refine ⟨_,results_tmp rfl _ _ _,?_⟩
  obtain ⟨hp,hq⟩ :=HPQ.out
  have hN :=HN.out
  subst hp
  subst hq
  have e : (X + Y).natAbs = X.natAbs + Y.natAbs :=by simp at hs;omega
  exact ⟨rfl,recv_done _ (by first | (simp;omega) | (simp at hs;rw [Bool.eq_iff_iff];simp;omega)) hz (by rw [e];exact k1) k2 k3⟩
theorem int_add_same1 (w0 w : World) (bz bx by' : Nat) (sz sx sy : Option Addr) (nz cz nx cx ny cy : Nat) (X Y : Int) (hz : Recv w0 w bz sz nz cz) (hx : IntA w bx sx nx cx X) (hy : IntA w by' sy ny cy Y) (bX : nx < Big) (bY : ny < Big) (hsx : Sep sx sz) (hsy : Sep sy sz)
    (hs : (decide (X < 0) == decide (Y < 0)) = true) (hN : X.natAbs + Y.natAbs ≠ 0) :
    Calls Tryz.prog 101 #[ptr bz,ptr bx,ptr by'] w fun e w' => e = .returned (ptr bz) ∧ RDone w0 w w' bz sz (X + Y) :=by
  have x0 :=hx.neg
  have x1 :=hx.abs
  have y0 :=hy.neg
  have y1 :=hy.abs
  have z1 :=hz.abs
  obtain ⟨u,z0⟩ :=hz.neg
  have ha :=fun W (hW : Kept w W) => nat_add W sz sx sy nz cz nx ny cx cy X.natAbs Y.natAbs (hz.ok.chg hW) hz.le (hx.nat.kept hW) (hy.nat.kept hW) bX bY hsx hsy
  have HP : Hid (∀ v,v = decide (X + Y < 0) → v = decide (X + Y < 0)) :=Lib.hid fun _ h => h
  have HX : ∃ p,p = decide (X < 0) :=⟨_,rfl⟩
  have HY : ∃ p,p = decide (Y < 0) :=⟨_,rfl⟩
  obtain ⟨p,hp⟩ :=HX
  obtain ⟨q,hq⟩ :=HY
  rw [← hp] at x0 hs
  rw [← hq] at y0 hs
  have HPQ :=Lib.hid (And.intro hp hq)
  have HN :=Lib.hid hN
  clear hp hq hN
  go_enter Tryz.func101,Tryz.ntmps101
  go_wp2_with (first
    | (refine wp_region_lit_segs (id :=2) [[0,1,2,3,4,5,6,7,8]] mixed (by kernel_rfl) ?_;simp only [wpSegsL,gaC,gaN,lZ0,lS0,coS])
    | (refine wp_region_lit_segs (id :=3) [[0,1,2,3,4,5,6,7,8,9,10,11,12,13,14,15,16]] mixed (by kernel_rfl) ?_;simp only [wpSegsL,gaC,gaN,lZ0,lS0,coS])
    | (refine wp_region_lit_segs (id :=4) [[0,1,2,3,4,5,6,7,8,9]] mixed (by kernel_rfl) ?_;simp only [wpSegsL,gaC,gaN,lZ0,lS0,coS])
    | (refine wp_region_lit_segs (id :=5) [[0,1,2,3,4,5,6,7,8,9,10,11,12,13,14,15,16]] mixed (by kernel_rfl) ?_;simp only [wpSegsL,gaC,gaN,lZ0,lS0,coS])
    | (refine wp_region_lit_segs (id :=7) [[0,1,2,3,4,5,6,7,8,9,10,11,12,13,14,15,16]] mixed (by kernel_rfl) ?_;simp only [wpSegsL,gaC,gaN,lZ0,lS0,coS])
    | refine ⟨by kernel_rfl,?_⟩
    | (go_at_call 120;refine (ha _ (Chg.refl _ _).drew.drew).mono ?_;have hN :=HN.out;rintro e w2 ⟨s',n',c',rfl,k1,k2,k3⟩;have k3 :=(k3.of_drew.of_drew);obtain ⟨⟨u',z0'⟩,z1',zf'⟩ :=hz.after k3;have f0' :=zf' 0;have f1' :=zf' 1;have k2 : Fr w sz cz s' c' :=(by exact k2);have hn0 : ¬ n' = 0 :=(fun h => hN (k1.eq_zero.2 h));obtain ⟨n',rfl⟩ : ∃ m,n' = m + 1 :=⟨n' - 1,by omega⟩;clear hN))
  first | go_ret | refine ⟨_,results_tmp rfl _ _ _,?_⟩
  obtain ⟨hp,hq⟩ :=HPQ.out
  have hN :=HN.out
  subst hp
  subst hq
  have e : (X + Y).natAbs = X.natAbs + Y.natAbs :=by simp at hs;omega
  exact ⟨rfl,recv_done _ (by first | (simp;omega) | (simp at hs;rw [Bool.eq_iff_iff];simp;omega)) hz (by rw [e];exact k1) k2 k3⟩
theorem int_add_ge0 (w0 w : World) (bz bx by' : Nat) (sz sx sy : Option Addr) (nz cz nx cx ny cy : Nat) (X Y : Int) (hz : Recv w0 w bz sz nz cz) (hx : IntA w bx sx nx cx X) (hy : IntA w by' sy ny cy Y) (bX : nx < Big) (bY : ny < Big) (hsx : Sep sx sz) (hsy : Sep sy sz)
    (hs : (decide (X < 0) == decide (Y < 0)) = false) (hle : Y.natAbs ≤ X.natAbs) (hN : X.natAbs - Y.natAbs = 0) :
    Calls Tryz.prog 101 #[ptr bz,ptr bx,ptr by'] w fun e w' => e = .returned (ptr bz) ∧ RDone w0 w w' bz sz (X + Y) :=by
  have x0 :=hx.neg
  have x1 :=hx.abs
  have y0 :=hy.neg
  have y1 :=hy.abs
  have z1 :=hz.abs
  obtain ⟨u,z0⟩ :=hz.neg
  have ha :=fun W (hW : Kept w W) => nat_sub W sz sx sy nz cz nx ny cx cy X.natAbs Y.natAbs (hz.ok.chg hW) hz.le (hx.nat.kept hW) (hy.nat.kept hW) hle bX hsx hsy
  have hc :=fun W (hW : Kept w W) => nat_cmp W sx sy nx ny cx cy X.natAbs Y.natAbs (hx.nat.kept hW) (hy.nat.kept hW)
  have hcv :=cmpI_ge hle
  generalize cmpI X.natAbs Y.natAbs = cv at *
  have HP : Hid (∀ v,v = decide (X + Y < 0) → v = decide (X + Y < 0)) :=Lib.hid fun _ h => h
  have HX : ∃ p,p = decide (X < 0) :=⟨_,rfl⟩
  have HY : ∃ p,p = decide (Y < 0) :=⟨_,rfl⟩
  obtain ⟨p,hp⟩ :=HX
  obtain ⟨q,hq⟩ :=HY
  rw [← hp] at x0 hs
  rw [← hq] at y0 hs
  have HPQ :=Lib.hid (And.intro hp hq)
  have HN :=Lib.hid hN
  clear hp hq hN
  go_enter Tryz.func101,Tryz.ntmps101
  go_wp2_with (first
    | (refine wp_region_lit_segs (id :=2) [[0,1,2,3,4,5,6,7,8]] mixed (by kernel_rfl) ?_;simp only [wpSegsL,gaC,gaN,lZ0,lS0,coS])
    | (refine wp_region_lit_segs (id :=3) [[0,1,2,3,4,5,6,7,8,9,10,11,12,13,14,15,16]] mixed (by kernel_rfl) ?_;simp only [wpSegsL,gaC,gaN,lZ0,lS0,coS])
    | (refine wp_region_lit_segs (id :=4) [[0,1,2,3,4,5,6,7,8,9]] mixed (by kernel_rfl) ?_;simp only [wpSegsL,gaC,gaN,lZ0,lS0,coS])
    | (refine wp_region_lit_segs (id :=5) [[0,1,2,3,4,5,6,7,8,9,10,11,12,13,14,15,16]] mixed (by kernel_rfl) ?_;simp only [wpSegsL,gaC,gaN,lZ0,lS0,coS])
    | (refine wp_region_lit_segs (id :=7) [[0,1,2,3,4,5,6,7,8,9,10,11,12,13,14,15,16]] mixed (by kernel_rfl) ?_;simp only [wpSegsL,gaC,gaN,lZ0,lS0,coS])
    | refine ⟨by kernel_rfl,?_⟩
    | (go_at_call 109;refine (hc _ (Chg.refl _ _).drew.drew).mono ?_;rintro e w1 ⟨rfl,kc⟩;have kc :=kc.of_drew.of_drew;have x1 :=Kept.at kc x1;have y1 :=Kept.at kc y1;have z1 :=Kept.at kc z1)
    | (go_at_call 121;refine (ha _ kc.drew).mono ?_;have hN :=HN.out;rintro e w2 ⟨s',n',c',rfl,k1,k2,k3⟩;have k3 :=((Chg.any kc (Blk sz)).trans k3.of_drew (fun _ _ _ h => h));obtain ⟨⟨u',z0'⟩,z1',zf'⟩ :=hz.after k3;have f0' :=zf' 0;have f1' :=zf' 1;have k2 : Fr w sz cz s' c' :=(by exact k2.mono kc.size);obtain rfl : n' = 0 :=k1.eq_zero.1 hN;clear hN))
  first | go_ret | refine ⟨_,results_tmp rfl _ _ _,?_⟩
  obtain ⟨hp,hq⟩ :=HPQ.out
  have hN :=HN.out
  subst hp
  subst hq
  have e : (X + Y).natAbs = X.natAbs - Y.natAbs :=by simp at hs;omega
  exact ⟨rfl,recv_done _ (by first | (simp;omega) | (simp at hs;rw [Bool.eq_iff_iff];simp;omega)) hz (by rw [e];exact k1) k2 k3⟩
theorem int_add_ge1 (w0 w : World) (bz bx by' : Nat) (sz sx sy : Option Addr) (nz cz nx cx ny cy : Nat) (X Y : Int) (hz : Recv w0 w bz sz nz cz) (hx : IntA w bx sx nx cx X) (hy : IntA w by' sy ny cy Y) (bX : nx < Big) (bY : ny < Big) (hsx : Sep sx sz) (hsy : Sep sy sz)
    (hs : (decide (X < 0) == decide (Y < 0)) = false) (hle : Y.natAbs ≤ X.natAbs) (hN : X.natAbs - Y.natAbs ≠ 0) :
    Calls Tryz.prog 101 #[ptr bz,ptr bx,ptr by'] w fun e w' => e = .returned (ptr bz) ∧ RDone w0 w w' bz sz (X + Y) :=by
  have x0 :=hx.neg
  have x1 :=hx.abs
  have y0 :=hy.neg
  have y1 :=hy.abs
  have z1 :=hz.abs
  obtain ⟨u,z0⟩ :=hz.neg
  have ha :=fun W (hW : Kept w W) => nat_sub W sz sx sy nz cz nx ny cx cy X.natAbs Y.natAbs (hz.ok.chg hW) hz.le (hx.nat.kept hW) (hy.nat.kept hW) hle bX hsx hsy
  have hc :=fun W (hW : Kept w W) => nat_cmp W sx sy nx ny cx cy X.natAbs Y.natAbs (hx.nat.kept hW) (hy.nat.kept hW)
  have hcv :=cmpI_ge hle
  generalize cmpI X.natAbs Y.natAbs = cv at *
  have HP : Hid (∀ v,v = decide (X + Y < 0) → v = decide (X + Y < 0)) :=Lib.hid fun _ h => h
  have HX : ∃ p,p = decide (X < 0) :=⟨_,rfl⟩
  have HY : ∃ p,p = decide (Y < 0) :=⟨_,rfl⟩
  obtain ⟨p,hp⟩ :=HX
  obtain ⟨q,hq⟩ :=HY
  rw [← hp] at x0 hs
  rw [← hq] at y0 hs
  have HPQ :=Lib.hid (And.intro hp hq)
  have HN :=Lib.hid hN
  clear hp hq hN
  go_enter Tryz.func101,Tryz.ntmps101
  go_wp2_with (first
    | (refine wp_region_lit_segs (id :=2) [[0,1,2,3,4,5,6,7,8]] mixed (by kernel_rfl) ?_;simp only [wpSegsL,gaC,gaN,lZ0,lS0,coS])
    | (refine wp_region_lit_segs (id :=3) [[0,1,2,3,4,5,6,7,8,9,10,11,12,13,14,15,16]] mixed (by kernel_rfl) ?_;simp only [wpSegsL,gaC,gaN,lZ0,lS0,coS])
    | (refine wp_region_lit_segs (id :=4) [[0,1,2,3,4,5,6,7,8,9]] mixed (by kernel_rfl) ?_;simp only [wpSegsL,gaC,gaN,lZ0,lS0,coS])
    | (refine wp_region_lit_segs (id :=5) [[0,1,2,3,4,5,6,7,8,9,10,11,12,13,14,15,16]] mixed (by kernel_rfl) ?_;simp only [wpSegsL,gaC,gaN,lZ0,lS0,coS])
    | (refine wp_region_lit_segs (id :=7) [[0,1,2,3,4,5,6,7,8,9,10,11,12,13,14,15,16]] mixed (by kernel_rfl) ?_;simp only [wpSegsL,gaC,gaN,lZ0,lS0,coS])
    | refine ⟨by kernel_rfl,?_⟩
    | (go_at_call 109;refine (hc _ (Chg.refl _ _).drew.drew).mono ?_;rintro e w1 ⟨rfl,kc⟩;have kc :=kc.of_drew.of_drew;have x1 :=Kept.at kc x1;have y1 :=Kept.at kc y1;have z1 :=Kept.at kc z1)
    | (go_at_call 121;refine (ha _ kc.drew).mono ?_;have hN :=HN.out;rintro e w2 ⟨s',n',c',rfl,k1,k2,k3⟩;have k3 :=((Chg.any kc (Blk sz)).trans k3.of_drew (fun _ _ _ h => h));obtain ⟨⟨u',z0'⟩,z1',zf'⟩ :=hz.after k3;have f0' :=zf' 0;have f1' :=zf' 1;have k2 : Fr w sz cz s' c' :=(by exact k2.mono kc.size);have hn0 : ¬ n' = 0 :=(fun h => hN (k1.eq_zero.2 h));obtain ⟨n',rfl⟩ : ∃ m,n' = m + 1 :=⟨n' - 1,by omega⟩;clear hN))
  first | go_ret | refine ⟨_,results_tmp rfl _ _ _,?_⟩
  obtain ⟨hp,hq⟩ :=HPQ.out
  have hN :=HN.out
  subst hp
  subst hq
  have e : (X + Y).natAbs = X.natAbs - Y.natAbs :=by simp at hs;omega
  exact ⟨rfl,recv_done _ (by first | (simp;omega) | (simp at hs;rw [Bool.eq_iff_iff];simp;omega)) hz (by rw [e];exact k1) k2 k3⟩
theorem int_add_lt0 (w0 w : World) (bz bx by' : Nat) (sz sx sy : Option Addr) (nz cz nx cx ny cy : Nat) (X Y : Int) (hz : Recv w0 w bz sz nz cz) (hx : IntA w bx sx nx cx X) (hy : IntA w by' sy ny cy Y) (bX : nx < Big) (bY : ny < Big) (hsx : Sep sx sz) (hsy : Sep sy sz)
    (hs : (decide (X < 0) == decide (Y < 0)) = false) (hle : X.natAbs < Y.natAbs) (hN : Y.natAbs - X.natAbs = 0) :
    Calls Tryz.prog 101 #[ptr bz,ptr bx,ptr by'] w fun e w' => e = .returned (ptr bz) ∧ RDone w0 w w' bz sz (X + Y) :=by
  have x0 :=hx.neg
  have x1 :=hx.abs
  have y0 :=hy.neg
  have y1 :=hy.abs
  have z1 :=hz.abs
  obtain ⟨u,z0⟩ :=hz.neg
  have ha :=fun W (hW : Kept w W) => nat_sub W sz sy sx nz cz ny nx cy cx Y.natAbs X.natAbs (hz.ok.chg hW) hz.le (hy.nat.kept hW) (hx.nat.kept hW) (by omega) bY hsy hsx
  have hc :=fun W (hW : Kept w W) => nat_cmp W sx sy nx ny cx cy X.natAbs Y.natAbs (hx.nat.kept hW) (hy.nat.kept hW)
  rw [cmpI_lt hle] at hc
  have HP : Hid (∀ v,v = decide (X + Y < 0) → v = decide (X + Y < 0)) :=Lib.hid fun _ h => h
  have HX : ∃ p,p = decide (X < 0) :=⟨_,rfl⟩
  have HY : ∃ p,p = decide (Y < 0) :=⟨_,rfl⟩
  obtain ⟨p,hp⟩ :=HX
  obtain ⟨q,hq⟩ :=HY
  rw [← hp] at x0 hs
  rw [← hq] at y0 hs
  have HPQ :=Lib.hid (And.intro hp hq)
  have HN :=Lib.hid hN
  clear hp hq hN
  go_enter Tryz.func101,Tryz.ntmps101
  go_wp2_with (first
    | (refine wp_region_lit_segs (id :=2) [[0,1,2,3,4,5,6,7,8]] mixed (by kernel_rfl) ?_;simp only [wpSegsL,gaC,gaN,lZ0,lS0,coS])
    | (refine wp_region_lit_segs (id :=3) [[0,1,2,3,4,5,6,7,8,9,10,11,12,13,14,15,16]] mixed (by kernel_rfl) ?_;simp only [wpSegsL,gaC,gaN,lZ0,lS0,coS])
    | (refine wp_region_lit_segs (id :=4) [[0,1,2,3,4,5,6,7,8,9]] mixed (by kernel_rfl) ?_;simp only [wpSegsL,gaC,gaN,lZ0,lS0,coS])
    | (refine wp_region_lit_segs (id :=5) [[0,1,2,3,4,5,6,7,8,9,10,11,12,13,14,15,16]] mixed (by kernel_rfl) ?_;simp only [wpSegsL,gaC,gaN,lZ0,lS0,coS])
    | (refine wp_region_lit_segs (id :=7) [[0,1,2,3,4,5,6,7,8,9,10,11,12,13,14,15,16]] mixed (by kernel_rfl) ?_;simp only [wpSegsL,gaC,gaN,lZ0,lS0,coS])
    | refine ⟨by kernel_rfl,?_⟩
    | (go_at_call 109;refine (hc _ (Chg.refl _ _).drew.drew).mono ?_;rintro e w1 ⟨rfl,kc⟩;have kc :=kc.of_drew.of_drew;have x1 :=Kept.at kc x1;have y1 :=Kept.at kc y1;have z1 :=Kept.at kc z1)
    | (go_at_call 121;refine (ha _ kc.drew).mono ?_;have hN :=HN.out;rintro e w2 ⟨s',n',c',rfl,k1,k2,k3⟩;have k3 :=((Chg.any kc (Blk sz)).trans k3.of_drew (fun _ _ _ h => h));obtain ⟨⟨u',z0'⟩,z1',zf'⟩ :=hz.after k3;have f0' :=zf' 0;have f1' :=zf' 1;have k2 : Fr w sz cz s' c' :=(by exact k2.mono kc.size);obtain rfl : n' = 0 :=k1.eq_zero.1 hN;clear hN))
  first | go_ret | refine ⟨_,results_tmp rfl _ _ _,?_⟩
  obtain ⟨hp,hq⟩ :=HPQ.out
  have hN :=HN.out
  subst hp
  subst hq
  have e : (X + Y).natAbs = Y.natAbs - X.natAbs :=by simp at hs;omega
  exact ⟨rfl,recv_done _ (by first | (simp;omega) | (simp at hs;rw [Bool.eq_iff_iff];simp;omega)) hz (by rw [e];exact k1) k2 k3⟩
theorem int_add_lt1 (w0 w : World) (bz bx by' : Nat) (sz sx sy : Option Addr) (nz cz nx cx ny cy : Nat) (X Y : Int) (hz : Recv w0 w bz sz nz cz) (hx : IntA w bx sx nx cx X) (hy : IntA w by' sy ny cy Y) (bX : nx < Big) (bY : ny < Big) (hsx : Sep sx sz) (hsy : Sep sy sz)
    (hs : (decide (X < 0) == decide (Y < 0)) = false) (hle : X.natAbs < Y.natAbs) (hN : Y.natAbs - X.natAbs ≠ 0) :
    Calls Tryz.prog 101 #[ptr bz,ptr bx,ptr by'] w fun e w' => e = .returned (ptr bz) ∧ RDone w0 w w' bz sz (X + Y) :=by
  have x0 :=hx.neg
  have x1 :=hx.abs
  have y0 :=hy.neg
  have y1 :=hy.abs
  have z1 :=hz.abs
  obtain ⟨u,z0⟩ :=hz.neg
  have ha :=fun W (hW : Kept w W) => nat_sub W sz sy sx nz cz ny nx cy cx Y.natAbs X.natAbs (hz.ok.chg hW) hz.le (hy.nat.kept hW) (hx.nat.kept hW) (by omega) bY hsy hsx
  have hc :=fun W (hW : Kept w W) => nat_cmp W sx sy nx ny cx cy X.natAbs Y.natAbs (hx.nat.kept hW) (hy.nat.kept hW)
  rw [cmpI_lt hle] at hc
  have HP : Hid (∀ v,v = decide (X + Y < 0) → v = decide (X + Y < 0)) :=Lib.hid fun _ h => h
  have HX : ∃ p,p = decide (X < 0) :=⟨_,rfl⟩
  have HY : ∃ p,p = decide (Y < 0) :=⟨_,rfl⟩
  obtain ⟨p,hp⟩ :=HX
  obtain ⟨q,hq⟩ :=HY
  rw [← hp] at x0 hs
  rw [← hq] at y0 hs
  have HPQ :=Lib.hid (And.intro hp hq)
  have HN :=Lib.hid hN
  clear hp hq hN
  go_enter Tryz.func101,Tryz.ntmps101
  go_wp2_with (first
    | (refine wp_region_lit_segs (id :=2) [[0,1,2,3,4,5,6,7,8]] mixed (by kernel_rfl) ?_;simp only [wpSegsL,gaC,gaN,lZ0,lS0,coS])
    | (refine wp_region_lit_segs (id :=3) [[0,1,2,3,4,5,6,7,8,9,10,11,12,13,14,15,16]] mixed (by kernel_rfl) ?_;simp only [wpSegsL,gaC,gaN,lZ0,lS0,coS])
    | (refine wp_region_lit_segs (id :=4) [[0,1,2,3,4,5,6,7,8,9]] mixed (by kernel_rfl) ?_;simp only [wpSegsL,gaC,gaN,lZ0,lS0,coS])
    | (refine wp_region_lit_segs (id :=5) [[0,1,2,3,4,5,6,7,8,9,10,11,12,13,14,15,16]] mixed (by kernel_rfl) ?_;simp only [wpSegsL,gaC,gaN,lZ0,lS0,coS])
    | (refine wp_region_lit_segs (id :=7) [[0,1,2,3,4,5,6,7,8,9,10,11,12,13,14,15,16]] mixed (by kernel_rfl) ?_;simp only [wpSegsL,gaC,gaN,lZ0,lS0,coS])
    | refine ⟨by kernel_rfl,?_⟩
    | (go_at_call 109;refine (hc _ (Chg.refl _ _).drew.drew).mono ?_;rintro e w1 ⟨rfl,kc⟩;have kc :=kc.of_drew.of_drew;have x1 :=Kept.at kc x1;have y1 :=Kept.at kc y1;have z1 :=Kept.at kc z1)
    | (go_at_call 121;refine (ha _ kc.drew).mono ?_;have hN :=HN.out;rintro e w2 ⟨s',n',c',rfl,k1,k2,k3⟩;have k3 :=((Chg.any kc (Blk sz)).trans k3.of_drew (fun _ _ _ h => h));obtain ⟨⟨u',z0'⟩,z1',zf'⟩ :=hz.after k3;have f0' :=zf' 0;have f1' :=zf' 1;have k2 : Fr w sz cz s' c' :=(by exact k2.mono kc.size);have hn0 : ¬ n' = 0 :=(fun h => hN (k1.eq_zero.2 h));obtain ⟨n',rfl⟩ : ∃ m,n' = m + 1 :=⟨n' - 1,by omega⟩;clear hN))
  first | go_ret | refine ⟨_,results_tmp rfl _ _ _,?_⟩
  obtain ⟨hp,hq⟩ :=HPQ.out
  have hN :=HN.out
  subst hp
  subst hq
  have e : (X + Y).natAbs = Y.natAbs - X.natAbs :=by simp at hs;omega
  exact ⟨rfl,recv_done _ (by first | (simp;omega) | (simp at hs;rw [Bool.eq_iff_iff];simp;omega)) hz (by rw [e];exact k1) k2 k3⟩
theorem int_add (w0 w : World) (bz bx by' : Nat) (sz sx sy : Option Addr) (nz cz nx cx ny cy : Nat) (X Y : Int) (hz : Recv w0 w bz sz nz cz) (hx : IntA w bx sx nx cx X) (hy : IntA w by' sy ny cy Y) (bX : nx < Big) (bY : ny < Big) (hsx : Sep sx sz) (hsy : Sep sy sz) :
    Calls Tryz.prog 101 #[ptr bz,ptr bx,ptr by'] w fun e w' => e = .returned (ptr bz) ∧ RDone w0 w w' bz sz (X + Y) :=by
  cases hs : (decide (X < 0) == decide (Y < 0))
  · rcases Nat.lt_or_ge X.natAbs Y.natAbs with hle | hle
    · by_cases hN : Y.natAbs - X.natAbs = 0
      · exact int_add_lt0 w0 w bz bx by' sz sx sy nz cz nx cx ny cy X Y hz hx hy bX bY hsx hsy hs hle hN
      · exact int_add_lt1 w0 w bz bx by' sz sx sy nz cz nx cx ny cy X Y hz hx hy bX bY hsx hsy hs hle hN
    · by_cases hN : X.natAbs - Y.natAbs = 0
      · exact int_add_ge0 w0 w bz bx by' sz sx sy nz cz nx cx ny cy X Y hz hx hy bX bY hsx hsy hs hle hN
      · exact int_add_ge1 w0 w bz bx by' sz sx sy nz cz nx cx ny cy X Y hz hx hy bX bY hsx hsy hs hle hN
  · by_cases hN : X.natAbs + Y.natAbs = 0
    · exact int_add_same0 w0 w bz bx by' sz sx sy nz cz nx cx ny cy X Y hz hx hy bX bY hsx hsy hs hN
    · exact int_add_same1 w0 w bz bx by' sz sx sy nz cz nx cx ny cy X Y hz hx hy bX bY hsx hsy hs hN
theorem int_sub_same0 (w0 w : World) (bz bx by' : Nat) (sz sx sy : Option Addr) (nz cz nx cx ny cy : Nat) (X Y : Int) (hz : Recv w0 w bz sz nz cz) (hx : IntA w bx sx nx cx X) (hy : IntA w by' sy ny cy Y) (bX : nx < Big) (bY : ny < Big) (hsx : Sep sx sz) (hsy : Sep sy sz)
    (hs : (!(decide (X < 0) == decide (Y < 0))) = true) (hN : X.natAbs + Y.natAbs = 0) :
    Calls Tryz.prog 102 #[ptr bz,ptr bx,ptr by'] w fun e w' => e = .returned (ptr bz) ∧ RDone w0 w w' bz sz (X - Y) :=by
  have x0 :=hx.neg
  have x1 :=hx.abs
  have y0 :=hy.neg
  have y1 :=hy.abs
  have z1 :=hz.abs
  obtain ⟨u,z0⟩ :=hz.neg
  have ha :=fun W (hW : Kept w W) => nat_add W sz sx sy nz cz nx ny cx cy X.natAbs Y.natAbs (hz.ok.chg hW) hz.le (hx.nat.kept hW) (hy.nat.kept hW) bX bY hsx hsy
  have HP : Hid (∀ v,v = decide (X - Y < 0) → v = decide (X - Y < 0)) :=Lib.hid fun _ h => h
  have HX : ∃ p,p = decide (X < 0) :=⟨_,rfl⟩
  have HY : ∃ p,p = decide (Y < 0) :=⟨_,rfl⟩
  obtain ⟨p,hp⟩ :=HX
  obtain ⟨q,hq⟩ :=HY
  rw [← hp] at x0 hs
  rw [← hq] at y0 hs
  have HPQ :=Lib.hid (And.intro hp hq)
  have HN :=Lib.hid hN
  clear hp hq hN
  go_enter Tryz.func102,Tryz.ntmps102
  go_wp2_with (first
    | (refine wp_region_lit_segs (id :=2) [[0,1,2,3,4,5,6,7,8]] mixed (by kernel_rfl) ?_;simp only [wpSegsL,gaC,gaN,lZ0,lS0,coS])
    | (refine wp_region_lit_segs (id :=3) [[0,1,2,3,4,5,6,7,8,9,10,11,12,13,14,15,16]] mixed (by kernel_rfl) ?_;simp only [wpSegsL,gaC,gaN,lZ0,lS0,coS])
    | (refine wp_region_lit_segs (id :=4) [[0,1,2,3,4,5,6,7,8,9]] mixed (by kernel_rfl) ?_;simp only [wpSegsL,gaC,gaN,lZ0,lS0,coS])
    | (refine wp_region_lit_segs (id :=5) [[0,1,2,3,4,5,6,7,8,9,10,11,12,13,14,15,16]] mixed (by kernel_rfl) ?_;simp only [wpSegsL,gaC,gaN,lZ0,lS0,coS])
    | (refine wp_region_lit_segs (id :=7) [[0,1,2,3,4,5,6,7,8,9,10,11,12,13,14,15,16]] mixed (by kernel_rfl) ?_;simp only [wpSegsL,gaC,gaN,lZ0,lS0,coS])
    | refine ⟨by kernel_rfl,?_⟩
    | (go_at_call 120;refine (ha _ (Chg.refl _ _).drew.drew).mono ?_;have hN :=HN.out;rintro e w2 ⟨s',n',c',rfl,k1,k2,k3⟩;have k3 :=(k3.of_drew.of_drew);obtain ⟨⟨u',z0'⟩,z1',zf'⟩ :=hz.after k3;have f0' :=zf' 0;have f1' :=zf' 1;have k2 : Fr w sz cz s' c' :=(by exact k2);obtain rfl : n' = 0 :=k1.eq_zero.1 hN;clear hN))
  first | go_ret | refine ⟨_,results_tmp rfl _ _ _,?_⟩
  obtain ⟨hp,hq⟩ :=HPQ.out
  have hN :=HN.out
  subst hp
  subst hq
  have e : (X - Y).natAbs = X.natAbs + Y.natAbs :=by simp at hs;omega
  exact ⟨rfl,recv_done _ (by first | (simp;omega) | (simp at hs;rw [Bool.eq_iff_iff];simp;omega)) hz (by rw [e];exact k1) k2 k3⟩
theorem int_sub_same1 (w0 w : World) (bz bx by' : Nat) (sz sx sy : Option Addr) (nz cz nx cx ny cy : Nat) (X Y : Int) (hz : Recv w0 w bz sz nz cz) (hx : IntA w bx sx nx cx X) (hy : IntA w by' sy ny cy Y) (bX : nx < Big) (bY : ny < Big) (hsx : Sep sx sz) (hsy : Sep sy sz)
    (hs : (!(decide (X < 0) == decide (Y < 0))) = true) (hN : X.natAbs + Y.natAbs ≠ 0) :
    Calls Tryz.prog 102 #[ptr bz,ptr bx,ptr by'] w fun e w' => e = .returned (ptr bz) ∧ RDone w0 w w' bz sz (X - Y) :=by
  have x0 :=hx.neg
  have x1 :=hx.abs
  have y0 :=hy.neg
  have y1 :=hy.abs
  have z1 :=hz.abs
  obtain ⟨u,z0⟩ :=hz.neg
  have ha :=fun W (hW : Kept w W) => nat_add W sz sx sy nz cz nx ny cx cy X.natAbs Y.natAbs (hz.ok.chg hW) hz.le (hx.nat.kept hW) (hy.nat.kept hW) bX bY hsx hsy
  have HP : Hid (∀ v,v = decide (X - Y < 0) → v = decide (X - Y < 0)) :=Lib.hid fun _ h => h
  have HX : ∃ p,p = decide (X < 0) :=⟨_,rfl⟩
  have HY : ∃ p,p = decide (Y < 0) :=⟨_,rfl⟩
  obtain ⟨p,hp⟩ :=HX
  obtain ⟨q,hq⟩ :=HY
  rw [← hp] at x0 hs
  rw [← hq] at y0 hs
  have HPQ :=Lib.hid (And.intro hp hq)
  have HN :=Lib.hid hN
  clear hp hq hN
  go_enter Tryz.func102,Tryz.ntmps102
  go_wp2_with (first
    | (refine wp_region_lit_segs (id :=2) [[0,1,2,3,4,5,6,7,8]] mixed (by kernel_rfl) ?_;simp only [wpSegsL,gaC,gaN,lZ0,lS0,coS])
    | (refine wp_region_lit_segs (id :=3) [[0,1,2,3,4,5,6,7,8,9,10,11,12,13,14,15,16]] mixed (by kernel_rfl) ?_;simp only [wpSegsL,gaC,gaN,lZ0,lS0,coS])
    | (refine wp_region_lit_segs (id :=4) [[0,1,2,3,4,5,6,7,8,9]] mixed (by kernel_rfl) ?_;simp only [wpSegsL,gaC,gaN,lZ0,lS0,coS])
    | (refine wp_region_lit_segs (id :=5) [[0,1,2,3,4,5,6,7,8,9,10,11,12,13,14,15,16]] mixed (by kernel_rfl) ?_;simp only [wpSegsL,gaC,gaN,lZ0,lS0,coS])
    | (refine wp_region_lit_segs (id :=7) [[0,1,2,3,4,5,6,7,8,9,10,11,12,13,14,15,16]] mixed (by kernel_rfl) ?_;simp only [wpSegsL,gaC,gaN,lZ0,lS0,coS])
    | refine ⟨by kernel_rfl,?_⟩
    | (go_at_call 120;refine (ha _ (Chg.refl _ _).drew.drew).mono ?_;have hN :=HN.out;rintro e w2 ⟨s',n',c',rfl,k1,k2,k3⟩;have k3 :=(k3.of_drew.of_drew);obtain ⟨⟨u',z0'⟩,z1',zf'⟩ :=hz.after k3;have f0' :=zf' 0;have f1' :=zf' 1;have k2 : Fr w sz cz s' c' :=(by exact k2);have hn0 : ¬ n' = 0 :=(fun h => hN (k1.eq_zero.2 h));obtain ⟨n',rfl⟩ : ∃ m,n' = m + 1 :=⟨n' - 1,by omega⟩;clear hN))
  first | go_ret | refine ⟨_,results_tmp rfl _ _ _,?_⟩
  obtain ⟨hp,hq⟩ :=HPQ.out
  have hN :=HN.out
  subst hp
  subst hq
  have e : (X - Y).natAbs = X.natAbs + Y.natAbs :=by simp at hs;omega
  exact ⟨rfl,recv_done _ (by first | (simp;omega) | (simp at hs;rw [Bool.eq_iff_iff];simp;omega)) hz (by rw [e];exact k1) k2 k3⟩
theorem int_sub_ge0 (w0 w : World) (bz bx by' : Nat) (sz sx sy : Option Addr) (nz cz nx cx ny cy : Nat) (X Y : Int) (hz : Recv w0 w bz sz nz cz) (hx : IntA w bx sx nx cx X) (hy : IntA w by' sy ny cy Y) (bX : nx < Big) (bY : ny < Big) (hsx : Sep sx sz) (hsy : Sep sy sz)
    (hs : (!(decide (X < 0) == decide (Y < 0))) = false) (hle : Y.natAbs ≤ X.natAbs) (hN : X.natAbs - Y.natAbs = 0) :
    Calls Tryz.prog 102 #[ptr bz,ptr bx,ptr by'] w fun e w' => e = .returned (ptr bz) ∧ RDone w0 w w' bz sz (X - Y) :=by
  have x0 :=hx.neg
  have x1 :=hx.abs
  have y0 :=hy.neg
  have y1 :=hy.abs
  have z1 :=hz.abs
  obtain ⟨u,z0⟩ :=hz.neg
  have ha :=fun W (hW : Kept w W) => nat_sub W sz sx sy nz cz nx ny cx cy X.natAbs Y.natAbs (hz.ok.chg hW) hz.le (hx.nat.kept hW) (hy.nat.kept hW) hle bX hsx hsy
  have hc :=fun W (hW : Kept w W) => nat_cmp W sx sy nx ny cx cy X.natAbs Y.natAbs (hx.nat.kept hW) (hy.nat.kept hW)
  have hcv :=cmpI_ge hle
  generalize cmpI X.natAbs Y.natAbs = cv at *
  have HP : Hid (∀ v,v = decide (X - Y < 0) → v = decide (X - Y < 0)) :=Lib.hid fun _ h => h
  have HX : ∃ p,p = decide (X < 0) :=⟨_,rfl⟩
  have HY : ∃ p,p = decide (Y < 0) :=⟨_,rfl⟩
  obtain ⟨p,hp⟩ :=HX
  obtain ⟨q,hq⟩ :=HY
  rw [← hp] at x0 hs
  rw [← hq] at y0 hs
  have HPQ :=Lib.hid (And.intro hp hq)
  have HN :=Lib.hid hN
  clear hp hq hN
  go_enter Tryz.func102,Tryz.ntmps102
  go_wp2_with (first
    | (refine wp_region_lit_segs (id :=2) [[0,1,2,3,4,5,6,7,8]] mixed (by kernel_rfl) ?_;simp only [wpSegsL,gaC,gaN,lZ0,lS0,coS])
    | (refine wp_region_lit_segs (id :=3) [[0,1,2,3,4,5,6,7,8,9,10,11,12,13,14,15,16]] mixed (by kernel_rfl) ?_;simp only [wpSegsL,gaC,gaN,lZ0,lS0,coS])
    | (refine wp_region_lit_segs (id :=4) [[0,1,2,3,4,5,6,7,8,9]] mixed (by kernel_rfl) ?_;simp only [wpSegsL,gaC,gaN,lZ0,lS0,coS])
    | (refine wp_region_lit_segs (id :=5) [[0,1,2,3,4,5,6,7,8,9,10,11,12,13,14,15,16]] mixed (by kernel_rfl) ?_;simp only [wpSegsL,gaC,gaN,lZ0,lS0,coS])
    | (refine wp_region_lit_segs (id :=7) [[0,1,2,3,4,5,6,7,8,9,10,11,12,13,14,15,16]] mixed (by kernel_rfl) ?_;simp only [wpSegsL,gaC,gaN,lZ0,lS0,coS])
    | refine ⟨by kernel_rfl,?_⟩
    | (go_at_call 109;refine (hc _ (Chg.refl _ _).drew.drew).mono ?_;rintro e w1 ⟨rfl,kc⟩;have kc :=kc.of_drew.of_drew;have x1 :=Kept.at kc x1;have y1 :=Kept.at kc y1;have z1 :=Kept.at kc z1)
    | (go_at_call 121;refine (ha _ kc.drew).mono ?_;have hN :=HN.out;rintro e w2 ⟨s',n',c',rfl,k1,k2,k3⟩;have k3 :=((Chg.any kc (Blk sz)).trans k3.of_drew (fun _ _ _ h => h));obtain ⟨⟨u',z0'⟩,z1',zf'⟩ :=hz.after k3;have f0' :=zf' 0;have f1' :=zf' 1;have k2 : Fr w sz cz s' c' :=(by exact k2.mono kc.size);obtain rfl : n' = 0 :=k1.eq_zero.1 hN;clear hN))
  first | go_ret | refine ⟨_,results_tmp rfl _ _ _,?_⟩
  obtain ⟨hp,hq⟩ :=HPQ.out
  have hN :=HN.out
  subst hp
  subst hq
  have e : (X - Y).natAbs = X.natAbs - Y.natAbs :=by simp at hs;omega
  exact ⟨rfl,recv_done _ (by first | (simp;omega) | (simp at hs;rw [Bool.eq_iff_iff];simp;omega)) hz (by rw [e];exact k1) k2 k3⟩
theorem int_sub_ge1 (w0 w : World) (bz bx by' : Nat) (sz sx sy : Option Addr) (nz cz nx cx ny cy : Nat) (X Y : Int) (hz : Recv w0 w bz sz nz cz) (hx : IntA w bx sx nx cx X) (hy : IntA w by' sy ny cy Y) (bX : nx < Big) (bY : ny < Big) (hsx : Sep sx sz) (hsy : Sep sy sz)
    (hs : (!(decide (X < 0) == decide (Y < 0))) = false) (hle : Y.natAbs ≤ X.natAbs) (hN : X.natAbs - Y.natAbs ≠ 0) :
    Calls Tryz.prog 102 #[ptr bz,ptr bx,ptr by'] w fun e w' => e = .returned (ptr bz) ∧ RDone w0 w w' bz sz (X - Y) :=by
  have x0 :=hx.neg
  have x1 :=hx.abs
  have y0 :=hy.neg
  have y1 :=hy.abs
  have z1 :=hz.abs
  obtain ⟨u,z0⟩ :=hz.neg
  have ha :=fun W (hW : Kept w W) => nat_sub W sz sx sy nz cz nx ny cx cy X.natAbs Y.natAbs (hz.ok.chg hW) hz.le (hx.nat.kept hW) (hy.nat.kept hW) hle bX hsx hsy
  have hc :=fun W (hW : Kept w W) => nat_cmp W sx sy nx ny cx cy X.natAbs Y.natAbs (hx.nat.kept hW) (hy.nat.kept hW)
  have hcv :=cmpI_ge hle
  generalize cmpI X.natAbs Y.natAbs = cv at *
  have HP : Hid (∀ v,v = decide (X - Y < 0) → v = decide (X - Y < 0)) :=Lib.hid fun _ h => h
  have HX : ∃ p,p = decide (X < 0) :=⟨_,rfl⟩
  have HY : ∃ p,p = decide (Y < 0) :=⟨_,rfl⟩
  obtain ⟨p,hp⟩ :=HX
  obtain ⟨q,hq⟩ :=HY
  rw [← hp] at x0 hs
  rw [← hq] at y0 hs
  have HPQ :=Lib.hid (And.intro hp hq)
  have HN :=Lib.hid hN
  clear hp hq hN
  go_enter Tryz.func102,Tryz.ntmps102
  go_wp2_with (first
    | (refine wp_region_lit_segs (id :=2) [[0,1,2,3,4,5,6,7,8]] mixed (by kernel_rfl) ?_;simp only [wpSegsL,gaC,gaN,lZ0,lS0,coS])
    | (refine wp_region_lit_segs (id :=3) [[0,1,2,3,4,5,6,7,8,9,10,11,12,13,14,15,16]] mixed (by kernel_rfl) ?_;simp only [wpSegsL,gaC,gaN,lZ0,lS0,coS])
    | (refine wp_region_lit_segs (id :=4) [[0,1,2,3,4,5,6,7,8,9]] mixed (by kernel_rfl) ?_;simp only [wpSegsL,gaC,gaN,lZ0,lS0,coS])
    | (refine wp_region_lit_segs (id :=5) [[0,1,2,3,4,5,6,7,8,9,10,11,12,13,14,15,16]] mixed (by kernel_rfl) ?_;simp only [wpSegsL,gaC,gaN,lZ0,lS0,coS])
    | (refine wp_region_lit_segs (id :=7) [[0,1,2,3,4,5,6,7,8,9,10,11,12,13,14,15,16]] mixed (by kernel_rfl) ?_;simp only [wpSegsL,gaC,gaN,lZ0,lS0,coS])
    | refine ⟨by kernel_rfl,?_⟩
    | (go_at_call 109;refine (hc _ (Chg.refl _ _).drew.drew).mono ?_;rintro e w1 ⟨rfl,kc⟩;have kc :=kc.of_drew.of_drew;have x1 :=Kept.at kc x1;have y1 :=Kept.at kc y1;have z1 :=Kept.at kc z1)
    | (go_at_call 121;refine (ha _ kc.drew).mono ?_;have hN :=HN.out;rintro e w2 ⟨s',n',c',rfl,k1,k2,k3⟩;have k3 :=((Chg.any kc (Blk sz)).trans k3.of_drew (fun _ _ _ h => h));obtain ⟨⟨u',z0'⟩,z1',zf'⟩ :=hz.after k3;have f0' :=zf' 0;have f1' :=zf' 1;have k2 : Fr w sz cz s' c' :=(by exact k2.mono kc.size);have hn0 : ¬ n' = 0 :=(fun h => hN (k1.eq_zero.2 h));obtain ⟨n',rfl⟩ : ∃ m,n' = m + 1 :=⟨n' - 1,by omega⟩;clear hN))
  first | go_ret | refine ⟨_,results_tmp rfl _ _ _,?_⟩
  obtain ⟨hp,hq⟩ :=HPQ.out
  have hN :=HN.out
  subst hp
  subst hq
  have e : (X - Y).natAbs = X.natAbs - Y.natAbs :=by simp at hs;omega
  exact ⟨rfl,recv_done _ (by first | (simp;omega) | (simp at hs;rw [Bool.eq_iff_iff];simp;omega)) hz (by rw [e];exact k1) k2 k3⟩
theorem int_sub_lt0 (w0 w : World) (bz bx by' : Nat) (sz sx sy : Option Addr) (nz cz nx cx ny cy : Nat) (X Y : Int) (hz : Recv w0 w bz sz nz cz) (hx : IntA w bx sx nx cx X) (hy : IntA w by' sy ny cy Y) (bX : nx < Big) (bY : ny < Big) (hsx : Sep sx sz) (hsy : Sep sy sz)
    (hs : (!(decide (X < 0) == decide (Y < 0))) = false) (hle : X.natAbs < Y.natAbs) (hN : Y.natAbs - X.natAbs = 0) :
    Calls Tryz.prog 102 #[ptr bz,ptr bx,ptr by'] w fun e w' => e = .returned (ptr bz) ∧ RDone w0 w w' bz sz (X - Y) :=by
  have x0 :=hx.neg
  have x1 :=hx.abs
  have y0 :=hy.neg
  have y1 :=hy.abs
  have z1 :=hz.abs
  obtain ⟨u,z0⟩ :=hz.neg
  have ha :=fun W (hW : Kept w W) => nat_sub W sz sy sx nz cz ny nx cy cx Y.natAbs X.natAbs (hz.ok.chg hW) hz.le (hy.nat.kept hW) (hx.nat.kept hW) (by omega) bY hsy hsx
  have hc :=fun W (hW : Kept w W) => nat_cmp W sx sy nx ny cx cy X.natAbs Y.natAbs (hx.nat.kept hW) (hy.nat.kept hW)
  rw [cmpI_lt hle] at hc
  have HP : Hid (∀ v,v = decide (X - Y < 0) → v = decide (X - Y < 0)) :=Lib.hid fun _ h => h
  have HX : ∃ p,p = decide (X < 0) :=⟨_,rfl⟩
  have HY : ∃ p,p = decide (Y < 0) :=⟨_,rfl⟩
  obtain ⟨p,hp⟩ :=HX
  obtain ⟨q,hq⟩ :=HY
  rw [← hp] at x0 hs
  rw [← hq] at y0 hs
  have HPQ :=Lib.hid (And.intro hp hq)
  have HN :=Lib.hid hN
  clear hp hq hN
  go_enter Tryz.func102,Tryz.ntmps102
  go_wp2_with (first
    | (refine wp_region_lit_segs (id :=2) [[0,1,2,3,4,5,6,7,8]] mixed (by kernel_rfl) ?_;simp only [wpSegsL,gaC,gaN,lZ0,lS0,coS])
    | (refine wp_region_lit_segs (id :=3) [[0,1,2,3,4,5,6,7,8,9,10,11,12,13,14,15,16]] mixed (by kernel_rfl) ?_;simp only [wpSegsL,gaC,gaN,lZ0,lS0,coS])
    | (refine wp_region_lit_segs (id :=4) [[0,1,2,3,4,5,6,7,8,9]] mixed (by kernel_rfl) ?_;simp only [wpSegsL,gaC,gaN,lZ0,lS0,coS])
    | (refine wp_region_lit_segs (id :=5) [[0,1,2,3,4,5,6,7,8,9,10,11,12,13,14,15,16]] mixed (by kernel_rfl) ?_;simp only [wpSegsL,gaC,gaN,lZ0,lS0,coS])
    | (refine wp_region_lit_segs (id :=7) [[0,1,2,3,4,5,6,7,8,9,10,11,12,13,14,15,16]] mixed (by kernel_rfl) ?_;simp only [wpSegsL,gaC,gaN,lZ0,lS0,coS])
    | refine ⟨by kernel_rfl,?_⟩
    | (go_at_call 109;refine (hc _ (Chg.refl _ _).drew.drew).mono ?_;rintro e w1 ⟨rfl,kc⟩;have kc :=kc.of_drew.of_drew;have x1 :=Kept.at kc x1;have y1 :=Kept.at kc y1;have z1 :=Kept.at kc z1)
    | (go_at_call 121;refine (ha _ kc.drew).mono ?_;have hN :=HN.out;rintro e w2 ⟨s',n',c',rfl,k1,k2,k3⟩;have k3 :=((Chg.any kc (Blk sz)).trans k3.of_drew (fun _ _ _ h => h));obtain ⟨⟨u',z0'⟩,z1',zf'⟩ :=hz.after k3;have f0' :=zf' 0;have f1' :=zf' 1;have k2 : Fr w sz cz s' c' :=(by exact k2.mono kc.size);obtain rfl : n' = 0 :=k1.eq_zero.1 hN;clear hN))
  first | go_ret | refine ⟨_,results_tmp rfl _ _ _,?_⟩
  obtain ⟨hp,hq⟩ :=HPQ.out
  have hN :=HN.out
  subst hp
  subst hq
  have e : (X - Y).natAbs = Y.natAbs - X.natAbs :=by simp at hs;omega
  exact ⟨rfl,recv_done _ (by first | (simp;omega) | (simp at hs;rw [Bool.eq_iff_iff];simp;omega)) hz (by rw [e];exact k1) k2 k3⟩
theorem int_sub_lt1 (w0 w : World) (bz bx by' : Nat) (sz sx sy : Option Addr) (nz cz nx cx ny cy : Nat) (X Y : Int) (hz : Recv w0 w bz sz nz cz) (hx : IntA w bx sx nx cx X) (hy : IntA w by' sy ny cy Y) (bX : nx < Big) (bY : ny < Big) (hsx : Sep sx sz) (hsy : Sep sy sz)
    (hs : (!(decide (X < 0) == decide (Y < 0))) = false) (hle : X.natAbs < Y.natAbs) (hN : Y.natAbs - X.natAbs ≠ 0) :
    Calls Tryz.prog 102 #[ptr bz,ptr bx,ptr by'] w fun e w' => e = .returned (ptr bz) ∧ RDone w0 w w' bz sz (X - Y) :=by
  have x0 :=hx.neg
  have x1 :=hx.abs
  have y0 :=hy.neg
  have y1 :=hy.abs
  have z1 :=hz.abs
  obtain ⟨u,z0⟩ :=hz.neg
  have ha :=fun W (hW : Kept w W) => nat_sub W sz sy sx nz cz ny nx cy cx Y.natAbs X.natAbs (hz.ok.chg hW) hz.le (hy.nat.kept hW) (hx.nat.kept hW) (by omega) bY hsy hsx
  have hc :=fun W (hW : Kept w W) => nat_cmp W sx sy nx ny cx cy X.natAbs Y.natAbs (hx.nat.kept hW) (hy.nat.kept hW)
  rw [cmpI_lt hle] at hc
  have HP : Hid (∀ v,v = decide (X - Y < 0) → v = decide (X - Y < 0)) :=Lib.hid fun _ h => h
  have HX : ∃ p,p = decide (X < 0) :=⟨_,rfl⟩
  have HY : ∃ p,p = decide (Y < 0) :=⟨_,rfl⟩
  obtain ⟨p,hp⟩ :=HX
  obtain ⟨q,hq⟩ :=HY
  rw [← hp] at x0 hs
  rw [← hq] at y0 hs
  have HPQ :=Lib.hid (And.intro hp hq)
  have HN :=Lib.hid hN
  clear hp hq hN
  go_enter Tryz.func102,Tryz.ntmps102
  go_wp2_with (first
    | (refine wp_region_lit_segs (id :=2) [[0,1,2,3,4,5,6,7,8]] mixed (by kernel_rfl) ?_;simp only [wpSegsL,gaC,gaN,lZ0,lS0,coS])
    | (refine wp_region_lit_segs (id :=3) [[0,1,2,3,4,5,6,7,8,9,10,11,12,13,14,15,16]] mixed (by kernel_rfl) ?_;simp only [wpSegsL,gaC,gaN,lZ0,lS0,coS])
    | (refine wp_region_lit_segs (id :=4) [[0,1,2,3,4,5,6,7,8,9]] mixed (by kernel_rfl) ?_;simp only [wpSegsL,gaC,gaN,lZ0,lS0,coS])
    | (refine wp_region_lit_segs (id :=5) [[0,1,2,3,4,5,6,7,8,9,10,11,12,13,14,15,16]] mixed (by kernel_rfl) ?_;simp only [wpSegsL,gaC,gaN,lZ0,lS0,coS])
    | (refine wp_region_lit_segs (id :=7) [[0,1,2,3,4,5,6,7,8,9,10,11,12,13,14,15,16]] mixed (by kernel_rfl) ?_;simp only [wpSegsL,gaC,gaN,lZ0,lS0,coS])
    | refine ⟨by kernel_rfl,?_⟩
    | (go_at_call 109;refine (hc _ (Chg.refl _ _).drew.drew).mono ?_;rintro e w1 ⟨rfl,kc⟩;have kc :=kc.of_drew.of_drew;have x1 :=Kept.at kc x1;have y1 :=Kept.at kc y1;have z1 :=Kept.at kc z1)
    | (go_at_call 121;refine (ha _ kc.drew).mono ?_;have hN :=HN.out;rintro e w2 ⟨s',n',c',rfl,k1,k2,k3⟩;have k3 :=((Chg.any kc (Blk sz)).trans k3.of_drew (fun _ _ _ h => h));obtain ⟨⟨u',z0'⟩,z1',zf'⟩ :=hz.after k3;have f0' :=zf' 0;have f1' :=zf' 1;have k2 : Fr w sz cz s' c' :=(by exact k2.mono kc.size);have hn0 : ¬ n' = 0 :=(fun h => hN (k1.eq_zero.2 h));obtain ⟨n',rfl⟩ : ∃ m,n' = m + 1 :=⟨n' - 1,by omega⟩;clear hN))
  first | go_ret | refine ⟨_,results_tmp rfl _ _ _,?_⟩
  obtain ⟨hp,hq⟩ :=HPQ.out
  have hN :=HN.out
  subst hp
  subst hq
  have e : (X - Y).natAbs = Y.natAbs - X.natAbs :=by simp at hs;omega
  exact ⟨rfl,recv_done _ (by first | (simp;omega) | (simp at hs;rw [Bool.eq_iff_iff];simp;omega)) hz (by rw [e];exact k1) k2 k3⟩
theorem int_sub (w0 w : World) (bz bx by' : Nat) (sz sx sy : Option Addr) (nz cz nx cx ny cy : Nat) (X Y : Int) (hz : Recv w0 w bz sz nz cz) (hx : IntA w bx sx nx cx X) (hy : IntA w by' sy ny cy Y) (bX : nx < Big) (bY : ny < Big) (hsx : Sep sx sz) (hsy : Sep sy sz) :
    Calls Tryz.prog 102 #[ptr bz,ptr bx,ptr by'] w fun e w' => e = .returned (ptr bz) ∧ RDone w0 w w' bz sz (X - Y) :=by
  cases hs : (!(decide (X < 0) == decide (Y < 0)))
  · rcases Nat.lt_or_ge X.natAbs Y.natAbs with hle | hle
    · by_cases hN : Y.natAbs - X.natAbs = 0
      · exact int_sub_lt0 w0 w bz bx by' sz sx sy nz cz nx cx ny cy X Y hz hx hy bX bY hsx hsy hs hle hN
      · exact int_sub_lt1 w0 w bz bx by' sz sx sy nz cz nx cx ny cy X Y hz hx hy bX bY hsx hsy hs hle hN
    · by_cases hN : X.natAbs - Y.natAbs = 0
      · exact int_sub_ge0 w0 w bz bx by' sz sx sy nz cz nx cx ny cy X Y hz hx hy bX bY hsx hsy hs hle hN
      · exact int_sub_ge1 w0 w bz bx by' sz sx sy nz cz nx cx ny cy X Y hz hx hy bX bY hsx hsy hs hle hN
  · by_cases hN : X.natAbs + Y.natAbs = 0
    · exact int_sub_same0 w0 w bz bx by' sz sx sy nz cz nx cx ny cy X Y hz hx hy bX bY hsx hsy hs hN
    · exact int_sub_same1 w0 w bz bx by' sz sx sy nz cz nx cx ny cy X Y hz hx hy bX bY hsx hsy hs hN
end Go.Proofs.YtfmmdamgcpiciaaGreatDoor
namespace Go.Proofs.YtfmmdamgcpiciaaGreatDoor
open Go Go.RowKit
theorem NatAt.unique {w : World} {s : Option Addr} {n c X Y : Nat} (hx : NatAt w s n c X) (hy : NatAt w s n c Y) : X = Y :=by
  obtain ⟨xs,a1,_,_,_,_,a6,a7,a8,rfl⟩ :=hx
  obtain ⟨ys,b1,_,_,_,_,b6,b7,b8,rfl⟩ :=hy
  congr 1
  apply List.ext_getElem?
  intro j
  rcases a6 with rfl | ⟨b,o,rfl,hr⟩
  · simp at a1;rw [← a1] at b1;rw [List.length_eq_zero_iff.1 b1]
  · have hr' :=Words.row b6
    by_cases hj : j < n
    · have h1 :=hr.cell j (by omega)
      have h2 :=hr'.cell j (by omega)
      rw [h1] at h2
      simp at h2
      rw [List.getElem?_eq_getElem (by omega),List.getElem?_eq_getElem (by omega),Int.ofNat.inj h2]
    · rw [List.getElem?_eq_none (by omega),List.getElem?_eq_none (by omega)]
def cmpZ (X Y : Int) : Int :=if X < Y then -1 else if Y < X then 1 else 0
theorem cmpZ_same {X Y : Int} (h : (decide (X < 0) == decide (Y < 0)) = true) : cmpZ X Y = if decide (X < 0) then -cmpI X.natAbs Y.natAbs else cmpI X.natAbs Y.natAbs :=by
  unfold cmpZ cmpI
  by_cases h1 : X < 0 <;> by_cases h2 : Y < 0 <;> simp [h1,h2] at h ⊢ <;> (repeat' split) <;> omega
theorem int_cmp (w : World) (bx by' : Nat) (X Y : Int) (hx : IntAt w bx X) (hy : IntAt w by' Y) :
    Calls Tryz.prog 89 #[ptr bx,ptr by'] w fun e w' => e = .returned (.int .i64 (cmpZ X Y)) ∧ Kept w w' :=by
  obtain ⟨sx,nx,cx,hx⟩ :=hx
  obtain ⟨sy,ny,cy,hy⟩ :=hy
  have hp :=(ptrRun53 w bx by' hx.neg hy.neg hx.nf hy.nf).1
  have x0 :=hx.neg
  have y0 :=hy.neg
  have x1 :=hx.abs
  have y1 :=hy.abs
  have hc :=fun W (hW : Kept w W) => nat_cmp W sx sy nx ny cx cy X.natAbs Y.natAbs (hx.nat.kept hW) (hy.nat.kept hW)
  by_cases hb : bx = by'
  · have hd : decide (bx = by' ∧ 0 = 0) = true :=by simp [hb]
    rw [hd] at hp
    have hXY : cmpZ X Y = 0 :=by
      subst hb
      have e1 :=x0.symm.trans y0
      have e2 :=x1.symm.trans y1
      simp only [Option.some.injEq,Value.bool.injEq,Value.slice.injEq] at e1 e2
      obtain ⟨rfl,rfl,rfl⟩ :=e2
      have h1 :=(NatAt.unique hx.nat hy.nat)
      unfold cmpZ
      by_cases hX : X < 0 <;> by_cases hY : Y < 0 <;> simp [hX,hY] at e1 <;> (repeat' split) <;> omega
    rw [hXY]
    clear hd hXY hb
    go_enter Tryz.func89,Tryz.ntmps89
    go_wp2
    first | go_ret | refine ⟨_,results_tmp rfl _ _ _,?_⟩
    exact ⟨rfl,Chg.refl _ _⟩
  · have hd : decide (bx = by' ∧ 0 = 0) = false :=by simp [hb]
    rw [hd] at hp
    by_cases hs : (decide (X < 0) == decide (Y < 0)) = true
    · rw [cmpZ_same hs]
      have hcb : -1 ≤ cmpI X.natAbs Y.natAbs ∧ cmpI X.natAbs Y.natAbs ≤ 1 :=by unfold cmpI;(repeat' split) <;> omega
      obtain ⟨hc1,hc2⟩ :=hcb
      generalize cmpI X.natAbs Y.natAbs = cv at *
      generalize decide (X < 0) = p at *
      generalize decide (Y < 0) = q at *
      have hpq : q = p :=by revert hs;cases p <;> cases q <;> simp
      subst hpq
      clear hs hd hb
      cases q
      · go_enter Tryz.func89,Tryz.ntmps89
        go_wp2_with (first
          | (refine wp_region_lit_segs (id :=3) [[0,1,2,3,4,5,6,7,8,9]] mixed (by kernel_rfl) ?_;simp only [wpSegsL,gaC,gaN,lZ0,lS0,coS])
          | (refine wp_region_lit_segs (id :=4) [[0,1,2,3,4,5,6,7,8,9]] mixed (by kernel_rfl) ?_;simp only [wpSegsL,gaC,gaN,lZ0,lS0,coS])
          | refine ⟨by kernel_rfl,?_⟩
          | (go_at_call 109;refine (hc _ (Chg.refl _ _).drew.drew).mono ?_;rintro e w1 ⟨rfl,kc⟩;have kc :=kc.of_drew.of_drew;have x0 :=Kept.at kc x0;have KC :=Lib.hid kc;clear kc))
        first | go_ret | refine ⟨_,results_tmp rfl _ _ _,?_⟩
        exact ⟨rfl,KC.out⟩
      · go_enter Tryz.func89,Tryz.ntmps89
        go_wp2_with (first
          | (refine wp_region_lit_segs (id :=3) [[0,1,2,3,4,5,6,7,8,9]] mixed (by kernel_rfl) ?_;simp only [wpSegsL,gaC,gaN,lZ0,lS0,coS])
          | (refine wp_region_lit_segs (id :=4) [[0,1,2,3,4,5,6,7,8,9]] mixed (by kernel_rfl) ?_;simp only [wpSegsL,gaC,gaN,lZ0,lS0,coS])
          | refine ⟨by kernel_rfl,?_⟩
          | (go_at_call 109;refine (hc _ (Chg.refl _ _).drew.drew).mono ?_;rintro e w1 ⟨rfl,kc⟩;have kc :=kc.of_drew.of_drew;have x0 :=Kept.at kc x0;have KC :=Lib.hid kc;clear kc))
        first | go_ret | refine ⟨_,results_tmp rfl _ _ _,?_⟩
        exact ⟨by first | rfl | simp,KC.out⟩
    · have hs' : (decide (X < 0) == decide (Y < 0)) = false :=by simpa using hs
      by_cases hX : X < 0
      · have hY : decide (Y < 0) = false :=by by_cases hY : Y < 0 <;> simp [hX,hY] at hs ⊢ <;> omega
        have hX' : decide (X < 0) = true :=by simpa using hX
        have hv : cmpZ X Y = -1 :=by unfold cmpZ;rw [if_pos];simp at hY;omega
        rw [hv]
        rw [hX'] at x0
        rw [hY] at y0
        clear hX' hY hv hs hs' hd hb
        go_enter Tryz.func89,Tryz.ntmps89
        go_wp2_with (first
          | (refine wp_region_lit_segs (id :=3) [[0,1,2,3,4,5,6,7,8,9]] mixed (by kernel_rfl) ?_;simp only [wpSegsL,gaC,gaN,lZ0,lS0,coS])
          | (refine wp_region_lit_segs (id :=4) [[0,1,2,3,4,5,6,7,8,9]] mixed (by kernel_rfl) ?_;simp only [wpSegsL,gaC,gaN,lZ0,lS0,coS])
          | refine ⟨by kernel_rfl,?_⟩)
        first | go_ret | refine ⟨_,results_tmp rfl _ _ _,?_⟩
        exact ⟨rfl,(Chg.refl _ _).drew⟩
      · have hX' : decide (X < 0) = false :=by simpa using hX
        have hY : decide (Y < 0) = true :=by by_cases hY : Y < 0 <;> simp [hX,hY] at hs ⊢
        have hv : cmpZ X Y = 1 :=by unfold cmpZ;simp at hY;rw [if_neg (by omega),if_pos (by omega)]
        rw [hv]
        rw [hX'] at x0
        rw [hY] at y0
        clear hX' hY hv hs hs' hd hb
        go_enter Tryz.func89,Tryz.ntmps89
        go_wp2_with (first
          | (refine wp_region_lit_segs (id :=3) [[0,1,2,3,4,5,6,7,8,9]] mixed (by kernel_rfl) ?_;simp only [wpSegsL,gaC,gaN,lZ0,lS0,coS])
          | (refine wp_region_lit_segs (id :=4) [[0,1,2,3,4,5,6,7,8,9]] mixed (by kernel_rfl) ?_;simp only [wpSegsL,gaC,gaN,lZ0,lS0,coS])
          | refine ⟨by kernel_rfl,?_⟩)
        first | go_ret | refine ⟨_,results_tmp rfl _ _ _,?_⟩
        exact ⟨rfl,(Chg.refl _ _).drew⟩
theorem IntAt_same {w : World} {bx by' : Nat} {X Y : Int} (hb : bx = by') (hx : IntAt w bx X) (hy : IntAt w by' Y) : X = Y :=by
  subst hb
  obtain ⟨sx,nx,cx,hx⟩ :=hx
  obtain ⟨sy,ny,cy,hy⟩ :=hy
  have e1 :=hx.neg.symm.trans hy.neg
  have e2 :=hx.abs.symm.trans hy.abs
  simp only [Option.some.injEq,Value.bool.injEq,Value.slice.injEq] at e1 e2
  obtain ⟨rfl,rfl,rfl⟩ :=e2
  have h1 :=NatAt.unique hx.nat hy.nat
  by_cases hX : X < 0 <;> by_cases hY : Y < 0 <;> simp [hX,hY] at e1 <;> omega
theorem mul_sign_s {w : World} {bx by' : Nat} {X Y : Int} (hb : bx = by') (hx : IntAt w bx X) (hy : IntAt w by' Y) : false = decide (X * Y < 0) :=by
  obtain rfl :=IntAt_same hb hx hy
  have : 0 ≤ X * X :=by rcases Int.le_total 0 X with h | h;exact Int.mul_nonneg h h;exact Int.mul_nonneg_of_nonpos_of_nonpos h h
  simp;omega
theorem done_drew {w0 w : World} {b : Nat} {X : Int} (h : IntN w0 w b X ∧ Kept w0 w) : IntN w0 w.drew b X ∧ Kept w0 w.drew :=⟨h.1.kept (Chg.refl w _).drew,h.2.drew⟩
theorem mul_sign0 {X Y : Int} (h : X.natAbs * Y.natAbs = 0) : false = decide (X * Y < 0) :=by
  rw [← Int.natAbs_mul] at h
  simp;omega
theorem mul_sign1 {X Y : Int} (h : X.natAbs * Y.natAbs ≠ 0) : (decide (X < 0) != decide (Y < 0)) = decide (X * Y < 0) :=by
  have hX : X ≠ 0 :=fun e => by subst e;simp at h
  have hY : Y ≠ 0 :=fun e => by subst e;simp at h
  rcases Int.lt_or_gt_of_ne hX with h1 | h1 <;> rcases Int.lt_or_gt_of_ne hY with h2 | h2
  · have :=Int.mul_pos_of_neg_of_neg h1 h2
    simp [h1,h2];omega
  · have :=Int.mul_neg_of_neg_of_pos h1 h2
    have h3 : ¬ Y < 0 :=by omega
    simp [h1,h3,this]
  · have :=Int.mul_neg_of_pos_of_neg h1 h2
    have h3 : ¬ X < 0 :=by omega
    simp [h2,h3,this]
  · have :=Int.mul_pos h1 h2
    have h3 : ¬ X < 0 :=by omega
    have h4 : ¬ Y < 0 :=by omega
    simp [h3,h4];omega
theorem int_mul_s0 (w0 w : World) (hg : Glob w) (hk : Kept w0 w) (bz bx by' : Nat) (hb : w0.heap.size ≤ bz) (hz : ZeroInt w bz) (X Y : Int) (hx : IntAt w bx X) (hy : IntAt w by' Y) (hxb : bx ≠ bz) (hyb : by' ≠ bz) (hb2 : bx = by') (b12 : X.natAbs < W64 ^ 11) (hN : X.natAbs * X.natAbs = 0) :
    Calls Tryz.prog 110 #[ptr bz,.pointer none,ptr bx,ptr by'] w fun e w' => e = .returned (.tuple #[]) ∧ IntN w0 w' bz (X * Y) ∧ Kept w0 w' :=by
  have hxx :=hx
  have hyy :=hy
  obtain ⟨sx,nx,cx,hx⟩ :=hx
  obtain ⟨sy,ny,cy,hy⟩ :=hy
  have hp :=(ptrRun53 w bx by' hx.neg hy.neg hx.nf hy.nf).1
  have hd : decide (bx = by' ∧ 0 = 0) = true :=by simp [hb2]
  rw [hd] at hp
  have x0 :=hx.neg
  have y0 :=hy.neg
  have x1 :=hx.abs
  have y1 :=hy.abs
  have z0 :=hz.neg
  have z1 :=hz.abs
  have f0 :=hz.nf 0
  have f1 :=hz.nf 1
  have ha :=fun W (hW : Kept w W) => nat_sqr W (.pointer none) none sx 0 0 nx cx X.natAbs (hg.kept hW) (.inl ⟨rfl,rfl⟩) (by omega) (hx.nat.kept hW) (Nat.lt_of_le_of_lt (hx.nat.len_lt b12) (by decide)) (Dis.nil _)
  have HX : ∃ p,p = decide (X < 0) :=⟨_,rfl⟩
  have HY : ∃ p,p = decide (Y < 0) :=⟨_,rfl⟩
  obtain ⟨p,hp2⟩ :=HX
  obtain ⟨q,hq2⟩ :=HY
  rw [← hp2] at x0
  rw [← hq2] at y0
  have HPQ :=Lib.hid (And.intro hp2 hq2)
  have HN :=Lib.hid hN
  have HB :=Lib.hid hb2
  clear hp2 hq2 hN hd hb2
  go_enter Tryz.func110,Tryz.ntmps110
  go_wp2_with (first
    | (refine wp_region_lit_segs (id :=1) [[0,1,2,3,4,5,6,7,8,9,10,11,12,13]] mixed (by kernel_rfl) ?_;simp only [wpSegsL,gaC,gaN,lZ0,lS0,coS])
    | (refine wp_region_lit_segs (id :=3) [[0,1,2,3,4,5,6,7,8,9,10,11,12,13,14,15,16,17]] mixed (by kernel_rfl) ?_;simp only [wpSegsL,gaC,gaN,lZ0,lS0,coS])
    | (refine wp_region_lit_segs (id :=4) [[0,1,2,3,4,5,6,7,8,9,10,11,12,13,14,15,16,17,18,19,20]] mixed (by kernel_rfl) ?_;simp only [wpSegsL,gaC,gaN,lZ0,lS0,coS])
    | refine ⟨by kernel_rfl,?_⟩
    | (go_at_call 127;refine (ha _ (Chg.refl _ _).drew).mono ?_;rintro e w1 ⟨s',n',c',rfl,k1,k2,k3⟩;have k3 :=k3.of_drew.noneK;obtain ⟨z0',z1',zf'⟩ :=hz.kept k3;have f0' :=zf' 0;have f1' :=zf' 1;have x2 :=cs_ne (u :=.slice s' n' c') (k3.at x0) (b' :=bz) (o' :=1) (by omega);have y2 :=cs_ne (u :=.slice s' n' c') (k3.at y0) (b' :=bz) (o' :=1) (by omega);have z2 :=cell_setCell_eq (v :=.slice s' n' c') z1';have hN :=HN.out;obtain rfl : n' = 0 :=k1.eq_zero.1 (by omega);clear hN))
  first | go_end0 | refine ⟨_,results_none rfl _ _ _,?_⟩
  obtain ⟨hp,hq⟩ :=HPQ.out
  have hN :=HN.out
  have hb2 :=HB.out
  have e : (X * Y).natAbs = X.natAbs * X.natAbs :=by obtain rfl :=IntAt_same hb2 hxx hyy;exact Int.natAbs_mul _ _
  have hd :=int_done (X :=X * Y) _ (mul_sign_s hb2 hxx hyy) hk hb hz (by rw [e];exact k1) k2 k3
  first | exact ⟨rfl,hd⟩ | exact ⟨rfl,done_drew hd⟩
theorem int_mul_d0 (w0 w : World) (hg : Glob w) (hk : Kept w0 w) (bz bx by' : Nat) (hb : w0.heap.size ≤ bz) (hz : ZeroInt w bz) (X Y : Int) (hx : IntAt w bx X) (hy : IntAt w by' Y) (hxb : bx ≠ bz) (hyb : by' ≠ bz) (hb2 : bx ≠ by') (b39 : X.natAbs < W39 ∧ Y.natAbs < W39) (hN : X.natAbs * Y.natAbs = 0) :
    Calls Tryz.prog 110 #[ptr bz,.pointer none,ptr bx,ptr by'] w fun e w' => e = .returned (.tuple #[]) ∧ IntN w0 w' bz (X * Y) ∧ Kept w0 w' :=by
  have hxx :=hx
  have hyy :=hy
  obtain ⟨sx,nx,cx,hx⟩ :=hx
  obtain ⟨sy,ny,cy,hy⟩ :=hy
  have hp :=(ptrRun53 w bx by' hx.neg hy.neg hx.nf hy.nf).1
  have hd : decide (bx = by' ∧ 0 = 0) = false :=by simp [hb2]
  rw [hd] at hp
  have x0 :=hx.neg
  have y0 :=hy.neg
  have x1 :=hx.abs
  have y1 :=hy.abs
  have z0 :=hz.neg
  have z1 :=hz.abs
  have f0 :=hz.nf 0
  have f1 :=hz.nf 1
  have ha :=fun W (hW : Kept w W) => nat_mul W (.pointer none) none sx sy 0 0 nx ny cx cy X.natAbs Y.natAbs (hg.kept hW) (.inl ⟨rfl,rfl⟩) (by omega) (hx.nat.kept hW) (hy.nat.kept hW) (Nat.lt_of_le_of_lt (hx.nat.len_lt b39.1) (by decide)) (Nat.lt_of_le_of_lt (hy.nat.len_lt b39.2) (by decide)) (Dis.nil _) (Dis.nil _)
  have HX : ∃ p,p = decide (X < 0) :=⟨_,rfl⟩
  have HY : ∃ p,p = decide (Y < 0) :=⟨_,rfl⟩
  obtain ⟨p,hp2⟩ :=HX
  obtain ⟨q,hq2⟩ :=HY
  rw [← hp2] at x0
  rw [← hq2] at y0
  have HPQ :=Lib.hid (And.intro hp2 hq2)
  have HN :=Lib.hid hN
  have HB :=Lib.hid hb2
  clear hp2 hq2 hN hd hb2
  go_enter Tryz.func110,Tryz.ntmps110
  go_wp2_with (first
    | (refine wp_region_lit_segs (id :=1) [[0,1,2,3,4,5,6,7,8,9,10,11,12,13]] mixed (by kernel_rfl) ?_;simp only [wpSegsL,gaC,gaN,lZ0,lS0,coS])
    | (refine wp_region_lit_segs (id :=3) [[0,1,2,3,4,5,6,7,8,9,10,11,12,13,14,15,16,17]] mixed (by kernel_rfl) ?_;simp only [wpSegsL,gaC,gaN,lZ0,lS0,coS])
    | (refine wp_region_lit_segs (id :=4) [[0,1,2,3,4,5,6,7,8,9,10,11,12,13,14,15,16,17,18,19,20]] mixed (by kernel_rfl) ?_;simp only [wpSegsL,gaC,gaN,lZ0,lS0,coS])
    | refine ⟨by kernel_rfl,?_⟩
    | (go_at_call 128;refine (ha _ (Chg.refl _ _).drew).mono ?_;rintro e w1 ⟨s',n',c',rfl,k1,k2,k3⟩;have k3 :=k3.of_drew.noneK;obtain ⟨z0',z1',zf'⟩ :=hz.kept k3;have f0' :=zf' 0;have f1' :=zf' 1;have x2 :=cs_ne (u :=.slice s' n' c') (k3.at x0) (b' :=bz) (o' :=1) (by omega);have y2 :=cs_ne (u :=.slice s' n' c') (k3.at y0) (b' :=bz) (o' :=1) (by omega);have z2 :=cell_setCell_eq (v :=.slice s' n' c') z1';have hN :=HN.out;obtain rfl : n' = 0 :=k1.eq_zero.1 (by omega);clear hN))
  first | go_end0 | refine ⟨_,results_none rfl _ _ _,?_⟩
  obtain ⟨hp,hq⟩ :=HPQ.out
  have hN :=HN.out
  have hb2 :=HB.out
  have e : (X * Y).natAbs = X.natAbs * Y.natAbs :=by exact Int.natAbs_mul _ _
  have hd :=int_done (X :=X * Y) _ (mul_sign0 hN) hk hb hz (by rw [e];exact k1) k2 k3
  first | exact ⟨rfl,hd⟩ | exact ⟨rfl,done_drew hd⟩
theorem int_mul_s1 (w0 w : World) (hg : Glob w) (hk : Kept w0 w) (bz bx by' : Nat) (hb : w0.heap.size ≤ bz) (hz : ZeroInt w bz) (X Y : Int) (hx : IntAt w bx X) (hy : IntAt w by' Y) (hxb : bx ≠ bz) (hyb : by' ≠ bz) (hb2 : bx = by') (b12 : X.natAbs < W64 ^ 11) (hN : X.natAbs * X.natAbs ≠ 0) :
    Calls Tryz.prog 110 #[ptr bz,.pointer none,ptr bx,ptr by'] w fun e w' => e = .returned (.tuple #[]) ∧ IntN w0 w' bz (X * Y) ∧ Kept w0 w' :=by
  have hxx :=hx
  have hyy :=hy
  obtain ⟨sx,nx,cx,hx⟩ :=hx
  obtain ⟨sy,ny,cy,hy⟩ :=hy
  have hp :=(ptrRun53 w bx by' hx.neg hy.neg hx.nf hy.nf).1
  have hd : decide (bx = by' ∧ 0 = 0) = true :=by simp [hb2]
  rw [hd] at hp
  have x0 :=hx.neg
  have y0 :=hy.neg
  have x1 :=hx.abs
  have y1 :=hy.abs
  have z0 :=hz.neg
  have z1 :=hz.abs
  have f0 :=hz.nf 0
  have f1 :=hz.nf 1
  have ha :=fun W (hW : Kept w W) => nat_sqr W (.pointer none) none sx 0 0 nx cx X.natAbs (hg.kept hW) (.inl ⟨rfl,rfl⟩) (by omega) (hx.nat.kept hW) (Nat.lt_of_le_of_lt (hx.nat.len_lt b12) (by decide)) (Dis.nil _)
  have HX : ∃ p,p = decide (X < 0) :=⟨_,rfl⟩
  have HY : ∃ p,p = decide (Y < 0) :=⟨_,rfl⟩
  obtain ⟨p,hp2⟩ :=HX
  obtain ⟨q,hq2⟩ :=HY
  rw [← hp2] at x0
  rw [← hq2] at y0
  have HPQ :=Lib.hid (And.intro hp2 hq2)
  have HN :=Lib.hid hN
  have HB :=Lib.hid hb2
  clear hp2 hq2 hN hd hb2
  go_enter Tryz.func110,Tryz.ntmps110
  go_wp2_with (first
    | (refine wp_region_lit_segs (id :=1) [[0,1,2,3,4,5,6,7,8,9,10,11,12,13]] mixed (by kernel_rfl) ?_;simp only [wpSegsL,gaC,gaN,lZ0,lS0,coS])
    | (refine wp_region_lit_segs (id :=3) [[0,1,2,3,4,5,6,7,8,9,10,11,12,13,14,15,16,17]] mixed (by kernel_rfl) ?_;simp only [wpSegsL,gaC,gaN,lZ0,lS0,coS])
    | (refine wp_region_lit_segs (id :=4) [[0,1,2,3,4,5,6,7,8,9,10,11,12,13,14,15,16,17,18,19,20]] mixed (by kernel_rfl) ?_;simp only [wpSegsL,gaC,gaN,lZ0,lS0,coS])
    | refine ⟨by kernel_rfl,?_⟩
    | (go_at_call 127;refine (ha _ (Chg.refl _ _).drew).mono ?_;rintro e w1 ⟨s',n',c',rfl,k1,k2,k3⟩;have k3 :=k3.of_drew.noneK;obtain ⟨z0',z1',zf'⟩ :=hz.kept k3;have f0' :=zf' 0;have f1' :=zf' 1;have x2 :=cs_ne (u :=.slice s' n' c') (k3.at x0) (b' :=bz) (o' :=1) (by omega);have y2 :=cs_ne (u :=.slice s' n' c') (k3.at y0) (b' :=bz) (o' :=1) (by omega);have z2 :=cell_setCell_eq (v :=.slice s' n' c') z1';have hN :=HN.out;have hn0 : ¬ n' = 0 :=(fun h => by have :=k1.eq_zero.2 h;omega);obtain ⟨n',rfl⟩ : ∃ m,n' = m + 1 :=⟨n' - 1,by omega⟩;clear hN))
  first | go_end0 | refine ⟨_,results_none rfl _ _ _,?_⟩
  obtain ⟨hp,hq⟩ :=HPQ.out
  have hN :=HN.out
  have hb2 :=HB.out
  have e : (X * Y).natAbs = X.natAbs * X.natAbs :=by obtain rfl :=IntAt_same hb2 hxx hyy;exact Int.natAbs_mul _ _
  have hd :=int_done (X :=X * Y) _ (mul_sign_s hb2 hxx hyy) hk hb hz (by rw [e];exact k1) k2 k3
  first | exact ⟨rfl,hd⟩ | exact ⟨rfl,done_drew hd⟩
theorem int_mul_d1 (w0 w : World) (hg : Glob w) (hk : Kept w0 w) (bz bx by' : Nat) (hb : w0.heap.size ≤ bz) (hz : ZeroInt w bz) (X Y : Int) (hx : IntAt w bx X) (hy : IntAt w by' Y) (hxb : bx ≠ bz) (hyb : by' ≠ bz) (hb2 : bx ≠ by') (b39 : X.natAbs < W39 ∧ Y.natAbs < W39) (hN : X.natAbs * Y.natAbs ≠ 0) :
    Calls Tryz.prog 110 #[ptr bz,.pointer none,ptr bx,ptr by'] w fun e w' => e = .returned (.tuple #[]) ∧ IntN w0 w' bz (X * Y) ∧ Kept w0 w' :=by
  have hxx :=hx
  have hyy :=hy
  obtain ⟨sx,nx,cx,hx⟩ :=hx
  obtain ⟨sy,ny,cy,hy⟩ :=hy
  have hp :=(ptrRun53 w bx by' hx.neg hy.neg hx.nf hy.nf).1
  have hd : decide (bx = by' ∧ 0 = 0) = false :=by simp [hb2]
  rw [hd] at hp
  have x0 :=hx.neg
  have y0 :=hy.neg
  have x1 :=hx.abs
  have y1 :=hy.abs
  have z0 :=hz.neg
  have z1 :=hz.abs
  have f0 :=hz.nf 0
  have f1 :=hz.nf 1
  have ha :=fun W (hW : Kept w W) => nat_mul W (.pointer none) none sx sy 0 0 nx ny cx cy X.natAbs Y.natAbs (hg.kept hW) (.inl ⟨rfl,rfl⟩) (by omega) (hx.nat.kept hW) (hy.nat.kept hW) (Nat.lt_of_le_of_lt (hx.nat.len_lt b39.1) (by decide)) (Nat.lt_of_le_of_lt (hy.nat.len_lt b39.2) (by decide)) (Dis.nil _) (Dis.nil _)
  have HX : ∃ p,p = decide (X < 0) :=⟨_,rfl⟩
  have HY : ∃ p,p = decide (Y < 0) :=⟨_,rfl⟩
  obtain ⟨p,hp2⟩ :=HX
  obtain ⟨q,hq2⟩ :=HY
  rw [← hp2] at x0
  rw [← hq2] at y0
  have HPQ :=Lib.hid (And.intro hp2 hq2)
  have HN :=Lib.hid hN
  have HB :=Lib.hid hb2
  clear hp2 hq2 hN hd hb2
  go_enter Tryz.func110,Tryz.ntmps110
  go_wp2_with (first
    | (refine wp_region_lit_segs (id :=1) [[0,1,2,3,4,5,6,7,8,9,10,11,12,13]] mixed (by kernel_rfl) ?_;simp only [wpSegsL,gaC,gaN,lZ0,lS0,coS])
    | (refine wp_region_lit_segs (id :=3) [[0,1,2,3,4,5,6,7,8,9,10,11,12,13,14,15,16,17]] mixed (by kernel_rfl) ?_;simp only [wpSegsL,gaC,gaN,lZ0,lS0,coS])
    | (refine wp_region_lit_segs (id :=4) [[0,1,2,3,4,5,6,7,8,9,10,11,12,13,14,15,16,17,18,19,20]] mixed (by kernel_rfl) ?_;simp only [wpSegsL,gaC,gaN,lZ0,lS0,coS])
    | refine ⟨by kernel_rfl,?_⟩
    | (go_at_call 128;refine (ha _ (Chg.refl _ _).drew).mono ?_;rintro e w1 ⟨s',n',c',rfl,k1,k2,k3⟩;have k3 :=k3.of_drew.noneK;obtain ⟨z0',z1',zf'⟩ :=hz.kept k3;have f0' :=zf' 0;have f1' :=zf' 1;have x2 :=cs_ne (u :=.slice s' n' c') (k3.at x0) (b' :=bz) (o' :=1) (by omega);have y2 :=cs_ne (u :=.slice s' n' c') (k3.at y0) (b' :=bz) (o' :=1) (by omega);have z2 :=cell_setCell_eq (v :=.slice s' n' c') z1';have hN :=HN.out;have hn0 : ¬ n' = 0 :=(fun h => by have :=k1.eq_zero.2 h;omega);obtain ⟨n',rfl⟩ : ∃ m,n' = m + 1 :=⟨n' - 1,by omega⟩;clear hN))
  first | go_end0 | refine ⟨_,results_none rfl _ _ _,?_⟩
  obtain ⟨hp,hq⟩ :=HPQ.out
  have hN :=HN.out
  have hb2 :=HB.out
  have e : (X * Y).natAbs = X.natAbs * Y.natAbs :=by exact Int.natAbs_mul _ _
  have hd :=int_done (X :=X * Y) _ (show (!(p == q)) = _ by subst hp;subst hq;exact mul_sign1 hN) hk hb hz (by rw [e];exact k1) k2 k3
  first | exact ⟨rfl,hd⟩ | exact ⟨rfl,done_drew hd⟩
end Go.Proofs.YtfmmdamgcpiciaaGreatDoor
namespace Go.Proofs.YtfmmdamgcpiciaaGreatDoor
open Go Go.RowKit
theorem int_Mul (w0 w : World) (hg : Glob w) (hk : Kept w0 w) (bz bx by' : Nat) (hb : w0.heap.size ≤ bz) (hz : ZeroInt w bz) (X Y : Int) (hx : IntAt w bx X) (hy : IntAt w by' Y) (hxb : bx ≠ bz) (hyb : by' ≠ bz) (h11 : bx = by' → X.natAbs < W64 ^ 11) (hX : X.natAbs < W39) (hY : Y.natAbs < W39) :
    Calls Tryz.prog 91 #[ptr bz,ptr bx,ptr by'] w fun e w' => e = .returned (ptr bz) ∧ IntN w0 w' bz (X * Y) ∧ Kept w0 w' :=by
  have hm : Calls Tryz.prog 110 #[ptr bz,.pointer none,ptr bx,ptr by'] w fun e w' => e = .returned (.tuple #[]) ∧ IntN w0 w' bz (X * Y) ∧ Kept w0 w' :=by
    by_cases hbb : bx = by'
    · by_cases hN : X.natAbs * X.natAbs = 0
      · exact int_mul_s0 w0 w hg hk bz bx by' hb hz X Y hx hy hxb hyb hbb (h11 hbb) hN
      · exact int_mul_s1 w0 w hg hk bz bx by' hb hz X Y hx hy hxb hyb hbb (h11 hbb) hN
    · by_cases hN : X.natAbs * Y.natAbs = 0
      · exact int_mul_d0 w0 w hg hk bz bx by' hb hz X Y hx hy hxb hyb hbb ⟨hX,hY⟩ hN
      · exact int_mul_d1 w0 w hg hk bz bx by' hb hz X Y hx hy hxb hyb hbb ⟨hX,hY⟩ hN
  go_enter Tryz.func91,Tryz.ntmps91
  go_wp2_with (go_at_call 110;refine hm.mono ?_;rintro e w1 ⟨rfl,k⟩;have K :=Lib.hid k;clear k)
  first | go_ret | refine ⟨_,results_tmp rfl _ _ _,?_⟩
  exact ⟨rfl,K.out⟩
theorem NatAt.word (w : World) (x : Nat) (hx : x < W64) (h0 : x ≠ 0) (o : Obj) : NatAt ((w.alloc (.cells #[.int .u64 x] 109)).alloc o) (some ⟨w.heap.size,0,none⟩) 1 1 x :=by
  have hc : (w.alloc (.cells #[.int .u64 x] 109)).cell? ⟨w.heap.size,0,none⟩ = some (.int .u64 x) :=by rw [World.cell?_alloc_at _ _ _ _ rfl];rfl
  have hk : Kept (w.alloc (.cells #[.int .u64 x] 109)) ((w.alloc (.cells #[.int .u64 x] 109)).alloc o) :=Chg.alloc _ _ _
  refine NatAt.kept ⟨[x],rfl,Nat.le_refl _,by unfold Big;omega,by unfold Big;omega,?_,?_,Lt.one hx,Nz.one h0,by simp [val]⟩ hk
  · refine .inr ⟨_,0,rfl,fun j hj => ?_,NF.made w _ _,by simp⟩
    obtain rfl : j = 0 :=by omega
    exact ⟨⟨_,hc⟩,NF.made w _ _ _⟩
  · refine .inr ⟨_,0,rfl,fun j y hj => ?_⟩
    match j,hj with
    | 0,hj => simp at hj;subst hj;exact hc
theorem IntN.made (w : World) (x : Int) (u : Nat) (hu : u < W64) (hx : x.natAbs = u) (h0 : x ≠ 0) (v : Bool) (hv : v = decide (x < 0)) :
    IntN w ((w.alloc (.cells #[.int .u64 u] 109)).alloc (.cells #[.bool v,.slice (some ⟨w.heap.size,0,none⟩) 1 1] 112)) (w.heap.size + 1) x :=by
  subst hv
  have hs : (w.alloc (.cells #[.int .u64 u] 109)).heap.size = w.heap.size + 1 :=by simp
  refine ⟨some ⟨w.heap.size,0,none⟩,1,1,⟨?_,?_,?_,?_,?_⟩,by omega,?_⟩
  · rw [World.cell?_alloc_at _ _ _ _ hs.symm];rfl
  · rw [World.cell?_alloc_at _ _ _ _ hs.symm];rfl
  · rw [hx];exact NatAt.word w u hu (by omega) _
  · rw [← hs];exact NF.made _ _ _
  · intro a ha;simp only [Option.some.injEq] at ha;subst ha;show w.heap.size ≠ _;omega
  · intro a ha;simp only [Option.some.injEq] at ha;subst ha;exact Nat.le_refl _
theorem IntN.zero (w : World) : IntN w (w.alloc (.cells #[.bool false,.slice none 0 0] 112)) w.heap.size 0 :=by
  obtain ⟨z0,z1,zf⟩ :=ZeroInt.made w
  exact ⟨none,0,0,⟨z0,z1,sliceNil_nat (.inl ⟨rfl,rfl⟩) (by omega),zf,fun a h => by cases h⟩,Nat.le_refl _,fun a h => by cases h⟩
def NewInt (w : World) (X : Int) (e : Ending) (w' : World) : Prop :=∃ b,e = .returned (ptr b) ∧ IntN w w' b X ∧ Kept w w'
theorem int_new (w : World) (x : Int) (h1 : -9223372036854775808 ≤ x) (h2 : x ≤ 9223372036854775807) : Calls Tryz.prog 93 #[.int .i64 x] w (NewInt w x) :=by
  rcases Int.lt_trichotomy x 0 with hx | rfl | hx
  · obtain ⟨u,rfl⟩ : ∃ u : Nat,x = -(u : Int) :=⟨x.natAbs,by omega⟩
    have hwr : IntKind.u64.wrap (-IntKind.u64.wrap (-(u : Int))) = (u : Int) :=by simp [IntKind.wrap,IntKind.signed,IntKind.bits];omega
    go_enter Tryz.func93,Tryz.ntmps93
    go_wp2
    first | go_ret | refine ⟨_,results_tmp rfl _ _ _,?_⟩
    refine ⟨_,rfl,IntN.made w (-(u : Int)) u (by unfold W64;omega) (by omega) (by omega) _ (by first | (simp;done) | (simp;omega)),?_⟩
    exact Chg.trans (Chg.alloc _ _ None2) (Chg.alloc _ _ None2) fun _ _ _ h => h
  · go_enter Tryz.func93,Tryz.ntmps93
    go_wp2
    first | go_ret | refine ⟨_,results_tmp rfl _ _ _,?_⟩
    exact ⟨_,rfl,IntN.zero w,Chg.alloc _ _ _⟩
  · obtain ⟨u,rfl⟩ : ∃ u : Nat,x = (u : Int) :=⟨x.natAbs,by omega⟩
    go_enter Tryz.func93,Tryz.ntmps93
    go_wp2
    first | go_ret | refine ⟨_,results_tmp rfl _ _ _,?_⟩
    refine ⟨_,rfl,IntN.made w u u (by unfold W64;omega) (by omega) (by omega) _ (by first | (simp;done) | (simp;omega)),?_⟩
    exact Chg.trans (Chg.alloc _ _ None2) (Chg.alloc _ _ None2) fun _ _ _ h => h
end Go.Proofs.YtfmmdamgcpiciaaGreatDoor
namespace Go.Proofs.YtfmmdamgcpiciaaGreatDoor
open Go Go.RowKit
theorem bitLen_64 {x : Nat} (hx : x < W64) : Lib.bitLen x ≤ 64 :=Lib.bitLen_le x 64 (by omega) hx
theorem len8_size : Lib.len8tab.size = 256 :=by kernel_rfl
theorem len8_fin : ∀ b : Fin 256,(Lib.len8tab.get b.val (by rw [len8_size];exact b.isLt)).toNat = Lib.bitLen b.val :=by decide +kernel
theorem len8_at (b : Int) (h : 0 ≤ b ∧ b < Lib.len8tab.size) : ((Lib.len8tab[b.toNat]'(by omega)).toNat : Int) = (Lib.bitLen b.toNat : Int) :=by
  have :=len8_fin ⟨b.toNat,by have hsz :=len8_size;omega⟩
  rw [← this]
  rfl
theorem len64' (x : Int) (w : World) (h0 : 0 ≤ x) (h1 : x ≤ 18446744073709551615) :
    Calls Tryz.prog 195 #[.int .u64 x] w fun e w' => e = .returned (.int .i64 (Lib.bitLen x.toNat)) ∧ w' = w :=by
  go_enter Tryz.func195,Tryz.ntmps195
  go_wp2
  all_goals first
    | (exfalso;have hsz :=len8_size;omega)
    | (go_ret;refine ⟨congrArg Ending.returned (congrArg (Value.int IntKind.i64) ?_),rfl⟩)
  all_goals first
    | (rw [len8_at (x / 4294967296 / 65536 / 256) (by assumption)]
       have s :=Lib.bitLen_shift56 x.toNat (by omega) (by omega)
       rw [show (x / 4294967296 / 65536 / 256).toNat = x.toNat / 72057594037927936 by omega]
       have l :=bitLen_64 (x :=x.toNat) (by unfold W64;omega)
       unfold wrap64;omega)
    | (rw [len8_at (x / 4294967296 / 65536) (by assumption)]
       have s :=Lib.bitLen_shift48 x.toNat (by omega) (by omega)
       rw [show (x / 4294967296 / 65536).toNat = x.toNat / 281474976710656 by omega]
       have l :=bitLen_64 (x :=x.toNat) (by unfold W64;omega)
       unfold wrap64;omega)
    | (rw [len8_at (x / 4294967296 / 256) (by assumption)]
       have s :=Lib.bitLen_shift40 x.toNat (by omega) (by omega)
       rw [show (x / 4294967296 / 256).toNat = x.toNat / 1099511627776 by omega]
       have l :=bitLen_64 (x :=x.toNat) (by unfold W64;omega)
       unfold wrap64;omega)
    | (rw [len8_at (x / 4294967296) (by assumption)]
       have s :=Lib.bitLen_shift32 x.toNat (by omega) (by omega)
       rw [show (x / 4294967296).toNat = x.toNat / 4294967296 by omega]
       have l :=bitLen_64 (x :=x.toNat) (by unfold W64;omega)
       unfold wrap64;omega)
    | (rw [len8_at (x / 65536 / 256) (by assumption)]
       have s :=Lib.bitLen_shift24 x.toNat (by omega) (by omega)
       rw [show (x / 65536 / 256).toNat = x.toNat / 16777216 by omega]
       have l :=bitLen_64 (x :=x.toNat) (by unfold W64;omega)
       unfold wrap64;omega)
    | (rw [len8_at (x / 65536) (by assumption)]
       have s :=Lib.bitLen_shift16 x.toNat (by omega) (by omega)
       rw [show (x / 65536).toNat = x.toNat / 65536 by omega]
       have l :=bitLen_64 (x :=x.toNat) (by unfold W64;omega)
       unfold wrap64;omega)
    | (rw [len8_at (x / 256) (by assumption)]
       have s :=Lib.bitLen_shift8 x.toNat (by omega) (by omega)
       rw [show (x / 256).toNat = x.toNat / 256 by omega]
       have l :=bitLen_64 (x :=x.toNat) (by unfold W64;omega)
       unfold wrap64;omega)
    | (have hsz :=len8_size
       rw [len8_at x ⟨by omega,by omega⟩]
       have l :=bitLen_64 (x :=x.toNat) (by unfold W64;omega)
       unfold wrap64;omega)
theorem len64 (x : Nat) (hx : x < W64) (w : World) : Calls Tryz.prog 195 #[.int .u64 x] w fun e w' => e = .returned (.int .i64 (Lib.bitLen x : Nat)) ∧ w' = w :=
  len64' x w (by omega) (by unfold W64 at hx;omega)
theorem bitsLen (x : Nat) (hx : x < W64) (w : World) : Calls Tryz.prog 262 #[.int .u64 x] w fun e w' => e = .returned (.int .i64 (Lib.bitLen x : Nat)) ∧ w' = w :=by
  have h :=len64 x hx w
  unfold W64 at hx
  go_enter Tryz.func262,Tryz.ntmps262
  go_wp2_with (go_at_call 195;refine h.mono ?_;rintro e w' ⟨rfl,hw⟩;rw [hw])
  first | go_ret | refine ⟨_,results_tmp rfl _ _ _,?_⟩
  exact ⟨rfl,rfl⟩
theorem bitLen_bounds {x : Nat} (hx : x < W64) (h0 : x ≠ 0) : 1 ≤ Lib.bitLen x ∧ 2 ^ (Lib.bitLen x - 1) ≤ x ∧ x < 2 ^ Lib.bitLen x :=Lib.bitLenAux_bounds 64 x hx h0
theorem leadingZeros (x : Nat) (hx : x < W64) (w : World) : Calls Tryz.prog 225 #[.int .u64 x] w fun e w' => e = .returned (.int .i64 ((64 - Lib.bitLen x : Nat) : Int)) ∧ w' = w :=by
  have h :=bitsLen x hx w
  have h2 :=bitLen_64 hx
  have e : ((64 - Lib.bitLen x : Nat) : Int) = 64 - (Lib.bitLen x : Int) :=by omega
  rw [e]
  unfold W64 at hx
  clear e
  go_enter Tryz.func225,Tryz.ntmps225
  go_wp2_with (go_at_call 262;refine h.mono ?_;rintro e w' ⟨rfl,hw⟩;rw [hw])
  first | go_ret | refine ⟨_,results_tmp rfl _ _ _,?_⟩
  exact ⟨rfl,rfl⟩
theorem leadingZeros64 (x : Nat) (hx : x < W64) (w : World) : Calls Tryz.prog 270 #[.int .u64 x] w fun e w' => e = .returned (.int .i64 ((64 - Lib.bitLen x : Nat) : Int)) ∧ w' = w :=by
  have h :=len64 x hx w
  have h2 :=bitLen_64 hx
  have e : ((64 - Lib.bitLen x : Nat) : Int) = 64 - (Lib.bitLen x : Int) :=by omega
  rw [e]
  unfold W64 at hx
  clear e
  go_enter Tryz.func270,Tryz.ntmps270
  go_wp2_with (go_at_call 195;refine h.mono ?_;rintro e w' ⟨rfl,hw⟩;rw [hw])
  first | go_ret | refine ⟨_,results_tmp rfl _ _ _,?_⟩
  exact ⟨rfl,rfl⟩
theorem nlz (x : Nat) (hx : x < W64) (w : World) : Calls Tryz.prog 185 #[.int .u64 x] w fun e w' => e = .returned (.int .u64 ((64 - Lib.bitLen x : Nat) : Int)) ∧ w' = w :=by
  have h :=leadingZeros x hx w
  generalize hz : 64 - Lib.bitLen x = z at *
  have hzl : z ≤ 64 :=by omega
  unfold W64 at hx
  clear hz
  go_enter Tryz.func185,Tryz.ntmps185
  go_wp2_with (go_at_call 225;refine h.mono ?_;rintro e w' ⟨rfl,hw⟩;rw [hw])
  first | go_ret | refine ⟨_,results_tmp rfl _ _ _,?_⟩
  exact ⟨rfl,rfl⟩
end Go.Proofs.YtfmmdamgcpiciaaGreatDoor
namespace Go.Proofs.YtfmmdamgcpiciaaGreatDoor
open Go Go.RowKit
def NewS (w : World) (s : Option Addr) : Prop :=∀ a,s = some a → w.heap.size ≤ a.block
theorem NatAt.lt {w : World} {s : Option Addr} {n c X : Nat} (h : NatAt w s n c X) : ∀ a,s = some a → a.block < w.heap.size :=by
  intro a ha
  rcases h.ok.1 with ⟨h1,_⟩ | ⟨b',o',h1,_,_,h2⟩
  · rw [h1] at ha;cases ha
  · rw [h1] at ha
    simp only [Option.some.injEq] at ha
    subst ha
    exact h2
theorem NewS.dis {w : World} {s t : Option Addr} (h : NewS w t) (hs : ∀ a,s = some a → a.block < w.heap.size) : Dis s t :=fun a b h1 h2 => by
  have :=h b h2
  have :=hs a h1
  omega
theorem Fr.dis {w : World} {s s' t : Option Addr} {c c' : Nat} (h : Fr w s c s' c') (hd : Dis t s) (ht : ∀ a,t = some a → a.block < w.heap.size) : Dis t s' :=fun a b h1 h2 => by
  rcases h with ⟨rfl,_⟩ | ⟨b',rfl,hb⟩
  · exact hd a b h1 h2
  · have :=ht a h1
    simp only [Option.some.injEq] at h2
    subst h2
    show a.block ≠ b'
    omega
theorem NewS.kept {w w1 w2 : World} {s : Option Addr} (h : NewS w s) (hk : Kept w w1) (k : Chg w1 w2 (Blk s)) : Kept w w2 :=hk.keptNew k fun _ _ e => Blk.old h e
theorem Dis.blk {s t : Option Addr} (h : Dis s t) : ∀ b o,s = some ⟨b,o,Option.none⟩ → ∀ o',¬ Blk t b o' :=fun _ _ h1 _ ⟨_,h2⟩ => h _ _ h1 h2 rfl
theorem getStack (w : World) : Calls Tryz.prog 144 #[] w fun e w' => ∃ b,e = .returned (ptr b) ∧ w'.cell? ⟨b,0,none⟩ = some (.pointer none) ∧ NF w' b ∧ w.heap.size ≤ b ∧ Kept w w' :=by
  go_enter Tryz.func144,Tryz.ntmps144
  go_wp2
  first | go_ret | refine ⟨_,results_tmp rfl _ _ _,?_⟩
  exact ⟨_,rfl,by rw [World.cell?_alloc_at _ _ _ _ rfl];rfl,NF.made w _ _,Nat.le_refl _,Chg.alloc _ _ _⟩
theorem stack_free0 (u : FrameMode) (w : World) (b : Nat) (h : w.cell? ⟨b,0,none⟩ = some (.pointer none)) : CallsD Tryz.prog 145 #[ptr b] u w fun e u' w' => u' = u ∧ (e = .returned (.tuple #[]) ∧ w' = w) :=by
  go_enter_d Tryz.func145,Tryz.ntmps145
  go_wp2
  go_end0
  exact ⟨rfl,rfl⟩
theorem wrap_u64 (n : Int) : IntKind.u64.wrap n = n % 18446744073709551616 :=by simp [IntKind.wrap,IntKind.bits,IntKind.signed]
theorem wrap_u64_in (n : Int) (h : 0 ≤ n) (h2 : n < 18446744073709551616) : IntKind.u64.wrap n = n :=by rw [wrap_u64];omega
theorem wraps_u64 (n : Int) (h₀ : 0 ≤ n) (h₁ : n < 2 ^ 64) : IntKind.u64.wrap n = n :=by rw [wrap_u64];omega
theorem and_u64 (a b : Nat) (ha : a < 2 ^ 64) (hb : b < 2 ^ 64) : bits .and .u64 (a : Int) (b : Int) = ((a &&& b : Nat) : Int) :=(bits_nat .u64 64 (by decide) wraps_u64 a b ha hb).1
theorem or_u64 (a b : Nat) (ha : a < 2 ^ 64) (hb : b < 2 ^ 64) : bits .or .u64 (a : Int) (b : Int) = ((a ||| b : Nat) : Int) :=(bits_nat .u64 64 (by decide) wraps_u64 a b ha hb).2
theorem and_two_pow' (u i : Nat) : u &&& 2 ^ i = if u.testBit i then 2 ^ i else 0 :=by
  apply Nat.eq_of_testBit_eq
  intro j
  rw [Nat.testBit_and,Nat.testBit_two_pow]
  by_cases h : i = j
  · subst h
    cases hb : u.testBit i <;> simp
  · cases hb : u.testBit i <;> simp [h]
theorem topBit (u : Nat) (hu : u < 2 ^ 64) : bits .and .u64 (u : Int) 9223372036854775808 = if 2 ^ 63 ≤ u then 9223372036854775808 else 0 :=by
  have h :=and_u64 u (2 ^ 63) hu (by decide)
  have e : ((2 ^ 63 : Nat) : Int) = 9223372036854775808 :=by decide
  rw [e] at h
  rw [h,and_two_pow',Nat.testBit_eq_decide_div_mod_eq]
  by_cases hc : 2 ^ 63 ≤ u
  · have : u / 2 ^ 63 % 2 = 1 :=by omega
    simp [hc,this]
  · have : u / 2 ^ 63 % 2 = 0 :=by omega
    simp [hc,this]
theorem expo_step (v f sh : Nat) (h : sh + (f + 1) = 64) :
    (2 ^ 63 ≤ v * 2 ^ sh % 2 ^ 64 → v / 2 ^ f = 2 * (v / 2 ^ (f + 1)) + 1) ∧ (v * 2 ^ sh % 2 ^ 64 < 2 ^ 63 → v / 2 ^ f = 2 * (v / 2 ^ (f + 1))) :=by
  have e64 : 2 ^ 64 = 2 ^ (f + 1) * 2 ^ sh :=by rw [← Nat.pow_add];congr 1;omega
  have e63 : 2 ^ 63 = 2 ^ f * 2 ^ sh :=by rw [← Nat.pow_add];congr 1;omega
  rw [e64,Nat.mul_mod_mul_right,e63]
  have hq : v / 2 ^ (f + 1) = v / 2 ^ f / 2 :=by rw [Nat.pow_succ,Nat.div_div_eq_div_mul]
  have hr : v % 2 ^ (f + 1) = v % 2 ^ f + 2 ^ f * (v / 2 ^ f % 2) :=by rw [Nat.pow_succ,Nat.mod_mul]
  have hlt : v % 2 ^ f < 2 ^ f :=Nat.mod_lt _ (Nat.two_pow_pos f)
  have hs :=Nat.two_pow_pos sh
  rw [hq]
  generalize v / 2 ^ f = a at *
  constructor
  · intro h1
    have h2 :=Nat.le_of_mul_le_mul_right h1 hs
    rw [hr] at h2
    have : a % 2 = 1 :=by
      rcases Nat.mod_two_eq_zero_or_one a with h3 | h3
      · rw [h3] at h2;omega
      · exact h3
    omega
  · intro h1
    have h2 :=Nat.lt_of_mul_lt_mul_right h1
    rw [hr] at h2
    have : a % 2 = 0 :=by
      rcases Nat.mod_two_eq_zero_or_one a with h3 | h3
      · exact h3
      · rw [h3] at h2;omega
    omega
theorem expo_shift (v sh : Nat) : v * 2 ^ sh % W64 * 2 % W64 = v * 2 ^ (sh + 1) % W64 :=by
  rw [Nat.pow_succ,← Nat.mul_assoc,Nat.mul_mod (v * 2 ^ sh) 2 W64]
  rw [Nat.mul_mod,Nat.mod_mod]
theorem trimZ_nz {xs : List Nat} (h : Nz xs) : trimZ xs = xs :=by
  rcases List.eq_nil_or_concat xs with rfl | ⟨ys,y,rfl⟩
  · rfl
  · simp only [List.concat_eq_append] at *
    rw [trimZ_snoc,if_neg (h y (by simp))]
theorem one_word {w : World} {s : Option Addr} {n c X : Nat} (h : NatAt w s n c X) (hX : X < W64) (h0 : X ≠ 0) : n = 1 :=by
  have h1 :=h.len_lt (k :=1) (by simpa using hX)
  have h2 :=h.eq_zero
  omega
theorem NatAt.cell0 {w : World} {s : Option Addr} {c X : Nat} (h : NatAt w s 1 c X) : ∃ b o,s = some ⟨b,o,none⟩ ∧ w.cell? ⟨b,o,none⟩ = some (.int .u64 X) ∧ X < W64 ∧ X ≠ 0 :=by
  obtain ⟨b,o,ys,rfl,hr,hl,hlt,hz,rfl,_⟩ :=NatAt.open (n :=0) h
  match ys,hl with
  | [y],_ =>
    have :=hr 0 y rfl
    simp only [Nat.add_zero] at this
    refine ⟨b,o,rfl,?_,?_,?_⟩
    · rw [this];simp [val]
    · have :=hlt y (by simp);simpa [val] using this
    · have :=hz y (by simp);simpa [val] using this
theorem nat_expNN (w : World) (hg : Glob w) (sx sy : Option Addr) (cx cy x v : Nat) (hx : NatAt w sx 1 cx x) (hy : NatAt w sy 1 cy v) (h2 : 2 ≤ x) (hv : 2 ≤ v) (hb : x ^ v < W64 ^ 22) :
    Calls Tryz.prog 156 #[.slice none 0 0,.pointer none,.slice sx 1 cx,.slice sy 1 cy,.slice none 0 0,.bool false] w fun e w' => ∃ s n c,e = .returned (.slice s n c) ∧ NatAt w' s n c (x ^ v) ∧ NewS w s ∧ Kept w w' :=by
  have al1 :=alias_dis w none sx 0 0 1 cx (.inl ⟨rfl,rfl⟩) hx.ok.1 (by omega) hx.ok.2.1 (Dis.nil' _)
  have al2 :=alias_dis w.drew none sy 0 0 1 cy (.inl ⟨rfl,rfl⟩) hy.drew.ok.1 (by omega) hy.ok.2.1 (Dis.nil' _)
  obtain ⟨bx,ox,rfl,x1,x2,x3⟩ :=hx.cell0
  obtain ⟨by',oy,rfl,y1,y2,y3⟩ :=hy.cell0
  have e1 : ((x : Int) == 1) = false :=by simp;omega
  have e2 : ((v : Int) == 1) = false :=by simp;omega
  have hbl :=bitLen_bounds y2 y3
  have hbl2 :=bitLen_64 y2
  have hst :=fun W (hW : Kept w W) => nat_set' W none (some ⟨bx,ox,none⟩) 0 0 1 cx x (.inl ⟨rfl,rfl⟩) (by omega) (hx.kept hW)
  have hnl :=nlz v y2
  have hL2 : 2 ≤ Lib.bitLen v :=by
    rcases Nat.lt_or_ge (Lib.bitLen v) 2 with h | h
    · have : Lib.bitLen v = 1 :=by omega
      rw [this] at hbl
      omega
    · exact h
  obtain ⟨M,hM⟩ : ∃ M,Lib.bitLen v = M + 1 :=⟨Lib.bitLen v - 1,by omega⟩
  obtain ⟨z,hz⟩ : ∃ z,64 - Lib.bitLen v = z :=⟨_,rfl⟩
  rw [hz] at hnl
  have HL : Hid (2 ^ M ≤ v ∧ v < 2 ^ (M + 1) ∧ z + M = 63) :=by
    refine Lib.hid ⟨?_,?_,by omega⟩
    · have :=hbl.2.1;rw [hM,Nat.add_sub_cancel] at this;exact this
    · have :=hbl.2.2;rw [hM] at this;exact this
  have hz62 : z ≤ 62 :=by omega
  have hMz : (64 - ((z : Int) + 1)) = (M : Int) :=by omega
  have hM1 : 1 ≤ M :=by omega
  have hM63 : M ≤ 63 :=by omega
  clear hbl hbl2 hL2 hM hz
  have HX :=Lib.hid hx
  have HY :=Lib.hid hy
  clear hx hy
  unfold W64 at x2 y2
  go_enter_defers Tryz.func156,Tryz.ntmps156
  go_wp2_with (first
    | (go_at_call 142;first | ((with_reducible refine al1.mono ?_);rintro e w' ⟨rfl,hw'⟩;rw [hw'];clear hw') | ((with_reducible refine al2.mono ?_);rintro e w' ⟨rfl,hw'⟩;rw [hw'];clear hw'))
    | (go_at_call 144;refine (getStack _).mono ?_;rintro e w1 ⟨bs,rfl,st,stn,bsg,k1⟩;have k1 :=k1.of_drew.of_drew;have y1' :=Kept.at k1 y1;have K1 :=Lib.hid k1;have ST :=Lib.hid (And.intro st (lt_of_cell st));clear k1 st)
    | (go_at_call 126;refine (hst _ K1.out).mono ?_;rintro e w2 ⟨s',n',c',rfl,k4,k5,k6⟩;have k6 :=k6.noneK;have y1' :=Kept.at k6 y1')
    | (go_at_call 185;refine (hnl _).mono ?_;rintro e w' ⟨rfl,hw'⟩;rw [hw'];clear hw'))
  go_loopw [0,15,19,21] (fun t0 t15 t19 t21 wr => ∃ (k : Nat) (s : Option Addr) (n c : Nat) (sz : Option Addr) (nz cz : Nat),k ≤ M ∧ t21 = .int .i64 k ∧ t15 = .int .u64 ((v * 2 ^ (z + 1 + k) % W64 : Nat) : Int) ∧ t0 = .slice s n c ∧ t19 = .slice sz nz cz ∧
      NatAt wr s n c (x ^ (v / 2 ^ (M - k))) ∧ SlOk wr sz cz ∧ cz ≤ (8388607 * Big + 1099511627775) ∧ Dis s sz ∧ NewS w1 s ∧ NewS w1 sz ∧ Kept w1 wr) (fun _ _ _ i _ => M - (intOf i).toNat)
  case atStart =>
    refine ⟨0,_,_,_,none,0,0,Nat.zero_le _,rfl,?_,rfl,rfl,?_,.inl ⟨rfl,rfl⟩,by omega,Dis.nil _,?_,(fun a h => by cases h),k6⟩
    · rw [wrap_u64];simp [W64]
    · have h1 : v / 2 ^ M = 1 :=by
        obtain ⟨h1,h2,h3⟩ :=HL.out
        rw [Nat.pow_succ] at h2
        exact Nat.div_eq_of_lt_le (by omega) (by omega)
      rw [Nat.sub_zero,h1,Nat.pow_one];exact k4
    · exact k5.new (fun a h => by cases h) (Nat.le_refl _)
  case round =>
    obtain ⟨k,s,n,c,sz,nz,cz,hk,rfl,rfl,rfl,rfl,r1,r2,r3,r4,r5,r6,r8⟩ :=hrel
    have hk1 :=K1.out
    have hxw1 :=HX.out.kept hk1
    have hg1 :=hg.kept hk1
    obtain ⟨hL1,hL2,hL3⟩ :=HL.out
    by_cases hlt : k < M
    · obtain ⟨f,hf⟩ : ∃ f,M - k = f + 1 :=⟨M - k - 1,by omega⟩
      have hf2 : M - (k + 1) = f :=by omega
      have he :=expo_step v f (z + 1 + k) (by omega)
      have hsh :=expo_shift v (z + 1 + k)
      have hu : v * 2 ^ (z + 1 + k) % W64 < 2 ^ 64 :=Nat.mod_lt _ (by decide)
      have ht :=topBit (v * 2 ^ (z + 1 + k) % W64) hu
      have hwr : ∀ u : Nat,IntKind.u64.wrap ((u : Int) * 2) = ((u * 2 % W64 : Nat) : Int) :=fun u => by rw [wrap_u64];unfold W64;omega
      rw [hf] at r1
      have hdv : v / 2 ^ f ≤ v :=Nat.div_le_self _ _
      change (2 ^ 63 ≤ v * 2 ^ (z + 1 + k) % W64 → _) ∧ (v * 2 ^ (z + 1 + k) % W64 < 2 ^ 63 → _) at he
      generalize v * 2 ^ (z + 1 + k) % W64 = u at *
      generalize hq : v / 2 ^ (f + 1) = q at *
      have h2q : 2 * q ≤ v :=by
        rcases Nat.lt_or_ge u (2 ^ 63) with h | h
        · have :=he.2 h;omega
        · have :=he.1 h;omega
      have hsq : x ^ q * x ^ q = x ^ (2 * q) :=by rw [← Nat.pow_add];congr 1;omega
      have hYY : x ^ q * x ^ q < W64 ^ 22 :=by
        rw [hsq];exact Nat.lt_of_le_of_lt (Nat.pow_le_pow_right (by omega) h2q) hb
      have hY : x ^ q < W64 ^ 11 :=by
        rcases Nat.lt_or_ge (x ^ q) (W64 ^ 11) with h | h
        · exact h
        · have h5 :=Nat.mul_le_mul h h
          rw [← Nat.pow_add] at h5
          exact absurd hYY (Nat.not_lt.2 h5)
      have HS :=Lib.hid (And.intro hsq (And.intro he (And.intro ht (And.intro hwr (And.intro hf2 (And.intro hq hsh))))))
      clear hsq he ht hwr hsh hf hf2 hq hL1 hL2 hL3 hdv
      have sq :=nat_sqr wr (ptr bs) sz s nz cz n c _ (hg1.kept r8) r2 r3 r1 (Nat.lt_of_le_of_lt (r1.len_lt hY) (by decide)) r4
      have hml : ∀ w3 s3 n3 c3,NatAt w3 s3 n3 c3 (x ^ q * x ^ q) → Fr wr sz cz s3 c3 → Chg wr w3 (Blk sz) → Calls Tryz.prog 128 #[.slice s n c,ptr bs,.slice s3 n3 c3,.slice (some ⟨bx,ox,none⟩) 1 cx] w3 (GotNat w3 s c (x ^ q * x ^ q * x)) :=by
        intro w3 s3 n3 c3 q1 q2 q3
        have hx3 :=(hxw1.kept r8).chg q3 (r6.dis hxw1.lt).blk
        have hs3 :=r1.chg q3 r4.blk
        exact nat_mul w3 (ptr bs) s s3 (some ⟨bx,ox,none⟩) n c n3 1 c3 cx (x ^ q * x ^ q) x (hg1.kept (r6.kept r8 q3)) hs3.ok.1 hs3.ok.2.1 q1 hx3 (Nat.lt_of_le_of_lt (q1.len_lt hYY) (by decide)) (by omega) (q2.dis r4 r1.lt).symm (r5.dis hxw1.lt)
      go_wp2_with (first
        | (go_at_call 127;refine sq.mono ?_;rintro e w3 ⟨s3,n3,c3,rfl,q1,q2,q3⟩)
        | (go_at_call 128;refine (hml w3 s3 n3 c3 q1 q2 q3).mono ?_;rintro e w4 ⟨s4,n4,c4,rfl,q4,q5,q6⟩))
      · have hbt : (bits BinOp.and .u64 (u : Int) 9223372036854775808 != 0) = true :=by assumption
        obtain ⟨hsq,he,ht,hwr,hf2,hq,hsh⟩ :=HS.out
        have hge : 2 ^ 63 ≤ u :=by
          rw [ht] at hbt
          split at hbt
          · assumption
          · simp at hbt
        have hk3 :=r6.kept r8 q3
        have ns3 :=q2.new r6 (Chg.size r8)
        have hs3 :=r1.chg q3 r4.blk
        go_roundw
        case rel =>
          refine ⟨k + 1,_,_,_,_,_,_,hlt,by go_num,by rw [hwr,hsh];rfl,rfl,rfl,?_,q1.ok.1.chg q6,q1.ok.2.1,(q5.dis (q2.dis r4 r1.lt).symm q1.lt).symm,q5.new r5 (Chg.size hk3),ns3,r5.kept hk3 q6⟩
          rw [hf2,he.1 hge,Nat.pow_succ,← hsq];exact q4
        case measure => simp [intOf];omega
      · have hbt : (bits BinOp.and .u64 (u : Int) 9223372036854775808 != 0) = false :=by assumption
        obtain ⟨hsq,he,ht,hwr,hf2,hq,hsh⟩ :=HS.out
        have hge : u < 2 ^ 63 :=by
          rw [ht] at hbt
          split at hbt
          · simp at hbt
          · omega
        have hk3 :=r6.kept r8 q3
        have ns3 :=q2.new r6 (Chg.size r8)
        have hs3 :=r1.chg q3 r4.blk
        go_roundw
        case rel =>
          refine ⟨k + 1,_,_,_,_,_,_,hlt,by go_num,by rw [hwr,hsh];rfl,rfl,rfl,?_,hs3.ok.1,hs3.ok.2.1,(q2.dis r4 r1.lt).symm,ns3,r5,hk3⟩
          rw [hf2,he.2 hge,← hsq];exact q1
        case measure => simp [intOf];omega
    · obtain rfl : k = M :=by omega
      rw [Nat.sub_self,Nat.pow_zero,Nat.div_one] at r1
      obtain ⟨xs,a1,a2,a3,a4,a5,a6,a7,a8,a9⟩ :=id r1
      have hnm :=nat_norm wr s n c xs a6 a1 (by unfold Big at a4;omega) a2
      have htz : trimZ xs = xs :=trimZ_nz a8
      rw [htz,a1] at hnm
      clear htz a1 a2 a3 a4 a5 a6 a7 a8 a9
      go_wp2_with fail
      refine wp_loop_rounds 1 ?_
      rw [rounds_succ]
      go_wp2_with (go_at_call 106;refine hnm.mono ?_;rintro e w' ⟨rfl,hw'⟩;rw [hw'];clear hw')
      refine leaves_cons (f :=145) (args :=#[ptr bs]) (by simp) (by simp [go_sem]) ?_
      refine (stack_free0 .returning _ bs (Kept.at r8 ST.out.1)).mono ?_
      rintro e u' w'' ⟨rfl,rfl,rfl⟩
      refine ⟨_,results_tmp rfl _ _ _,?_⟩
      exact ⟨s,n,c,rfl,r1,fun a ha => Nat.le_trans (Chg.size hk1) (r5 a ha),hk1.trans r8 fun _ _ _ h => h⟩
theorem int_doneN {w0 w w1 : World} {bz : Nat} {s : Option Addr} {n c : Nat} {X : Int} (v : Bool) (hv : v = decide (X < 0)) (hk : Kept w0 w) (hb : w0.heap.size ≤ bz) (hz : ZeroInt w bz) (k1 : NatAt w1 s n c X.natAbs) (k2 : NewS w s) (k3 : Kept w w1) :
    IntN w0 ((w1.setCell ⟨bz,1,none⟩ (.slice s n c)).setCell ⟨bz,0,none⟩ (.bool v)) bz X ∧ Kept w0 ((w1.setCell ⟨bz,1,none⟩ (.slice s n c)).setCell ⟨bz,0,none⟩ (.bool v)) :=by
  subst hv
  obtain ⟨z0,z1,zf⟩ :=hz.kept k3
  have c1 :=Chg.setCell w1 bz 1 (.slice s n c) (fun b _ => b = bz) fun _ => rfl
  have c2 :=Chg.setCell (w1.setCell ⟨bz,1,none⟩ (.slice s n c)) bz 0 (.bool (decide (X < 0))) (fun b _ => b = bz) fun _ => rfl
  have hs : ∀ a,s = some a → a.block ≠ bz :=fun a ha => by
    have :=k2 a ha
    have :=lt_of_cell hz.neg
    omega
  refine ⟨⟨s,n,c,⟨?_,?_,?_,?_,hs⟩,hb,fun a ha => Nat.le_trans (Chg.size hk) (k2 a ha)⟩,?_⟩
  · exact cell_setCell_eq ((cell_setCell_ne (by omega)).trans z0)
  · exact (cell_setCell_ne (by omega)).trans (cell_setCell_eq z1)
  · exact (k1.chg c1 (fun b o h o' e => hs _ h e)).chg c2 (fun b o h o' e => hs _ h e)
  · exact (zf.chg (lt_of_cell z0) c1).chg (by have :=c1.size;have :=lt_of_cell z0;omega) c2
  · exact ((hk.trans k3 fun _ _ _ x => x).keptNew c1 (fun b o e => by omega)).keptNew c2 (fun b o e => by omega)
theorem int_exp (w0 w : World) (hg : Glob w) (hk : Kept w0 w) (bz bx by' : Nat) (hb : w0.heap.size ≤ bz) (hz : ZeroInt w bz) (x v : Nat) (hx : IntAt w bx x) (hy : IntAt w by' v) (hxb : bx ≠ bz) (hyb : by' ≠ bz) (h2 : 2 ≤ x) (hv : 2 ≤ v) (hxl : x < W64) (hvl : v < W64) (hB : x ^ v < W64 ^ 22) :
    Calls Tryz.prog 129 #[ptr bz,ptr bx,ptr by',.pointer none,.bool false] w fun e w' => e = .returned (ptr bz) ∧ IntN w0 w' bz (x ^ v : Nat) ∧ Kept w0 w' :=by
  obtain ⟨sx,nx,cx,hx⟩ :=hx
  obtain ⟨sy,ny,cy,hy⟩ :=hy
  have hnx : nx = 1 :=one_word hx.nat (by simpa using hxl) (by simp;omega)
  have hny : ny = 1 :=one_word hy.nat (by simpa using hvl) (by simp;omega)
  subst hnx
  subst hny
  have ex : (x : Int).natAbs = x :=by simp
  have ey : (v : Int).natAbs = v :=by simp
  have hxn :=hx.nat
  have hyn :=hy.nat
  rw [ex] at hxn
  rw [ey] at hyn
  have he :=nat_expNN w hg sx sy cx cy x v hxn hyn h2 hv hB
  have x0 :=hx.neg
  have y0 :=hy.neg
  have x1 :=hx.abs
  have y1 :=hy.abs
  have dx : decide ((x : Int) < 0) = false :=by simp
  have dy : decide ((v : Int) < 0) = false :=by simp
  rw [dx] at x0
  rw [dy] at y0
  have z0 :=hz.neg
  have z1 :=hz.abs
  have f0 :=hz.nf 0
  have f1 :=hz.nf 1
  have hpos : 0 < x ^ v :=Nat.pow_pos (by omega)
  clear ex ey dx dy
  go_enter Tryz.func129,Tryz.ntmps129
  go_wp2_with (first
    | (refine wp_region_lit_segs (id :=12) [[0,1,2,3,4,5,6,7,8,9,10,11,12,13]] mixed (by kernel_rfl) ?_;simp only [wpSegsL,gaC,gaN,lZ0,lS0,coS])
    | (refine wp_region_lit_segs (id :=18) [[0,1,2,3,4,5,6,7,8,9,10,11,12,13]] mixed (by kernel_rfl) ?_;simp only [wpSegsL,gaC,gaN,lZ0,lS0,coS])
    | refine ⟨by kernel_rfl,?_⟩
    | (go_at_call 156;refine he.mono ?_;rintro e w1 ⟨s',n',c',rfl,k1,k2,k3⟩;obtain ⟨z0',z1',zf'⟩ :=hz.kept k3;have f0' :=zf' 0;have f1' :=zf' 1;have x2 :=cs_ne (u :=.slice s' n' c') (Kept.at k3 x0) (b' :=bz) (o' :=1) (by omega);have hn0 : ¬ n' = 0 :=(fun h => by have :=k1.eq_zero.2 h;omega);obtain ⟨n',rfl⟩ : ∃ m,n' = m + 1 :=⟨n' - 1,by omega⟩))
  first | go_ret | refine ⟨_,results_tmp rfl _ _ _,?_⟩
  have hd :=int_doneN (X :=((x ^ v : Nat) : Int)) false (by rw [eq_comm,decide_eq_false_iff_not];exact Int.not_lt.2 (Int.natCast_nonneg _)) hk hb hz (by simpa using k1) k2 k3
  first | exact ⟨rfl,hd⟩ | exact ⟨rfl,done_drew hd⟩
theorem int_Exp (w0 w : World) (hg : Glob w) (hk : Kept w0 w) (bz bx by' : Nat) (hb : w0.heap.size ≤ bz) (hz : ZeroInt w bz) (x v : Nat) (hx : IntAt w bx x) (hy : IntAt w by' v) (hxb : bx ≠ bz) (hyb : by' ≠ bz) (h2 : 2 ≤ x) (hv : 2 ≤ v) (hxl : x < W64) (hvl : v < W64) (hB : x ^ v < W64 ^ 22) :
    Calls Tryz.prog 112 #[ptr bz,ptr bx,ptr by',.pointer none] w fun e w' => e = .returned (ptr bz) ∧ IntN w0 w' bz (x ^ v : Nat) ∧ Kept w0 w' :=by
  have he :=int_exp w0 w hg hk bz bx by' hb hz x v hx hy hxb hyb h2 hv hxl hvl hB
  go_enter Tryz.func112,Tryz.ntmps112
  go_wp2_with (go_at_call 129;refine he.mono ?_;rintro e w1 ⟨rfl,k⟩;have K :=Lib.hid k;clear k)
  first | go_ret | refine ⟨_,results_tmp rfl _ _ _,?_⟩
  exact ⟨rfl,K.out⟩
theorem tenInt (w : World) : Calls Tryz.prog 113 #[] w (NewInt w 10) :=by
  have h :=int_new w 10 (by omega) (by omega)
  go_enter Tryz.func113,Tryz.ntmps113
  go_wp2_with (go_at_call 93;refine h.mono ?_;rintro e w1 ⟨b,rfl,k⟩;have K :=Lib.hid k;clear k)
  first | go_ret | refine ⟨_,results_tmp rfl _ _ _,?_⟩
  exact ⟨b,rfl,K.out⟩
theorem pow10_lt {n : Nat} (h : n ≤ 127) : 10 ^ n < W39 :=Nat.lt_of_le_of_lt (Nat.pow_le_pow_right (by decide) h) (by decide)
theorem pow10Table (w : World) (hg : Glob w) (n : Nat) (hn : n ≤ 127) : Calls Tryz.prog 111 #[.int .i64 n] w (NewInt w (10 ^ n : Nat)) :=by
  have h1 :=int_new w 1 (by omega) (by omega)
  go_enter Tryz.func111,Tryz.ntmps111
  go_wp2_with (go_at_call 93;refine h1.mono ?_;rintro e w1 ⟨b1,rfl,k1,k2⟩)
  go_loopw [3,4] (fun t i wr => ∃ (k b : Nat),k ≤ n ∧ i = .int .i64 ((k : Int) + 1) ∧ t = ptr b ∧ IntN w wr b (10 ^ k : Nat) ∧ Kept w wr) (fun _ i _ => n + 1 - (intOf i).toNat)
  case atStart => exact ⟨0,b1,Nat.zero_le _,rfl,rfl,k1,k2⟩
  case round =>
    obtain ⟨k,b,hk,rfl,rfl,r1,r2⟩ :=hrel
    by_cases hlt : k < n
    · have hm : ∀ w2 b2,Kept (wr.alloc (.cells #[.bool false,.slice none 0 0] 112)) w2 → IntN (wr.alloc (.cells #[.bool false,.slice none 0 0] 112)) w2 b2 10 → Calls Tryz.prog 91 #[ptr wr.heap.size,ptr b,ptr b2] w2 fun e w' => e = .returned (ptr wr.heap.size) ∧ IntN wr w' wr.heap.size ((10 ^ k : Nat) * 10) ∧ Kept wr w' :=by
        intro w2 b2 q1 q2
        have ka : Kept wr (wr.alloc (.cells #[.bool false,.slice none 0 0] 112)) :=Chg.alloc _ _ _
        have kw :=ka.trans q1 fun _ _ _ h => h
        have hlt1 :=r1.at.lt
        have hge :=q2.ge
        have hsz : (wr.alloc (.cells #[.bool false,.slice none 0 0] 112)).heap.size = wr.heap.size + 1 :=by simp
        exact int_Mul wr w2 (hg.kept (r2.trans kw fun _ _ _ h => h)) kw wr.heap.size b b2 (Nat.le_refl _) ((ZeroInt.made wr).kept q1) _ 10 (r1.at.kept kw) q2.at (by omega) (by omega) (fun e => by omega) (by simpa using pow10_lt (by omega)) (by decide)
      go_wp2_with (first
        | (go_at_call 113;refine (tenInt _).mono ?_;rintro e w2 ⟨b2,rfl,q1,q2⟩)
        | (go_at_call 91;refine (hm w2 b2 q2 q1).mono ?_;rintro e w3 ⟨rfl,q3,q4⟩))
      go_roundw
      case rel => exact ⟨k + 1,_,hlt,by go_num,rfl,by have :=q3.older (Chg.size r2);simpa [Nat.pow_succ] using this,r2.trans q4 fun _ _ _ h => h⟩
      case measure => simp [intOf];omega
    · obtain rfl : k = n :=by omega
      go_wp2
      first | go_ret | refine ⟨_,results_tmp rfl _ _ _,?_⟩
      exact ⟨b,rfl,r1,r2⟩
theorem pow10_lt2 {n : Nat} (h : n ≤ 420) : 10 ^ n < W64 ^ 22 :=Nat.lt_of_le_of_lt (Nat.pow_le_pow_right (by decide) h) (by decide)
theorem pow10 (w : World) (hg : Glob w) (n : Nat) (hn : n ≤ 420) : Calls Tryz.prog 92 #[.int .i64 n] w (NewInt w (10 ^ n : Nat)) :=by
  by_cases h : n ≤ 127
  · have ht :=pow10Table w hg n h
    go_enter Tryz.func92,Tryz.ntmps92
    go_wp2_with (go_at_call 111;refine ht.mono ?_;rintro e w1 ⟨b,rfl,k⟩;have K :=Lib.hid k;clear k)
    first | go_ret | refine ⟨_,results_tmp rfl _ _ _,?_⟩
    exact ⟨b,rfl,K.out⟩
  · have hm : ∀ w2 b2 b3,Kept (w.alloc (.cells #[.bool false,.slice none 0 0] 112)) w2 → IntAt w2 b2 10 → IntAt w2 b3 n → w.heap.size < b2 → w.heap.size < b3 → Calls Tryz.prog 112 #[ptr w.heap.size,ptr b2,ptr b3,.pointer none] w2 fun e w' => e = .returned (ptr w.heap.size) ∧ IntN w w' w.heap.size (10 ^ n : Nat) ∧ Kept w w' :=by
      intro w2 b2 b3 q1 q2 q3 q4 q5
      have ka : Kept w (w.alloc (.cells #[.bool false,.slice none 0 0] 112)) :=Chg.alloc _ _ _
      have kw :=ka.trans q1 fun _ _ _ h => h
      exact int_Exp w w2 (hg.kept kw) kw w.heap.size b2 b3 (Nat.le_refl _) ((ZeroInt.made w).kept q1) 10 n q2 q3 (by omega) (by omega) (by omega) (by omega) (by decide) (by unfold W64;omega) (pow10_lt2 hn)
    have hn' :=fun W => int_new W n (by omega) (by omega)
    go_enter Tryz.func92,Tryz.ntmps92
    go_wp2_with (first
      | (go_at_call 113;refine (tenInt _).mono ?_;rintro e w2 ⟨b2,rfl,q1,q2⟩)
      | (go_at_call 93;refine (hn' _).mono ?_;rintro e w3 ⟨b3,rfl,q3,q4⟩)
      | (go_at_call 112;refine (hm w3 b2 b3 (q2.trans q4 fun _ _ _ h => h) (q1.at.kept q4) q3.at (by have :=q1.ge;simp at this;omega) (by have :=q3.ge;have :=q2.size;simp at this;omega)).mono ?_;rintro e w4 ⟨rfl,k⟩;have K :=Lib.hid k;clear k))
    first | go_ret | refine ⟨_,results_tmp rfl _ _ _,?_⟩
    exact ⟨_,rfl,K.out⟩
end Go.Proofs.YtfmmdamgcpiciaaGreatDoor
namespace Go.Proofs.YtfmmdamgcpiciaaGreatDoor.Plain
theorem guess_done {b u2 u1 v1 v0 q r : Nat} (hv : 0 < v1 * b + v0) (he : q * v1 + r = u2) (hge : (u2 * b + u1) / (v1 * b + v0) ≤ q) (ht : q * v0 ≤ b * r + u1) : q = (u2 * b + u1) / (v1 * b + v0) :=by
  refine Nat.le_antisymm ?_ hge
  rw [Nat.le_div_iff_mul_le hv]
  have e : q * (v1 * b + v0) = (u2 - r) * b + q * v0 :=by
    have : u2 - r = q * v1 :=by omega
    rw [this,Nat.mul_add,Nat.mul_assoc]
  have e2 : (u2 - r) * b + b * r = u2 * b :=by rw [Nat.mul_comm b r,← Nat.add_mul];congr 1;omega
  omega
theorem guess_more {b u2 u1 v1 v0 q r : Nat} (hv : 0 < v1 * b + v0) (he : q * v1 + r = u2) (ht : b * r + u1 < q * v0) : (u2 * b + u1) / (v1 * b + v0) < q :=by
  rw [Nat.div_lt_iff_lt_mul hv]
  have e : q * (v1 * b + v0) = q * v1 * b + q * v0 :=by rw [Nat.mul_add,Nat.mul_assoc]
  have e2 : u2 * b = q * v1 * b + b * r :=by rw [← he,Nat.add_mul,Nat.mul_comm b r]
  omega
theorem guess_lt {b u2 u1 v1 v0 : Nat} (hb : u1 < b) (h : u2 < v1 * b + v0) : (u2 * b + u1) / (v1 * b + v0) < b :=by
  rw [Nat.div_lt_iff_lt_mul (by omega)]
  have : (u2 + 1) * b ≤ (v1 * b + v0) * b :=Nat.mul_le_mul_right b h
  rw [Nat.add_mul,Nat.one_mul] at this
  rw [Nat.mul_comm b]
  omega
theorem guess_start {b u2 u1 v1 v0 : Nat} (hv : 0 < v1) (hb : u1 < b) : (u2 * b + u1) / (v1 * b + v0) ≤ u2 / v1 :=by
  rw [Nat.le_div_iff_mul_le hv]
  have hpos : 0 < v1 * b + v0 :=by have :=Nat.mul_pos hv (show 0 < b by omega);omega
  have h :=Nat.div_mul_le_self (u2 * b + u1) (v1 * b + v0)
  generalize (u2 * b + u1) / (v1 * b + v0) = q at *
  rw [Nat.mul_add,← Nat.mul_assoc] at h
  have h2 : q * v1 * b < (u2 + 1) * b :=by rw [Nat.add_mul,Nat.one_mul];omega
  have h3 :=Nat.lt_of_mul_lt_mul_right h2
  omega
theorem recip {B u : Nat} (hu : 0 < u) (h : u < B) : ((B - 1 - u) * B + (B - 1)) / u = (B * B - 1) / u - B :=by
  have e : (B - 1 - u) * B + (B - 1) + u * B = B * B - 1 :=by
    have : (B - 1 - u + u) * B = (B - 1) * B :=by congr 1;omega
    rw [Nat.add_mul] at this
    have h1 : (B - 1) * B + B = B * B :=by rw [← Nat.succ_mul];congr 1;omega
    omega
  rw [← e,Nat.add_mul_div_left _ _ hu]
  exact (Nat.add_sub_cancel _ _).symm
theorem recip_bounds {B d m : Nat} (hd : 0 < d) (hB : 0 < B) (hm : (B * B - 1) / d = m + B) : d * (m + B) ≤ B * B - 1 ∧ B * B ≤ d * (m + B) + d :=by
  have h1 :=Nat.div_add_mod (B * B - 1) d
  have h2 :=Nat.mod_lt (B * B - 1) hd
  have h3 :=Nat.mul_pos hB hB
  rw [hm] at h1
  omega
theorem recip_low {B d m x1 x0 q : Nat} (hdB : d ≤ B) (hB : 0 < B) (h1 : d * (m + B) ≤ B * B - 1) (hq : q * B ≤ x1 * (m + B) + x0) : q * d ≤ x1 * B + x0 :=by
  have a : (q * d) * B ≤ (x1 * B + x0) * B :=by
    have e1 : (q * B) * d ≤ (x1 * (m + B) + x0) * d :=Nat.mul_le_mul_right d hq
    have e2 : (x1 * (m + B) + x0) * d = x1 * (d * (m + B)) + x0 * d :=by rw [Nat.add_mul,Nat.mul_assoc,Nat.mul_comm (m + B) d]
    have e3 : x1 * (d * (m + B)) ≤ x1 * (B * B) :=Nat.mul_le_mul_left x1 (by omega)
    have e4 : x0 * d ≤ x0 * B :=Nat.mul_le_mul_left x0 hdB
    have e5 : (q * d) * B = (q * B) * d :=by rw [Nat.mul_assoc,Nat.mul_comm d B,← Nat.mul_assoc]
    rw [e5,Nat.add_mul,Nat.mul_assoc x1 B B]
    omega
  exact Nat.le_of_mul_le_mul_right a hB
theorem recip_high {B d m x1 x0 q : Nat} (hd : 0 < d) (hdB : d < B) (h2 : B * B ≤ d * (m + B) + d) (hx1 : x1 < d) (hx0 : x0 < B) (hq : x1 * (m + B) + x0 < (q + 1) * B) : x1 * B + x0 < q * d + (B + d) :=by
  have a : (x1 * B + x0) * B < (q * d + (B + d)) * B :=by
    -- x1 (B B - d) + x0 d <= (x1 (m + B) + x0) d <= ((q + 1) B - 1) d
    have e1 : (x1 * (m + B) + x0) * d ≤ ((q + 1) * B - 1) * d :=Nat.mul_le_mul_right d (by omega)
    have e2 : (x1 * (m + B) + x0) * d = x1 * (d * (m + B)) + x0 * d :=by rw [Nat.add_mul,Nat.mul_assoc,Nat.mul_comm (m + B) d]
    have e3 : x1 * (B * B) ≤ x1 * (d * (m + B)) + x1 * d :=by rw [← Nat.mul_add];exact Nat.mul_le_mul_left x1 h2
    have e4 : ((q + 1) * B - 1) * d + d = q * d * B + B * d :=by
      have h : (q + 1) * B = ((q + 1) * B - 1) + 1 :=by
        have : 0 < (q + 1) * B :=Nat.mul_pos (by omega) (by omega)
        omega
      have h' : ((q + 1) * B) * d = (((q + 1) * B - 1) + 1) * d :=by rw [← h]
      rw [Nat.add_mul _ 1 d,Nat.one_mul] at h'
      rw [← h',Nat.add_mul,Nat.one_mul,Nat.add_mul,Nat.mul_assoc q B d,Nat.mul_comm B d,← Nat.mul_assoc]
    have e5 : x0 * B = x0 * d + x0 * (B - d) :=by rw [← Nat.mul_add];congr 1;omega
    have e6 : x0 * (B - d) ≤ (B - 1) * (B - d) :=Nat.mul_le_mul_right _ (by omega)
    have e7 : x1 * d ≤ (d - 1) * d :=Nat.mul_le_mul_right _ (by omega)
    have e8 : (B - 1) * (B - d) + (B - d) = B * B - B * d :=by rw [← Nat.succ_mul,← Nat.mul_sub];congr 1;omega
    have e9 : (d - 1) * d + d = d * d :=by rw [← Nat.succ_mul];congr 1;omega
    have e10 : d * d < d * B :=Nat.mul_lt_mul_of_pos_left hdB hd
    have e11 : B * d ≤ B * B :=Nat.mul_le_mul_left B (by omega)
    rw [Nat.add_mul,Nat.add_mul,Nat.add_mul,Nat.mul_assoc x1 B B,Nat.mul_comm d B]
    rw [Nat.mul_comm d B] at e10
    omega
  exact Nat.lt_of_mul_lt_mul_right a
theorem knuth_low {P U V U3 V2 u v q : Nat} (hP : 0 < P) (hU : U = U3 * P + u) (hu : u < P) (hV : V = V2 * P + v) (h : q * V ≤ U) : q * V2 ≤ U3 :=by
  have h1 : (q * V2) * P < (U3 + 1) * P :=by
    rw [hV,Nat.mul_add,← Nat.mul_assoc] at h
    rw [Nat.add_mul,Nat.one_mul]
    omega
  have :=Nat.lt_of_mul_lt_mul_right h1
  omega
theorem knuth_high {P B U V U3 V2 u v q : Nat} (hU : U = U3 * P + u) (hV : V = V2 * P + v) (hv : v < P) (hq : q * V2 ≤ U3) (hqB : q ≤ B) (hVB : B ≤ V2) (hpos : 0 < q) : q * V < U + V :=by
  have h1 : q * V2 * P ≤ U3 * P :=Nat.mul_le_mul_right P hq
  have h2 : q * v < q * P :=Nat.mul_lt_mul_of_pos_left hv hpos
  have h3 : q * P ≤ V2 * P :=Nat.mul_le_mul_right P (by omega)
  rw [hV,Nat.mul_add,← Nat.mul_assoc]
  omega
end Go.Proofs.YtfmmdamgcpiciaaGreatDoor.Plain
