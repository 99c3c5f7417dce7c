/- A part of the proof, joined out of the texts A14, G2, H1, H2, H3, H4, A15, A16, A17; each theorem bears its own conditions. -/
import Derived.ArgAppend
import Derived.Lib.AppendZeros
import Derived.Test.YtfmmdamgcpiciaaGreatDoorT01
import Derived.Test.YtfmmdamgcpiciaaGreatDoorT02
set_option linter.unusedVariables false
set_option linter.unusedSimpArgs false
set_option linter.all false
set_option maxHeartbeats 9000000
set_option exponentiation.threshold 400000
set_option maxRecDepth 1000000
namespace Go.Proofs.YtfmmdamgcpiciaaGreatDoor
open Go Go.RowKit
structure IntA (w : World) (b : Nat) (s : Option Addr) (n c : Nat) (X : Int) : Prop where
  neg : w.cell? ⟨b,0,none⟩ = some (.bool (decide (X < 0)))
  abs : w.cell? ⟨b,1,none⟩ = some (.slice s n c)
  nat : NatAt w s n c X.natAbs
  nf : NF w b
  sep : ∀ a,s = some a → a.block ≠ b
def IntAt (w : World) (b : Nat) (X : Int) : Prop :=∃ s n c,IntA w b s n c X
def IntN (w0 w : World) (b : Nat) (X : Int) : Prop :=∃ s n c,IntA w b s n c X ∧ w0.heap.size ≤ b ∧ ∀ a,s = some a → w0.heap.size ≤ a.block
structure ZeroInt (w : World) (b : Nat) : Prop where
  neg : w.cell? ⟨b,0,none⟩ = some (.bool false)
  abs : w.cell? ⟨b,1,none⟩ = some (.slice none 0 0)
  nf : NF w b
abbrev ptr (b : Nat) : Value :=.pointer (some ⟨b,0,none⟩)
abbrev W39 : Nat :=W64 ^ 39
theorem IntA.chg {w w' : World} {M : Nat → Nat → Prop} {b : Nat} {s : Option Addr} {n c : Nat} {X : Int} (h : IntA w b s n c X) (hc : Chg w w' M) (hb : ∀ o,¬ M b o) (hs : ∀ b o,s = some ⟨b,o,none⟩ → ∀ o',¬ M b o') : IntA w' b s n c X :=
  ⟨(hc.cell b 0 (lt_of_cell h.neg) (hb 0)).trans h.neg,(hc.cell b 1 (lt_of_cell h.abs) (hb 1)).trans h.abs,h.nat.chg hc hs,h.nf.chg (lt_of_cell h.neg) hc,h.sep⟩
theorem IntA.kept {w w' : World} {b : Nat} {s : Option Addr} {n c : Nat} {X : Int} (h : IntA w b s n c X) (hc : Kept w w') : IntA w' b s n c X :=h.chg hc (fun _ x => x) fun _ _ _ _ x => x
theorem IntAt.kept {w w' : World} {b : Nat} {X : Int} (h : IntAt w b X) (hc : Kept w w') : IntAt w' b X :=by
  obtain ⟨s,n,c,h⟩ :=h
  exact ⟨s,n,c,h.kept hc⟩
theorem IntAt.lt {w : World} {b : Nat} {X : Int} (h : IntAt w b X) : b < w.heap.size :=by
  obtain ⟨s,n,c,h⟩ :=h
  exact lt_of_cell h.neg
theorem IntN.at {w0 w : World} {b : Nat} {X : Int} (h : IntN w0 w b X) : IntAt w b X :=by
  obtain ⟨s,n,c,h,_⟩ :=h
  exact ⟨s,n,c,h⟩
theorem IntN.kept {w0 w w' : World} {b : Nat} {X : Int} (h : IntN w0 w b X) (hc : Kept w w') : IntN w0 w' b X :=by
  obtain ⟨s,n,c,h,h2⟩ :=h
  exact ⟨s,n,c,h.kept hc,h2⟩
theorem IntN.older {w0 w1 w : World} {b : Nat} {X : Int} (h : IntN w1 w b X) (hc : w0.heap.size ≤ w1.heap.size) : IntN w0 w b X :=by
  obtain ⟨s,n,c,h,h2,h3⟩ :=h
  exact ⟨s,n,c,h,Nat.le_trans hc h2,fun a ha => Nat.le_trans hc (h3 a ha)⟩
theorem IntN.ge {w0 w : World} {b : Nat} {X : Int} (h : IntN w0 w b X) : w0.heap.size ≤ b :=by
  obtain ⟨s,n,c,h,h2,h3⟩ :=h
  exact h2
theorem ZeroInt.kept {w w' : World} {b : Nat} (h : ZeroInt w b) (hc : Kept w w') : ZeroInt w' b :=
  ⟨(hc.cell b 0 (lt_of_cell h.neg) (fun x => x)).trans h.neg,(hc.cell b 1 (lt_of_cell h.abs) (fun x => x)).trans h.abs,h.nf.chg (lt_of_cell h.neg) hc⟩
theorem ZeroInt.made (w : World) : ZeroInt (w.alloc (.cells #[.bool false,.slice none 0 0] 112)) w.heap.size :=
  ⟨by rw [World.cell?_alloc_at _ _ _ _ rfl];rfl,by rw [World.cell?_alloc_at _ _ _ _ rfl];rfl,NF.made w _ _⟩
theorem NatAt.len_lt {w : World} {s : Option Addr} {n c X k : Nat} (h : NatAt w s n c X) (hX : X < W64 ^ k) : n ≤ k :=by
  obtain ⟨xs,a1,_,_,_,_,_,_,a8,rfl⟩ :=h
  cases n with
  | zero => omega
  | succ n => exact (Nat.pow_lt_pow_iff_right (a :=W64) (by decide)).1 (Nat.lt_of_le_of_lt (a8.le (B :=W64) a1) hX)
theorem Chg.keptNew {w0 w w' : World} {M : Nat → Nat → Prop} (h : Kept w0 w) (k : Chg w w' M) (hm : ∀ b o,M b o → w0.heap.size ≤ b) : Kept w0 w' :=
  h.trans k fun b o hb hM => by
    have :=hm b o hM
    exact absurd hb (by omega)
theorem Blk.none {b o : Nat} : ¬ Blk none b o :=fun ⟨_,h⟩ => by cases h
theorem Blk.old {w0 : World} {s : Option Addr} (h : ∀ a,s = some a → w0.heap.size ≤ a.block) {b o : Nat} (hb : Blk s b o) : w0.heap.size ≤ b :=by
  obtain ⟨o',h'⟩ :=hb
  exact h _ h'
theorem Fr.new {w0 w : World} {s s' : Option Addr} {c c' : Nat} (h : Fr w s c s' c') (hs : ∀ a,s = some a → w0.heap.size ≤ a.block) (hw : w0.heap.size ≤ w.heap.size) : ∀ a,s' = some a → w0.heap.size ≤ a.block :=by
  rcases h with ⟨rfl,_⟩ | ⟨b,rfl,hb⟩
  · exact hs
  · intro a ha
    simp only [Option.some.injEq] at ha
    subst ha
    exact Nat.le_trans hw hb
theorem info112 : ∃ i,Tryz.prog.info? 112 = some i ∧ i.size ≠ 0 :=by
  have h : (Tryz.prog.info? 112).map (fun i => (i.zero,i.size,i.bytes)) = some (some (.agg #[.bool false,.slice none 0 0]),2,32) :=by kernel_rfl
  obtain ⟨i0,hi,_,hz1,_⟩ :=info_parts h
  exact ⟨i0,hi,by omega⟩
theorem ptrRun53 (w : World) (b1 b2 : Nat) {v1 v2 : Value} (h1 : w.cell? ⟨b1,0,none⟩ = some v1) (h2 : w.cell? ⟨b2,0,none⟩ = some v2) (n1 : NF w b1) (n2 : NF w b2) :
    (binOp .eql 53 (ptr b1) (ptr b2)).run Tryz.prog w = .ok (.bool (decide (b1 = b2 ∧ 0 = 0))) w ∧
    (binOp .neq 53 (ptr b1) (ptr b2)).run Tryz.prog w = .ok (.bool (!decide (b1 = b2 ∧ 0 = 0))) w :=by
  obtain ⟨i,hi,hz⟩ :=info112
  exact run_ptr Tryz.prog w 53 112 Tryz.underlying53 i hi hz b1 0 b2 0 h1 h2 n1 n2
theorem cs_ne {w : World} {b o b' o' : Nat} {v u : Value} (h : w.cell? ⟨b,o,none⟩ = some v) (hne : ¬ (b = b' ∧ o = o')) : (w.setCell ⟨b',o',none⟩ u).cell? ⟨b,o,none⟩ = some v :=(cell_setCell_ne hne).trans h
theorem Chg.at {w w' : World} {M : Nat → Nat → Prop} {b o : Nat} {v : Value} (h : Chg w w' M) (hc : w.cell? ⟨b,o,none⟩ = some v) (hm : ¬ M b o) : w'.cell? ⟨b,o,none⟩ = some v :=(h.cell b o (lt_of_cell hc) hm).trans hc
theorem Chg.noneK {w w' : World} (h : Chg w w' (Blk Option.none)) : Kept w w' :=h.mono fun _ _ _ h => Blk.none h
theorem Kept.at {w w' : World} {b o : Nat} {v : Value} (h : Kept w w') (hc : w.cell? ⟨b,o,none⟩ = some v) : w'.cell? ⟨b,o,none⟩ = some v :=Chg.at h hc fun x => x
theorem int_done {w0 w w1 : World} {bz : Nat} {s : Option Addr} {n c : Nat} {X : Int} (v : Bool) (hv : v = decide (X < 0)) (hk : Kept w0 w) (hb : w0.heap.size ≤ bz) (hz : ZeroInt w bz) (k1 : NatAt w1 s n c X.natAbs) (k2 : Fr w Option.none 0 s c) (k3 : Kept w w1) :
    IntN w0 ((w1.setCell ⟨bz,1,none⟩ (.slice s n c)).setCell ⟨bz,0,none⟩ (.bool v)) bz X ∧ Kept w0 ((w1.setCell ⟨bz,1,none⟩ (.slice s n c)).setCell ⟨bz,0,none⟩ (.bool v)) :=by
  subst hv
  obtain ⟨z0,z1,zf⟩ :=hz.kept k3
  have c1 :=Chg.setCell w1 bz 1 (.slice s n c) (fun b _ => b = bz) fun _ => rfl
  have c2 :=Chg.setCell (w1.setCell ⟨bz,1,none⟩ (.slice s n c)) bz 0 (.bool (decide (X < 0))) (fun b _ => b = bz) fun _ => rfl
  have hs : ∀ a,s = some a → a.block ≠ bz :=by
    rcases k2 with ⟨rfl,_⟩ | ⟨b,rfl,h⟩
    · intro a ha;cases ha
    · intro a ha
      simp only [Option.some.injEq] at ha
      subst ha
      have :=lt_of_cell hz.neg
      show b ≠ bz
      omega
  refine ⟨⟨s,n,c,⟨?_,?_,?_,?_,hs⟩,hb,k2.new (fun a ha => by cases ha) hk.size⟩,?_⟩
  · exact cell_setCell_eq ((cell_setCell_ne (by omega)).trans z0)
  · exact (cell_setCell_ne (by omega)).trans (cell_setCell_eq z1)
  · exact (k1.chg c1 (fun b o h o' e => hs _ h e)).chg c2 (fun b o h o' e => hs _ h e)
  · exact (zf.chg (lt_of_cell z0) c1).chg (by have :=c1.size;have :=lt_of_cell z0;omega) c2
  · exact ((hk.trans k3 fun _ _ _ x => x).keptNew c1 (fun b o e => by omega)).keptNew c2 (fun b o e => by omega)
theorem int_resign {w0 w : World} {b : Nat} {s : Option Addr} {n c : Nat} {X Y : Int} (v : Bool) (hv : v = decide (Y < 0)) (h : IntA w b s n c X) (hn : Y.natAbs = X.natAbs) (h2 : w0.heap.size ≤ b) (h3 : ∀ a,s = some a → w0.heap.size ≤ a.block) (hk : Kept w0 w) :
    IntN w0 (w.setCell ⟨b,0,none⟩ (.bool v)) b Y ∧ Kept w0 (w.setCell ⟨b,0,none⟩ (.bool v)) :=by
  subst hv
  have c1 :=Chg.setCell w b 0 (.bool (decide (Y < 0))) (fun b' _ => b' = b) fun _ => rfl
  refine ⟨⟨s,n,c,⟨cell_setCell_eq h.neg,(cell_setCell_ne (by omega)).trans h.abs,by rw [hn];exact h.nat.chg c1 (fun b o h' o' e => h.sep _ h' e),h.nf.chg (lt_of_cell h.neg) c1,h.sep⟩,h2,h3⟩,hk.keptNew c1 (fun b o e => by omega)⟩
theorem int_sign (w : World) (b : Nat) (X : Int) (h : IntAt w b X) : Calls Tryz.prog 95 #[ptr b] w fun e w' => e = .returned (.int .i64 (Int.sign X)) ∧ w' = w :=by
  obtain ⟨s,n,c,h⟩ :=h
  have h1 :=h.neg
  have h2 :=h.abs
  have h3 :=h.nat.eq_zero
  have h4 :=h.nat.ok.2.2.1
  unfold Big at h4
  rcases Int.lt_trichotomy X 0 with hX | rfl | hX
  · have hn : ((n : Int) == 0) = false :=by simp;omega
    have hs : Int.sign X = -1 :=Int.sign_eq_neg_one_of_neg hX
    have hd : decide (X < 0) = true :=by simpa using hX
    rw [hs]
    rw [hd] at h1
    clear hd hs h h3 h4 hX
    go_enter Tryz.func95,Tryz.ntmps95
    go_wp2
    first | go_ret | refine ⟨_,results_tmp rfl _ _ _,?_⟩
    exact ⟨rfl,rfl⟩
  · have hn : n = 0 :=by omega
    subst hn
    go_enter Tryz.func95,Tryz.ntmps95
    go_wp2
    first | go_ret | refine ⟨_,results_tmp rfl _ _ _,?_⟩
    exact ⟨rfl,rfl⟩
  · have hn : ((n : Int) == 0) = false :=by simp;omega
    have hs : Int.sign X = 1 :=Int.sign_eq_one_of_pos hX
    have hd : decide (X < 0) = false :=by simp;omega
    rw [hs]
    rw [hd] at h1
    clear hd hs h h3 h4 hX
    go_enter Tryz.func95,Tryz.ntmps95
    go_wp2
    first | go_ret | refine ⟨_,results_tmp rfl _ _ _,?_⟩
    exact ⟨rfl,rfl⟩
theorem int_set (w0 w : World) (hk : Kept w0 w) (bz bx : Nat) (hb : w0.heap.size ≤ bz) (hz : ZeroInt w bz) (X : Int) (hx : IntAt w bx X) (hxb : bx ≠ bz) :
    Calls Tryz.prog 107 #[ptr bz,ptr bx] w fun e w' => e = .returned (ptr bz) ∧ IntN w0 w' bz X ∧ Kept w0 w' :=by
  obtain ⟨s,n,c,hx⟩ :=hx
  have hne : (Bool.not (decide (bz = bx ∧ 0 = 0))) = true :=by simp;exact fun e => hxb e.symm
  have hp :=(ptrRun53 w bz bx hz.neg hx.neg hz.nf hx.nf).2
  rw [hne] at hp
  have hs :=nat_set' w.drew none s 0 0 n c X.natAbs (.inl ⟨rfl,rfl⟩) (by omega) hx.nat.drew
  have x0 :=hx.neg
  have x1 :=hx.abs
  have z0 :=hz.neg
  have z1 :=hz.abs
  have f0 :=hz.nf 0
  have f1 :=hz.nf 1
  clear hne
  go_enter Tryz.func107,Tryz.ntmps107
  go_wp2_with (first
    | (refine wp_region_lit_segs (id :=2) [[0,1,2,3,4,5,6,7,8,9,10,11,12]] mixed (by kernel_rfl) ?_;simp only [wpSegsL,gaC,gaN,lZ0,lS0,coS])
    | refine ⟨by kernel_rfl,?_⟩
    | (go_at_call 126;refine hs.mono ?_;rintro e w1 ⟨s',n',c',rfl,k1,k2,k3⟩;have k3 :=k3.of_drew.noneK;obtain ⟨z0',z1',zf'⟩ :=hz.kept k3;have f0' :=zf' 0;have f1' :=zf' 1;have x2 :=cs_ne (u :=.slice s' n' c') (k3.at x0) (b' :=bz) (o' :=1) (by omega)))
  first | go_ret | refine ⟨_,results_tmp rfl _ _ _,?_⟩
  exact ⟨rfl,int_done _ rfl hk hb hz k1 k2 k3⟩
theorem int_abs (w0 w : World) (hk : Kept w0 w) (bz bx : Nat) (hb : w0.heap.size ≤ bz) (hz : ZeroInt w bz) (X : Int) (hx : IntAt w bx X) (hxb : bx ≠ bz) :
    Calls Tryz.prog 87 #[ptr bz,ptr bx] w fun e w' => e = .returned (ptr bz) ∧ IntN w0 w' bz X.natAbs ∧ Kept w0 w' :=by
  have hs :=int_set w0 w hk bz bx hb hz X hx hxb
  go_enter Tryz.func87,Tryz.ntmps87
  go_wp2_with (go_at_call 107;refine hs.mono ?_;rintro e w1 ⟨rfl,⟨s',n',c',k1,k2,k3⟩,k4⟩;have z0' :=k1.neg;have f0' :=k1.nf 0)
  first | go_ret | refine ⟨_,results_tmp rfl _ _ _,?_⟩
  exact ⟨rfl,int_resign false (by simp) k1 (by simp) k2 k3 k4⟩
theorem int_neg (w0 w : World) (hk : Kept w0 w) (bz bx : Nat) (hb : w0.heap.size ≤ bz) (hz : ZeroInt w bz) (X : Int) (hx : IntAt w bx X) (hxb : bx ≠ bz) :
    Calls Tryz.prog 86 #[ptr bz,ptr bx] w fun e w' => e = .returned (ptr bz) ∧ IntN w0 w' bz (-X) ∧ Kept w0 w' :=by
  have hs :=int_set w0 w hk bz bx hb hz X hx hxb
  by_cases h0 : X = 0
  · subst h0
    go_enter Tryz.func86,Tryz.ntmps86
    go_wp2_with (go_at_call 107;refine hs.mono ?_;rintro e w1 ⟨rfl,⟨s',n',c',k1,k2,k3⟩,k4⟩;have z0' :=k1.neg;have z1' :=k1.abs;have f0' :=k1.nf 0;obtain rfl : n' = 0 :=k1.nat.eq_zero.1 rfl)
    first | go_ret | refine ⟨_,results_tmp rfl _ _ _,?_⟩
    exact ⟨rfl,int_resign false (by simp) k1 (by simp) k2 k3 k4⟩
  · go_enter Tryz.func86,Tryz.ntmps86
    go_wp2_with (go_at_call 107;refine hs.mono ?_;rintro e w1 ⟨rfl,⟨s',n',c',k1,k2,k3⟩,k4⟩;have z0' :=k1.neg;have z1' :=k1.abs;have f0' :=k1.nf 0;have hn0 : ¬ n' = 0 :=(fun h => h0 (by have :=k1.nat.eq_zero.2 h;omega));obtain ⟨n',rfl⟩ : ∃ m,n' = m + 1 :=⟨n' - 1,by omega⟩)
    first | go_ret | refine ⟨_,results_tmp rfl _ _ _,?_⟩
    exact ⟨rfl,int_resign _ (by rw [Bool.eq_iff_iff];simp;omega) k1 (by simp) k2 k3 k4⟩
end Go.Proofs.YtfmmdamgcpiciaaGreatDoor
namespace Go.Proofs.YtfmmdamgcpiciaaGreatDoor
open Go Go.RowKit
def lenOf : Value → Nat
  | .slice _ n _ => n
  | _ => 0
structure OutK (k : IntKind) (w : World) (b o cap : Nat) (ys : List Nat) : Prop where
  row : ∀ (j x : Nat),ys[j]? = some x → w.cell? ⟨b,o + j,none⟩ = some (.int k (x : Int))
  room : Wr w b o cap
  le : ys.length ≤ cap
  nf : NF w b
  lt : b < w.heap.size
theorem OutK.chg {k : IntKind} {w w' : World} {M : Nat → Nat → Prop} {b o cap : Nat} {ys : List Nat} (h : OutK k w b o cap ys) (c : Chg w w' M) (hM : ∀ o',¬ M b o') : OutK k w' b o cap ys :=⟨fun j x hj => c.at (h.row j x hj) (hM _),h.room.chg c,h.le,h.nf.chg h.lt c,Nat.lt_of_lt_of_le h.lt c.size⟩
theorem OutK.kept {k : IntKind} {w w' : World} {b o cap : Nat} {ys : List Nat} (h : OutK k w b o cap ys) (c : Kept w w') : OutK k w' b o cap ys :=h.chg c fun _ x => x
theorem OutK.take {k : IntKind} {w : World} {b o cap n : Nat} {ys : List Nat} (h : OutK k w b o cap ys) : OutK k w b o cap (ys.take n) :=
  ⟨fun j x hj => h.row j x (by rw [List.getElem?_take] at hj;split at hj <;> simp_all),h.room,(by have :=h.le;simp;omega),h.nf,h.lt⟩
theorem OutK.set {k : IntKind} {w : World} {b o cap i : Nat} {ys : List Nat} (h : OutK k w b o cap ys) (x : Nat) (hi : i < ys.length) : OutK k (w.setCell ⟨b,o + i,none⟩ (.int k (x : Int))) b o cap (ys.set i x) :=by
  have hc :=Chg.setCell (w :=w) b (o + i) (.int k (x : Int)) (fun p q => p = b ∧ q = o + i) fun _ => ⟨rfl,rfl⟩
  refine ⟨fun j y hj => ?_,h.room.chg hc,(by simpa using h.le),h.nf.chg h.lt hc,Nat.lt_of_lt_of_le h.lt hc.size⟩
  by_cases e : j = i
  · subst e
    rw [List.getElem?_set_self hi] at hj
    obtain rfl :=Option.some.inj hj
    exact cell_setCell_eq (h.row j _ (List.getElem?_eq_getElem hi))
  · rw [List.getElem?_set_ne (Ne.symm e)] at hj
    rw [cell_setCell_ne (by omega)]
    exact h.row j y hj
structure ElemT (t e : TypeId) (k : IntKind) (bytes : Nat) : Prop where
  u : Tryz.prog.underlying t = some (.slice e)
  info : (Tryz.prog.info? e).map (fun i => (i.zero,i.size,i.bytes)) = some (some (.int k 0),1,bytes)
  le : bytes ≤ 8
structure Sl (k : IntKind) (w0 w : World) (s : Option Addr) (c : Nat) (xs : List Nat) : Prop where
  nil : s = none → xs = [] ∧ c = 0
  own : ∀ a,s = some a → ∃ g,a = ⟨g,0,none⟩ ∧ w0.heap.size ≤ g ∧ g < w.heap.size ∧ OutK k w g 0 c xs
  cap : c ≤ maxLen
abbrev inS (s : Option Addr) (b _o : Nat) : Prop :=∃ a,s = some a ∧ a.block = b
theorem Sl.start {k : IntKind} {w0 w : World} : Sl k w0 w none 0 [] :=⟨fun _ => ⟨rfl,rfl⟩,(fun _ h => by cases h),Nat.zero_le _⟩
theorem Sl.chg {k : IntKind} {w0 w w' : World} {M : Nat → Nat → Prop} {s : Option Addr} {c : Nat} {xs : List Nat} (h : Sl k w0 w s c xs) (hc : Chg w w' M) (hM : ∀ a,s = some a → ∀ o,¬ M a.block o) : Sl k w0 w' s c xs :=
  ⟨h.nil,fun a ha => by
    obtain ⟨g,rfl,h1,h2,h3⟩ :=h.own a ha
    exact ⟨g,rfl,h1,Nat.lt_of_lt_of_le h2 hc.size,h3.chg hc (hM _ ha)⟩,h.cap⟩
theorem Sl.kept {k : IntKind} {w0 w w' : World} {s : Option Addr} {c : Nat} {xs : List Nat} (h : Sl k w0 w s c xs) (hc : Kept w w') : Sl k w0 w' s c xs :=h.chg hc fun _ _ _ x => x
theorem Sl.lt {k : IntKind} {w0 w : World} {s : Option Addr} {c : Nat} {xs : List Nat} (h : Sl k w0 w s c xs) {a : Addr} (ha : s = some a) : w0.heap.size ≤ a.block ∧ a.block < w.heap.size :=by
  obtain ⟨g,rfl,h1,h2,_⟩ :=h.own a ha
  exact ⟨h1,h2⟩
theorem Sl.of {k : IntKind} {w0 w : World} {g c : Nat} {xs : List Nat} (h0 : w0.heap.size ≤ g) (h1 : g < w.heap.size) (h : OutK k w g 0 c xs) (hc : c ≤ maxLen) : Sl k w0 w (some ⟨g,0,none⟩) c xs :=
  ⟨(fun h => by cases h),(fun a ha => ⟨g,(Option.some.inj ha).symm,h0,h1,h⟩),hc⟩
theorem Sl.le {k : IntKind} {w0 w : World} {s : Option Addr} {c : Nat} {xs : List Nat} (h : Sl k w0 w s c xs) : xs.length ≤ c :=by
  cases s with
  | none => obtain ⟨rfl,rfl⟩ :=h.nil rfl;simp
  | some a => obtain ⟨_,_,_,_,h3⟩ :=h.own a rfl;exact h3.le
theorem OutK.of_ownsRow {k : IntKind} {w : World} {base e : Nat} {v : Value} {n : Nat} {xs : List Nat} (h : w.ownsRow base e 1 v n (xs.map fun (x : Nat) => Value.int k (x : Int))) (hn : n ≠ 0) :
    ∃ g cap,v = .slice (some ⟨g,0,none⟩) n cap ∧ base ≤ g ∧ g < w.heap.size ∧ cap ≤ maxLen ∧ OutK k w g 0 cap xs :=by
  obtain ⟨hl,h⟩ :=h
  rcases h with ⟨_,h⟩ | ⟨g,cap,cur,rfl,hb,hg,hn,hc,hs,ht⟩
  · exact absurd h hn
  · have hlt : g < w.heap.size :=by
      rcases Nat.lt_or_ge g w.heap.size with h | h
      · exact h
      · rw [Array.getElem?_eq_none h] at hg;cases hg
    rw [Nat.mul_one] at hs ht hl
    rw [List.length_map] at hl
    have hcell : ∀ j,w.cell? ⟨g,0 + j,none⟩ = cur[j]? :=fun j => by simp [World.cell?,hg]
    refine ⟨g,cap,rfl,hb,hlt,hc,fun j x hj => ?_,fun j hj => ⟨⟨cur[j]'(by omega),?_⟩,?_⟩,by omega,fun o => ?_,hlt⟩
    · rw [hcell]
      have h1 : (xs.map fun (x : Nat) => Value.int k (x : Int))[j]? = some (.int k (x : Int)) :=by rw [List.getElem?_map,hj];rfl
      rw [← ht,List.getElem?_take] at h1
      split at h1
      · rw [Array.getElem?_toList] at h1;exact h1
      · cases h1
    · rw [hcell];simp
    · simp [World.frozen?,hg]
    · simp [World.frozen?,hg]
theorem Chg.grown {w w' : World} {row : Option Nat} (h : w.grownBy w' row) (hr : row = none) : Kept w w' :=by
  subst hr
  exact Chg.ofOld ⟨h.os,h.tape,h.output,h.size,fun b hb => h.block b hb (by simp)⟩ _
section
variable {k : IntKind} {t e bytes : Nat} (T : ElemT t e k bytes) {w0 w : World}
include T
theorem run_gapp {s : Option Addr} {c : Nat} {xs : List Nat} (h : Sl k w0 w s c xs) (h0 : w0.heap.size ≤ w.heap.size) (zs : List Nat) (ab ao m cz : Nat) (hm : zs.length = m) (hm0 : m ≠ 0) (hz : ∀ (j x : Nat),zs[j]? = some x → w.cell? ⟨ab,ao + j,none⟩ = some (.int k (x : Int))) (hb : xs.length + m < 2 ^ 40) :
    ∃ s' c' w',(Builtin.append_ #[t,t] t #[.slice s xs.length c,.slice (some ⟨ab,ao,none⟩) m cz]).run Tryz.prog w = .ok (.slice s' (xs.length + m) c') w' ∧ Sl k w0 w' s' c' (xs ++ zs) ∧ Chg w w' (inS s) ∧ (s' = s ∨ ∀ a,s' = some a → w.heap.size ≤ a.block) :=by
  obtain ⟨i0,hi,hz0,hz1,hz2⟩ :=info_parts T.info
  have h63 : xs.length + m ≤ maxLen :=by simp only [maxLen];omega
  have hbytes : (xs.length + m) * bytes ≤ 140737488355328 :=by
    have :=T.le
    have h1 : (xs.length + m) * bytes ≤ (xs.length + m) * 8 :=Nat.mul_le_mul_left _ this
    omega
  have hzl : (zs.map fun (x : Nat) => Value.int k (x : Int)).length = m * 1 :=by simp [hm]
  have hnews : ∀ (j : Nat) (u : Value),(zs.map fun (x : Nat) => Value.int k (x : Int))[j]? = some u → w.cell? ((⟨ab,ao,none⟩ : Addr).add j) = some u :=fun j u hj => by
    rw [List.getElem?_map] at hj
    cases hx : zs[j]? with
    | none => rw [hx] at hj;cases hj
    | some x =>
      rw [hx] at hj
      obtain rfl :=Option.some.inj hj
      rw [Addr.add_lit]
      exact hz j x hx
  have hone : ∀ u ∈ (zs.map fun (x : Nat) => Value.int k (x : Int)),u.oneCell' = true :=fun u hu => by
    obtain ⟨x,_,rfl⟩ :=List.mem_map.1 hu
    rfl
  cases s with
  | none =>
    obtain ⟨rfl,rfl⟩ :=h.nil rfl
    obtain ⟨v',w',hr,ho,hg,_⟩ :=run_append_own (P :=Tryz.prog) w w.heap.size t t e i0 (.int k 0) 1 bytes T.u hi hz0 hz1 hz2 rfl (by decide) (.slice none 0 0) 0 [] ⟨rfl,.inl ⟨rfl,rfl⟩⟩ ⟨ab,ao,none⟩ m cz _ hzl hnews hone (by simpa using h63) (by simpa using hbytes) (Nat.le_refl _)
    rw [List.nil_append] at ho
    obtain ⟨g,cap,rfl,h1,h2,h3,h4⟩ :=OutK.of_ownsRow ho (by omega)
    refine ⟨_,cap,w',by simpa using hr,?_,(Chg.grown hg rfl).any _,.inr fun a ha => by obtain rfl :=Option.some.inj ha;exact h1⟩
    exact Sl.of (Nat.le_trans h0 h1) h2 (by simpa using h4) h3
  | some a =>
    obtain ⟨g,rfl,h1,h2,h3⟩ :=h.own a rfl
    by_cases hc : xs.length + m ≤ c
    · have hr :=run_append_room_cells (P :=Tryz.prog) w t t e i0 T.u hi g 0 xs.length c ⟨ab,ao,none⟩ m cz _ (by rw [hz1];exact hzl) hnews hone hc (fun j hj => by
          rw [hz1,Nat.mul_one]
          obtain ⟨⟨v,hv⟩,_⟩ :=h3.room (xs.length + j) (by simp at hj;omega)
          rw [show 0 + xs.length + j = 0 + (xs.length + j) by omega,hv];rfl) (fun j hj => by
          rw [hz1,Nat.mul_one,show 0 + xs.length + j = 0 + (xs.length + j) by omega]
          exact (h3.room (xs.length + j) (by simp at hj;omega)).2)
      rw [hz1,Nat.mul_one] at hr
      have hcg :=Chg.setCells g (zs.map fun (x : Nat) => Value.int k (x : Int)) (0 + xs.length) w
      refine ⟨_,_,_,hr,?_,hcg.mono fun b o _ hh => ⟨_,rfl,hh.1.symm⟩,.inl rfl⟩
      refine Sl.of h1 (Nat.lt_of_lt_of_le h2 hcg.size) ⟨fun j x hj => ?_,h3.room.chg hcg,(by simp;omega),h3.nf.chg h3.lt hcg,Nat.lt_of_lt_of_le h3.lt hcg.size⟩ h.cap
      rcases Nat.lt_or_ge j xs.length with hlt | hge
      · rw [List.getElem?_append_left hlt] at hj
        exact hcg.at (h3.row j x hj) fun e => by have :=e.2.1;omega
      · rw [List.getElem?_append_right hge] at hj
        obtain ⟨hl,hx⟩ :=List.getElem?_eq_some_iff.1 hj
        have :=World.cell?_setCells_in g (zs.map fun (x : Nat) => Value.int k (x : Int)) (0 + xs.length) w (fun j hj => by
          obtain ⟨⟨v,hv⟩,_⟩ :=h3.room (xs.length + j) (by simp at hj;omega)
          rw [show 0 + xs.length + j = 0 + (xs.length + j) by omega]
          rw [hv];rfl) (j - xs.length) (by simpa using hl)
        rw [show 0 + xs.length + (j - xs.length) = 0 + j by omega] at this
        rw [this];simp [hx]
    · obtain ⟨v',w',hr,ho,hg⟩ :=run_append_arg_grows (P :=Tryz.prog) w t t e i0 (.int k 0) 1 bytes T.u hi hz0 hz1 hz2 rfl (by decide) ⟨g,0,none⟩ xs.length c (xs.map fun (x : Nat) => Value.int k (x : Int)) (by simp) (fun j u hj => by
          rw [List.getElem?_map] at hj
          cases hx : xs[j]? with
          | none => rw [hx] at hj;cases hj
          | some x =>
            rw [hx] at hj
            obtain rfl :=Option.some.inj hj
            rw [Addr.add_lit]
            exact h3.row j x hx) ⟨ab,ao,none⟩ m cz _ hzl hnews (by omega) h63 hbytes
      rw [← List.map_append] at ho
      obtain ⟨g',cap,rfl,k1,k2,k3,k4⟩ :=OutK.of_ownsRow ho (by omega)
      exact ⟨_,cap,w',hr,Sl.of (Nat.le_trans h0 k1) k2 k4 k3,(Chg.grown hg rfl).any _,.inr fun a ha => by obtain rfl :=Option.some.inj ha;exact k1⟩
end
section
variable {k : IntKind} {t e bytes : Nat} (T : ElemT t e k bytes) {w0 w : World} {ops : Array Oper} {rest : List Oper} {op : Oper} {a : Act} {Q : Exit → Act → World → Prop}
include T
theorem wp_gapp (hgd : op.guard = none) (s x : Operand) (ho : op.op = .call { callee :=.builtin .append,args :=#[s,x],argTypes :=#[t,t] }) (hty : op.type = t) {sa : Option Addr} {c n m cz ab ao : Nat} {xs : List Nat} (zs : List Nat)
    (hs : a.eval s = .slice sa n c) (hx : a.eval x = .slice (some ⟨ab,ao,none⟩) m cz) (h : Sl k w0 w sa c xs) (h0 : w0.heap.size ≤ w.heap.size) (hn : xs.length = n) (hm : zs.length = m) (hm0 : m ≠ 0) (hb : n + m < 2 ^ 40)
    (hz : ∀ (j y : Nat),zs[j]? = some y → w.cell? ⟨ab,ao + j,none⟩ = some (.int k (y : Int)))
    (hk : ∀ s' c' W1,Sl k w0 W1 s' c' (xs ++ zs) → Chg w W1 (inS sa) → (s' = sa ∨ ∀ a,s' = some a → w.heap.size ≤ a.block) → wpList Tryz.prog ops Q rest (a.put op.dst (.slice s' (n + m) c')) W1) : wpList Tryz.prog ops Q (op :: rest) a w :=by
  subst hn
  obtain ⟨s',c',w',h1,h2,h3,h4⟩ :=run_gapp T h h0 zs ab ao m cz hm hm0 hz hb
  exact Lib.wpList_append_run _ hgd s x t t ho _ _ hs hx _ _ (by rw [hty];exact h1) (hk _ _ _ h2 h3 h4)
theorem wp_gapp1 (hgd : op.guard = none) (s x : Operand) (ho : op.op = .call { callee :=.builtin .append,args :=#[s,x],argTypes :=#[t,t] }) (hty : op.type = t) {sa : Option Addr} {c n : Nat} {z : Int} {xs : List Nat}
    (hs : a.eval s = .slice sa n c) (hx : a.eval x = .slice (some ⟨w.heap.size,0,none⟩) 1 1) (h : Sl k w0 w sa c xs) (h0 : w0.heap.size ≤ w.heap.size) (hn : xs.length = n) (hb : n + 1 < 2 ^ 40) (hz : 0 ≤ z)
    (hk : ∀ s' c' W1,Sl k w0 W1 s' c' (xs ++ [z.toNat]) → Chg w W1 (inS sa) → (s' = sa ∨ ∀ a,s' = some a → w.heap.size ≤ a.block) → wpList Tryz.prog ops Q rest (a.put op.dst (.slice s' (n + 1) c')) W1) : wpList Tryz.prog ops Q (op :: rest) a (w.alloc (.cells #[.int k z] e)) :=by
  have ka : Kept w (w.alloc (.cells #[.int k z] e)) :=Chg.alloc _ _ _
  refine wp_gapp T (w0 :=w0) hgd s x ho hty [z.toNat] hs hx (h.kept ka) (Nat.le_trans h0 ka.size) hn rfl (by decide) hb (fun j y hj => ?_) fun s' c' W1 h1 h2 h3 => hk s' c' W1 h1 ((ka.any _).trans h2 fun _ _ _ h => h) ?_
  · match j,hj with
    | 0,hj =>
      obtain rfl :=Option.some.inj hj
      rw [World.cell?_alloc_at _ _ _ _ rfl]
      simp [Int.toNat_of_nonneg hz]
  · rcases h3 with h3 | h3
    · exact .inl h3
    · exact .inr fun a ha => Nat.le_trans ka.size (h3 a ha)
end
end Go.Proofs.YtfmmdamgcpiciaaGreatDoor
namespace Go.Proofs.YtfmmdamgcpiciaaGreatDoor
open Go Go.RowKit
abbrev L9 : Nat :=1000000000
theorem T26 : ElemT 26 72 .u32 4 :=⟨by kernel_rfl,by kernel_rfl,by decide⟩
def Rd (w : World) (s : Option Addr) (xs : List Nat) : Prop :=xs = [] ∨ ∃ g,s = some ⟨g,0,none⟩ ∧ Row .u32 w g 0 xs
def Dig (w : World) (s : Option Addr) (n c X : Nat) : Prop :=∃ xs,xs.length = n ∧ n ≤ c ∧ c ≤ maxLen ∧ n ≤ 1048576 ∧ Rd w s xs ∧ Lt L9 xs ∧ Nz xs ∧ val L9 xs = X
theorem Rd.kept {w w' : World} {s : Option Addr} {xs : List Nat} (h : Rd w s xs) (k : Kept w w') : Rd w' s xs :=by
  rcases h with h | ⟨g,h1,h2⟩
  · exact .inl h
  · exact .inr ⟨g,h1,h2.keep k⟩
theorem Rd.row {w : World} {s : Option Addr} {xs : List Nat} (h : Rd w s xs) (hn : xs ≠ []) : ∃ g,s = some ⟨g,0,none⟩ ∧ Row .u32 w g 0 xs :=h.resolve_left hn
theorem Dig.kept {w w' : World} {s : Option Addr} {n c X : Nat} (h : Dig w s n c X) (k : Kept w w') : Dig w' s n c X :=by
  obtain ⟨xs,h1,h2,h3,h4,h5,h6⟩ :=h
  exact ⟨xs,h1,h2,h3,h4,h5.kept k,h6⟩
theorem Rd.of_Sl {w0 w : World} {s : Option Addr} {c : Nat} {xs : List Nat} (h : Sl .u32 w0 w s c xs) : Rd w s xs :=by
  cases s with
  | none => exact .inl (h.nil rfl).1
  | some a =>
    obtain ⟨g,rfl,_,_,h⟩ :=h.own a rfl
    exact .inr ⟨g,rfl,h.row⟩
theorem Rd.take {w : World} {s : Option Addr} {xs : List Nat} (h : Rd w s xs) (n : Nat) : Rd w s (xs.take n) :=by
  rcases h with rfl | ⟨g,h1,h2⟩
  · exact .inl (by simp)
  · exact .inr ⟨g,h1,h2.take n⟩
theorem Dig.len_le {w : World} {s : Option Addr} {n c X k : Nat} (h : Dig w s n c X) (hX : X < L9 ^ k) : n ≤ k :=by
  obtain ⟨xs,h1,h2,h3,h4,h5,h6,h7,h8⟩ :=h
  rcases Nat.eq_zero_or_pos n with rfl | hp
  · exact Nat.zero_le _
  · obtain ⟨m,rfl⟩ : ∃ m,n = m + 1 :=⟨n - 1,by omega⟩
    have :=Nz.le (B :=L9) h7 h1
    rw [h8] at this
    have h9 :=(Nat.pow_lt_pow_iff_right (by decide : 1 < L9)).1 (Nat.lt_of_le_of_lt this hX)
    omega
theorem Dig.zero {w : World} {s : Option Addr} {n c X : Nat} (h : Dig w s n c X) : n = 0 ↔ X = 0 :=by
  constructor
  · rintro rfl
    obtain ⟨xs,h1,h2,h3,h4,h5,h6,h7,h8⟩ :=h
    rw [List.eq_nil_of_length_eq_zero h1] at h8
    exact h8.symm
  · rintro rfl
    have :=h.len_le (k :=0) (by decide)
    omega
theorem natTrim (w : World) (s : Option Addr) (n c : Nat) (xs : List Nat) (hl : xs.length = n) (hc : n ≤ c) (hcm : c ≤ maxLen) (hn : n ≤ 1048576) (hr : Rd w s xs) (hlt : Lt L9 xs) :
    Calls Tryz.prog 80 #[.slice s n c] w fun r w' => w' = w ∧ ∃ n',r = .returned (.slice s n' c) ∧ Dig w s n' c (val L9 xs) :=by
  simp only [maxLen] at hcm
  go_enter Tryz.func80,Tryz.ntmps80
  go_wp2
  go_loop [0] (fun t0 => ∃ m : Nat,m ≤ n ∧ t0 = .slice s m c ∧ trimZ (xs.take m) = trimZ xs) (fun t0 => lenOf t0)
  case atStart => exact ⟨n,Nat.le_refl _,rfl,by rw [List.take_of_length_le (by omega)]⟩
  case round =>
    obtain ⟨m,hm,rfl,htr⟩ :=hrel
    have fin : ∀ m',m' ≤ n → trimZ xs = xs.take m' → Dig w s m' c (val L9 xs) :=fun m' hm' e => by
      refine ⟨xs.take m',by rw [List.length_take,Nat.min_eq_left (by omega)],by omega,by simp only [maxLen];omega,by omega,hr.take _,hlt.take _,?_,?_⟩
      · rw [← e];exact Nz.trimZ xs
      · rw [← e,(trimZ_spec L9 xs).1]
    rcases Nat.eq_zero_or_pos m with rfl | hmp
    · go_wp2
      first | go_ret | refine ⟨_,results_tmp rfl _ _ _,?_⟩
      exact ⟨rfl,0,rfl,fin 0 (Nat.zero_le _) htr.symm⟩
    · obtain ⟨i,rfl⟩ : ∃ i,m = i + 1 :=⟨m - 1,by omega⟩
      have gx : xs[i]? = some xs[i] :=List.getElem?_eq_getElem (by omega)
      have htk : xs.take (i + 1) = xs.take i ++ [xs[i]] :=List.take_succ_eq_append_getElem (by omega)
      obtain ⟨g,rfl,hrow⟩ :=hr.row (fun e => by subst e;simp at hl;omega)
      generalize xs[i] = x at gx htk
      have cx :=hrow i x gx
      rw [htk,trimZ_snoc] at htr
      simp only [Nat.zero_add] at cx
      have hic : i + 1 ≤ c :=by omega
      rcases Nat.eq_zero_or_pos x with rfl | hxp
      · rw [if_pos rfl] at htr
        clear fin
        go_wp2
        go_round
        case rel => exact ⟨i,by omega,by go_num,htr⟩
        case measure => simp [lenOf]
      · rw [if_neg (by omega)] at htr
        have hx0 : ((x : Int) == 0) = false :=by simp;omega
        have hf :=Lib.hid (fin (i + 1) hm (by rw [htk];exact htr.symm))
        clear fin
        go_wp2
        first | go_ret | refine ⟨_,results_tmp rfl _ _ _,?_⟩
        exact ⟨rfl,i + 1,rfl,hf.out⟩
end Go.Proofs.YtfmmdamgcpiciaaGreatDoor
namespace Go.Proofs.YtfmmdamgcpiciaaGreatDoor
open Go Go.RowKit
theorem Dig.len_ge {w w' : World} {sx sy : Option Addr} {m n cx cy X Y : Nat} (hx : Dig w sx m cx X) (hy : Dig w' sy n cy Y) (h : m < n) : X < Y :=by
  obtain ⟨xs,h1,h2,h3,h4,h5,h6,h7,h8⟩ :=hx
  obtain ⟨ys,k1,k2,k3,k4,k5,k6,k7,k8⟩ :=hy
  obtain ⟨d,rfl⟩ : ∃ d,n = d + 1 :=⟨n - 1,by omega⟩
  have a :=Nz.le (B :=L9) k7 k1
  have b :=val_lt h6
  rw [h1,h8] at b
  rw [k8] at a
  exact Nat.lt_of_lt_of_le b (Nat.le_trans (Nat.pow_le_pow_right (by decide) (by omega)) a)
theorem natCmp (w : World) (sx sy : Option Addr) (m n cx cy X Y : Nat) (hx : Dig w sx m cx X) (hy : Dig w sy n cy Y) :
    Calls Tryz.prog 77 #[.slice sx m cx,.slice sy n cy] w fun e w' => e = .returned (.int .i64 (cmpI X Y)) ∧ Kept w w' :=by
  rcases Nat.lt_trichotomy m n with hmn | rfl | hmn
  · have hv : cmpI X Y = -1 :=by simp [cmpI,hx.len_ge hy hmn]
    have hne : ((m : Int) != (n : Int)) = true :=by simp only [bne_iff_ne,ne_eq];omega
    rw [hv]
    clear hx hy hv
    go_enter Tryz.func77,Tryz.ntmps77
    go_wp2
    first | go_ret | refine ⟨_,results_tmp rfl _ _ _,?_⟩
    exact ⟨rfl,Chg.refl _ _⟩
  · obtain ⟨xs,h1,h2,h3,h4,h5,h6,h7,h8⟩ :=hx
    obtain ⟨ys,k1,k2,k3,k4,k5,k6,k7,k8⟩ :=hy
    have HV :=Lib.hid (And.intro h8 k8)
    clear h3 k3 h8 k8
    go_enter Tryz.func77,Tryz.ntmps77
    go_wp2
    go_loopw [5] (fun i wr => ∃ k : Nat,k ≤ m ∧ i = .int .i64 ((k : Int) - 1) ∧ xs.drop k = ys.drop k ∧ Kept w wr) (fun i _ => (intOf i + 1).toNat)
    case atStart => exact ⟨m,Nat.le_refl _,rfl,by rw [List.drop_of_length_le (by omega),List.drop_of_length_le (by omega)],Chg.refl _ _⟩
    case round =>
      obtain ⟨k,hk,rfl,he,hK⟩ :=hrel
      rcases Nat.eq_zero_or_pos k with rfl | hkp
      · have hv : cmpI X Y = 0 :=by
          rw [List.drop_zero,List.drop_zero] at he
          rw [← HV.out.1,← HV.out.2,he];simp [cmpI]
        have Hv :=Lib.hid hv
        clear hv
        go_wp2
        first | go_ret | refine ⟨_,results_tmp rfl _ _ _,?_⟩
        exact ⟨by rw [Hv.out];rfl,hK⟩
      · obtain ⟨i,rfl⟩ : ∃ i,k = i + 1 :=⟨k - 1,by omega⟩
        have gx : xs[i]? = some xs[i] :=List.getElem?_eq_getElem (by omega)
        have gy : ys[i]? = some ys[i] :=List.getElem?_eq_getElem (by omega)
        obtain ⟨g1,rfl,r1⟩ :=h5.row (fun e => by subst e;simp at h1;omega)
        obtain ⟨g2,rfl,r2⟩ :=k5.row (fun e => by subst e;simp at k1;omega)
        have hdx : xs.drop i = xs[i] :: xs.drop (i + 1) :=List.drop_eq_getElem_cons (by omega)
        have hdy : ys.drop i = ys[i] :: ys.drop (i + 1) :=List.drop_eq_getElem_cons (by omega)
        generalize xs[i] = x at gx hdx
        generalize ys[i] = y at gy hdy
        have cx1 :=(r1.keep hK) i x gx
        have cy1 :=(r2.keep hK) i y gy
        have e1 : (((i + 1 : Nat) : Int) - 1) = (i : Int) :=by omega
        simp only [Nat.zero_add] at cx1 cy1
        have hic : i < m :=hk
        rw [e1]
        clear e1
        rcases Nat.lt_trichotomy x y with hxy | rfl | hxy
        · have hv : cmpI X Y = -1 :=by rw [← HV.out.1,← HV.out.2];simp [cmpI,cmp_step gx gy he h6 hxy]
          have hne : ((x : Int) == (y : Int)) = false :=by simp;omega
          have hne2 : ((x : Int) != (y : Int)) = true :=by simp only [bne_iff_ne,ne_eq];omega
          have Hv :=Lib.hid hv
          clear hv
          go_wp2_with (first
            | (refine wp_region_lit_segs (id :=8) [[0,1,2,3,4,5,6,7,8]] mixed (by kernel_rfl) ?_;simp only [wpSegsL,gaC,gaN,lZ0,lS0,coS])
            | (refine wp_region_lit_segs (id :=9) [[0,1,2,3,4,5,6,7,8]] mixed (by kernel_rfl) ?_;simp only [wpSegsL,gaC,gaN,lZ0,lS0,coS])
            | refine ⟨by kernel_rfl,?_⟩)
          first | go_ret | refine ⟨_,results_tmp rfl _ _ _,?_⟩
          exact ⟨by rw [Hv.out];rfl,hK.drew.drew⟩
        · go_wp2_with (first
            | (refine wp_region_lit_segs (id :=8) [[0,1,2,3,4,5,6,7,8]] mixed (by kernel_rfl) ?_;simp only [wpSegsL,gaC,gaN,lZ0,lS0,coS])
            | (refine wp_region_lit_segs (id :=9) [[0,1,2,3,4,5,6,7,8]] mixed (by kernel_rfl) ?_;simp only [wpSegsL,gaC,gaN,lZ0,lS0,coS])
            | refine ⟨by kernel_rfl,?_⟩)
          go_roundw
          case rel => exact ⟨i,by omega,by go_num,by rw [hdx,hdy,he],hK.drew⟩
          case measure => simp [intOf]
        · have hv : cmpI X Y = 1 :=by
            have :=cmp_step gy gx he.symm k6 hxy
            rw [← HV.out.1,← HV.out.2]
            simp [cmpI,this];omega
          have hne : ((x : Int) == (y : Int)) = false :=by simp;omega
          have hne2 : ((x : Int) != (y : Int)) = true :=by simp only [bne_iff_ne,ne_eq];omega
          have hnl : ¬ ((x : Int) < (y : Int)) :=by omega
          have Hv :=Lib.hid hv
          clear hv
          go_wp2_with (first
            | (refine wp_region_lit_segs (id :=8) [[0,1,2,3,4,5,6,7,8]] mixed (by kernel_rfl) ?_;simp only [wpSegsL,gaC,gaN,lZ0,lS0,coS])
            | (refine wp_region_lit_segs (id :=9) [[0,1,2,3,4,5,6,7,8]] mixed (by kernel_rfl) ?_;simp only [wpSegsL,gaC,gaN,lZ0,lS0,coS])
            | refine ⟨by kernel_rfl,?_⟩)
          first | go_ret | refine ⟨_,results_tmp rfl _ _ _,?_⟩
          exact ⟨by rw [Hv.out];rfl,hK.drew.drew⟩
  · have hlt :=hy.len_ge hx hmn
    have hv : cmpI X Y = 1 :=by simp [cmpI,hlt];omega
    have hne : ((m : Int) != (n : Int)) = true :=by simp only [bne_iff_ne,ne_eq];omega
    rw [hv]
    clear hx hy hv hlt
    go_enter Tryz.func77,Tryz.ntmps77
    go_wp2
    first | go_ret | refine ⟨_,results_tmp rfl _ _ _,?_⟩
    exact ⟨rfl,Chg.refl _ _⟩
def NV (w : World) (v : Value) (X : Nat) : Prop :=∃ s n c,v = .slice s n c ∧ Dig w s n c X
theorem NV.kept {w w' : World} {v : Value} {X : Nat} (h : NV w v X) (k : Kept w w') : NV w' v X :=by
  obtain ⟨s,n,c,h1,h2⟩ :=h
  exact ⟨s,n,c,h1,h2.kept k⟩
theorem natOne (w : World) : Calls Tryz.prog 48 #[] w fun e w' => (∃ v,e = .returned v ∧ NV w' v 1) ∧ Kept w w' :=by
  go_enter Tryz.func48,Tryz.ntmps48
  go_wp2
  first | go_ret | refine ⟨_,results_tmp rfl _ _ _,?_⟩
  refine ⟨⟨_,rfl,_,1,1,rfl,[1],rfl,Nat.le_refl _,by decide,by decide,.inr ⟨_,rfl,fun j x hj => ?_⟩,Lt.one (by decide),Nz.one (by decide),rfl⟩,Chg.alloc _ _ _⟩
  rw [World.cell?_alloc_at _ _ _ _ rfl]
  match j,hj with
  | 0,hj => obtain rfl :=Option.some.inj hj;rfl
end Go.Proofs.YtfmmdamgcpiciaaGreatDoor
namespace Go.Proofs.YtfmmdamgcpiciaaGreatDoor
open Go Go.RowKit
theorem Nz.snoc {xs : List Nat} {x : Nat} (h : x ≠ 0) : Nz (xs ++ [x]) :=fun y hy => by
  rw [List.getLast?_concat] at hy
  obtain rfl :=Option.some.inj hy
  exact h
theorem Sl.ret {w0 w : World} {s : Option Addr} {c n X : Nat} {xs : List Nat} (h : Sl .u32 w0 w s c xs) (hl : xs.length = n) (hn : n ≤ 1048576) (hlt : Lt L9 xs) (hz : Nz xs) (hv : val L9 xs = X) : Dig w s n c X :=
  ⟨xs,hl,by rw [← hl];exact h.le,h.cap,hn,Rd.of_Sl h,hlt,hz,hv⟩
theorem natFrom (w : World) (N : Nat) (hN : N < 18446744073709551616) : Calls Tryz.prog 41 #[.int .u64 (N : Int)] w fun e w' => (∃ v,e = .returned v ∧ NV w' v N) ∧ Kept w w' :=by
  obtain ⟨A,hA⟩ : ∃ A : Int,(N : Int) = A :=⟨_,rfl⟩
  have H :=Lib.hid (And.intro hN hA)
  rw [hA]
  clear hN hA
  go_enter Tryz.func41,Tryz.ntmps41
  go_wp2
  go_loopw [0,3] (fun t0 t3 wx => ∃ (T : Int) (M : Nat) (s : Option Addr) (c n : Nat) (xs : List Nat),t0 = .int .u64 T ∧ t3 = .slice s n c ∧ Hid (T = M ∧ M < 18446744073709551616) ∧ xs.length = n ∧ n ≤ 3 ∧ Hid ( val L9 xs + L9 ^ n * M = N ∧ (M = 0 → Nz xs)) ∧ Lt L9 xs ∧ Sl .u32 w wx s c xs ∧ Kept w wx) (fun t0 _ _ => (intOf t0).toNat)
  case atStart => exact ⟨A,N,none,0,0,[],rfl,rfl,Lib.hid ⟨H.out.2.symm,H.out.1⟩,rfl,by decide,Lib.hid ⟨by simp [val],fun _ => Nz.nil⟩,Lt.nil,Sl.start,Chg.refl _ _⟩
  case round =>
    obtain ⟨T,M,s,c,n,xs,rfl,rfl,hT,hl,hn,hv,hlt,hS,hK⟩ :=hrel
    rcases Nat.eq_zero_or_pos M with rfl | hM
    · obtain rfl : T = 0 :=hT.out.1
      go_wp2
      first | go_ret | refine ⟨_,results_tmp rfl _ _ _,?_⟩
      obtain ⟨h2,h3⟩ :=hv.out
      exact ⟨⟨_,rfl,s,n,c,rfl,hS.ret hl (by omega) hlt (h3 trivial) (by simpa using h2)⟩,hK⟩
    · have hT0 : 0 < T :=by have :=hT.out.1;omega
      have hT1 : T ≤ 18446744073709551615 :=by have :=hT.out;omega
      have hr : (T % 1000000000).toNat = M % L9 :=by have :=hT.out.1;unfold L9;omega
      have Hr :=Lib.hid (And.intro hr hM)
      clear hr hM
      go_wp2_with (at_builtin;refine wp_gapp1 T26 (w0 :=w) rfl (.tmp 8) (.tmp 12) rfl rfl rfl rfl hS hK.size hl (by omega) (by omega) ?_;intro s4 c4 w4 hS4 hC4 hD4)
      go_roundw
      case rel =>
        obtain ⟨h2,h3⟩ :=hv.out
        have hn3 : n + 1 ≤ 3 :=by
          rcases Nat.lt_or_ge n 3 with h | h
          · exact h
          · have a1 : L9 ^ 3 ≤ L9 ^ n :=Nat.pow_le_pow_right (by decide) h
            have a2 : L9 ^ n * 1 ≤ L9 ^ n * M :=Nat.mul_le_mul_left _ Hr.out.2
            have a3 : L9 ^ 3 = 1000000000000000000000000000 :=by decide
            have :=H.out.1
            omega
        rw [Hr.out.1] at hS4
        refine ⟨_,M / L9,s4,c4,n + 1,xs ++ [M % L9],rfl,rfl,Lib.hid ⟨?_,?_⟩,by simp [hl],?_,Lib.hid ⟨?_,fun h => ?_⟩,hlt.snoc (Nat.mod_lt _ (by decide)),hS4,hK.trans hC4 fun b o hb h => ?_⟩
        · have :=hT.out.1;unfold L9;omega
        · have :=hT.out.2;unfold L9;omega
        · exact hn3
        · rw [val_snoc,hl,Nat.pow_succ,Nat.add_assoc,Nat.mul_assoc,← Nat.mul_add,Nat.mod_add_div];exact h2
        · refine Nz.snoc ?_
          have :=Hr.out.2
          unfold L9 at *
          omega
        · obtain ⟨a,ha,rfl⟩ :=h
          have :=(hS.lt ha).1
          omega
      case measure => simp [intOf];omega
def lb (xs : List Nat) (i : Nat) : Nat :=xs.getD i 0
theorem lb_in {xs : List Nat} {i x : Nat} (h : xs[i]? = some x) : lb xs i = x :=by simp [lb,h]
theorem lb_out {xs : List Nat} {i : Nat} (h : xs.length ≤ i) : lb xs i = 0 :=by simp [lb,List.getElem?_eq_none h]
theorem lb_lt {xs : List Nat} (h : Lt L9 xs) (i : Nat) : lb xs i < L9 :=by
  rcases Nat.lt_or_ge i xs.length with hi | hi
  · rw [lb_in (List.getElem?_eq_getElem hi)];exact h _ (List.getElem_mem _)
  · rw [lb_out hi];decide
theorem val_drop (B : Nat) (xs : List Nat) (i : Nat) : val B (xs.drop i) = lb xs i + B * val B (xs.drop (i + 1)) :=by
  rcases Nat.lt_or_ge i xs.length with hi | hi
  · rw [List.drop_eq_getElem_cons hi,val,lb_in (List.getElem?_eq_getElem hi)]
  · rw [List.drop_of_length_le hi,List.drop_of_length_le (by omega),lb_out hi];simp [val]
theorem nz_of_ge {zs : List Nat} {k : Nat} (hl : zs.length = k + 1) (hlt : Lt L9 zs) (h : L9 ^ k ≤ val L9 zs) : Nz zs :=by
  intro x hx
  rw [List.getLast?_eq_getElem?,hl] at hx
  intro h0
  subst h0
  have h1 : val L9 zs = val L9 (zs.take k) + L9 ^ k * 0 :=by
    have :=val_take_succ (B :=L9) (xs :=zs) (k :=k) (by omega)
    rw [List.take_of_length_le (by omega)] at this
    rw [this]
    congr 2
    simpa using (List.getElem?_eq_some_iff.1 hx).2
  have h2 :=val_lt (hlt.take k)
  rw [List.length_take,Nat.min_eq_left (by omega)] at h2
  omega
def AddI (xs ys : List Nat) (m n S i c : Nat) (zs : List Nat) : Prop :=zs.length = i ∧ Lt L9 zs ∧ c ≤ 1 ∧ val L9 zs + L9 ^ i * (c + val L9 (xs.drop i) + val L9 (ys.drop i)) = S ∧ (i ≤ max m n ∨ (i = max m n + 1 ∧ c = 0 ∧ L9 ^ max m n ≤ S))
theorem AddI.step {xs ys zs : List Nat} {m n S i c : Nat} (h : AddI xs ys m n S i c zs) (hx : Lt L9 xs) (hy : Lt L9 ys) (hm : xs.length = m) (hn : ys.length = n) (hg : i < m ∨ i < n ∨ 0 < c) :
    AddI xs ys m n S (i + 1) ((c + lb xs i + lb ys i) / L9) (zs ++ [(c + lb xs i + lb ys i) % L9]) :=by
  obtain ⟨h1,h2,h3,h4,h5⟩ :=h
  have a1 :=lb_lt hx i
  have a2 :=lb_lt hy i
  obtain ⟨t,ht⟩ : ∃ t,c + lb xs i + lb ys i = t :=⟨_,rfl⟩
  rw [ht]
  have hmd :=Nat.mod_add_div t L9
  refine ⟨by simp [h1],h2.snoc (Nat.mod_lt _ (by decide)),by unfold L9 at *;omega,?_,?_⟩
  · rw [← h4,val_snoc,h1,val_drop L9 xs i,val_drop L9 ys i,Nat.pow_succ,Nat.add_assoc,Nat.mul_assoc (L9 ^ i),← Nat.mul_add]
    congr 2
    rw [Nat.mul_add,Nat.mul_add]
    omega
  · by_cases hi : i + 1 ≤ max m n
    · exact .inl hi
    · have hi2 : i = max m n :=by omega
      have hc : c = 1 :=by omega
      have e1 : lb xs i = 0 :=lb_out (by omega)
      have e2 : lb ys i = 0 :=lb_out (by omega)
      refine .inr ⟨by omega,by rw [← ht,hc,e1,e2];rfl,?_⟩
      rw [← h4,← hi2,hc]
      have : L9 ^ i * 1 ≤ L9 ^ i * (1 + val L9 (xs.drop i) + val L9 (ys.drop i)) :=Nat.mul_le_mul_left _ (by omega)
      omega
theorem AddI.done {xs ys zs : List Nat} {m n X Y i : Nat} (h : AddI xs ys m n (X + Y) i 0 zs) (hm : xs.length = m) (hn : ys.length = n) (hvx : val L9 xs = X) (hvy : val L9 ys = Y) (hx : Nz xs) (hy : Nz ys) (h1 : m ≤ i) (h2 : n ≤ i) : val L9 zs = X + Y ∧ Nz zs ∧ i ≤ max m n + 1 :=by
  obtain ⟨g1,g2,g3,g4,g5⟩ :=h
  rw [List.drop_of_length_le (by omega),List.drop_of_length_le (by omega)] at g4
  simp only [val,Nat.add_zero,Nat.mul_zero] at g4
  refine ⟨g4,?_,by omega⟩
  rcases Nat.eq_zero_or_pos i with rfl | hi
  · rw [List.eq_nil_of_length_eq_zero g1];exact Nz.nil
  · obtain ⟨k,rfl⟩ : ∃ k,i = k + 1 :=⟨i - 1,by omega⟩
    refine nz_of_ge g1 g2 ?_
    rw [g4]
    rcases g5 with g5 | ⟨g5,_,g6⟩
    · rcases (by omega : m = k + 1 ∨ n = k + 1) with e | e
      · have :=Nz.le (B :=L9) hx (hm.trans e)
        omega
      · have :=Nz.le (B :=L9) hy (hn.trans e)
        omega
    · rw [show k = max m n by omega];exact g6
theorem natAdd (w : World) (sx sy : Option Addr) (m n cx cy X Y : Nat) (hx : Dig w sx m cx X) (hy : Dig w sy n cy Y) (hm : m < 1000000) (hn : n < 1000000) :
    Calls Tryz.prog 78 #[.slice sx m cx,.slice sy n cy] w fun e w' => (∃ v,e = .returned v ∧ NV w' v (X + Y)) ∧ Kept w w' :=by
  obtain ⟨xs,h1,h2,h3,h4,h5,h6,h7,h8⟩ :=hx
  obtain ⟨ys,k1,k2,k3,k4,k5,k6,k7,k8⟩ :=hy
  have hS0 : AddI xs ys m n (X + Y) 0 0 [] :=⟨rfl,Lt.nil,by decide,by simp [val,h8,k8],.inl (Nat.zero_le _)⟩
  have HS :=Lib.hid (And.intro h7 (And.intro h8 (And.intro k7 (And.intro k8 (And.intro h3 k3)))))
  clear h3 h7 h8 k3 k7 k8
  go_enter Tryz.func78,Tryz.ntmps78
  go_wp2
  go_loopw [5,6,7] (fun t5 t6 t7 wx => ∃ (i c : Nat) (C : Int) (s : Option Addr) (cz : Nat) (zs : List Nat),t7 = .int .i64 i ∧ t6 = .int .u32 C ∧ Hid (C = c) ∧ t5 = .slice s i cz ∧ i ≤ 1000001 ∧ Hid (AddI xs ys m n (X + Y) i c zs) ∧ Hid (Sl .u32 w wx s cz zs) ∧ Kept w wx) (fun _ _ t7 _ => 1000002 - (intOf t7).toNat)
  case atStart => exact ⟨0,0,0,none,0,[],rfl,rfl,Lib.hid rfl,rfl,by decide,Lib.hid hS0,Lib.hid Sl.start,Chg.refl _ _⟩
  case round =>
    clear hS0
    obtain ⟨i,c,C,s,cz,zs,rfl,rfl,hC,rfl,hib,hA,hS,hK⟩ :=hrel
    have hC0 : 0 ≤ C :=by have :=hC.out;omega
    have hC1 : C ≤ 1 :=by have :=hC.out;have :=hA.out.2.2.1;omega
    have hib2 : i ≤ max m n + 1 :=by have :=hA.out.2.2.2.2;omega
    by_cases hgo : i < m ∨ i < n ∨ 0 < c
    · have hst :=hA.out.step h6 k6 h1 k1 hgo
      have hib3 : i ≤ 1000000 :=by have :=hA.out.2.2.2.2;omega
      rcases (by omega : (i < m ∧ i < n) ∨ (i < m ∧ n ≤ i) ∨ (m ≤ i ∧ i < n) ∨ (m ≤ i ∧ n ≤ i)) with ⟨him,hin⟩ | ⟨him,hin⟩ | ⟨him,hin⟩ | ⟨him,hin⟩
      · have gx : xs[i]? = some xs[i] :=List.getElem?_eq_getElem (by omega)
        have lx : xs[i] < L9 :=h6 _ (List.getElem_mem _)
        generalize xs[i] = dx at gx lx
        obtain ⟨g1,rfl,r1⟩ :=h5.row (fun e => by subst e;simp at h1;omega)
        have cx :=(r1.keep hK) i dx gx
        simp only [Nat.zero_add] at cx
        obtain ⟨Dx,ex⟩ : ∃ D : Int,(dx : Int) = D :=⟨_,rfl⟩
        rw [ex] at cx
        have ux : 0 ≤ Dx :=by omega
        have vx : Dx ≤ 999999999 :=by unfold L9 at lx;omega
        have hbx : lb xs i = dx :=lb_in gx
        have gy : ys[i]? = some ys[i] :=List.getElem?_eq_getElem (by omega)
        have ly : ys[i] < L9 :=k6 _ (List.getElem_mem _)
        generalize ys[i] = dy at gy ly
        obtain ⟨g2,rfl,r2⟩ :=k5.row (fun e => by subst e;simp at k1;omega)
        have cy :=(r2.keep hK) i dy gy
        simp only [Nat.zero_add] at cy
        obtain ⟨Dy,ey⟩ : ∃ D : Int,(dy : Int) = D :=⟨_,rfl⟩
        rw [ey] at cy
        have uy : 0 ≤ Dy :=by omega
        have vy : Dy ≤ 999999999 :=by unfold L9 at ly;omega
        have hby : lb ys i = dy :=lb_in gy
        rw [hbx,hby] at hst
        have hT : (C + Dx + Dy) = ((c + dx + dy : Nat) : Int) :=by have :=hC.out;omega
        have HT :=Lib.hid (And.intro hT hst)
        clear hT hst gx lx ex hbx gy ly ey hby
        go_wp2_with (at_builtin;refine wp_gapp1 T26 (w0 :=w) rfl (.tmp 44) (.tmp 47) rfl rfl rfl rfl hS.out hK.size hA.out.1 (by omega) (by omega) ?_;intro s4 c4 w4 hS4 hC4 hD4)
        go_roundw
        case rel =>
          obtain ⟨hT,hst⟩ :=HT.out
          have e4 : ((C + Dx + Dy) % 1000000000).toNat = (c + dx + dy) % L9 :=by rw [hT];unfold L9;omega
          rw [e4] at hS4
          refine ⟨i + 1,(c + dx + dy) / L9,_,s4,c4,zs ++ [(c + dx + dy) % L9],by go_num,rfl,Lib.hid ?_,rfl,by omega,Lib.hid hst,Lib.hid hS4,hK.trans hC4 fun b o hb h => ?_⟩
          · rw [hT];rfl
          · obtain ⟨a,ha,rfl⟩ :=h
            have :=(hS.out.lt ha).1
            omega
        case measure => simp [intOf];omega
      · have gx : xs[i]? = some xs[i] :=List.getElem?_eq_getElem (by omega)
        have lx : xs[i] < L9 :=h6 _ (List.getElem_mem _)
        generalize xs[i] = dx at gx lx
        obtain ⟨g1,rfl,r1⟩ :=h5.row (fun e => by subst e;simp at h1;omega)
        have cx :=(r1.keep hK) i dx gx
        simp only [Nat.zero_add] at cx
        obtain ⟨Dx,ex⟩ : ∃ D : Int,(dx : Int) = D :=⟨_,rfl⟩
        rw [ex] at cx
        have ux : 0 ≤ Dx :=by omega
        have vx : Dx ≤ 999999999 :=by unfold L9 at lx;omega
        have hbx : lb xs i = dx :=lb_in gx
        have hby : lb ys i = 0 :=lb_out (by omega)
        rw [hbx,hby] at hst
        have hT : (C + Dx) = ((c + dx + 0 : Nat) : Int) :=by have :=hC.out;omega
        have HT :=Lib.hid (And.intro hT hst)
        clear hT hst gx lx ex hbx hby
        go_wp2_with (at_builtin;refine wp_gapp1 T26 (w0 :=w) rfl (.tmp 44) (.tmp 47) rfl rfl rfl rfl hS.out hK.size hA.out.1 (by omega) (by omega) ?_;intro s4 c4 w4 hS4 hC4 hD4)
        go_roundw
        case rel =>
          obtain ⟨hT,hst⟩ :=HT.out
          have e4 : ((C + Dx) % 1000000000).toNat = (c + dx + 0) % L9 :=by rw [hT];unfold L9;omega
          rw [e4] at hS4
          refine ⟨i + 1,(c + dx + 0) / L9,_,s4,c4,zs ++ [(c + dx + 0) % L9],by go_num,rfl,Lib.hid ?_,rfl,by omega,Lib.hid hst,Lib.hid hS4,hK.trans hC4 fun b o hb h => ?_⟩
          · rw [hT];rfl
          · obtain ⟨a,ha,rfl⟩ :=h
            have :=(hS.out.lt ha).1
            omega
        case measure => simp [intOf];omega
      · have hbx : lb xs i = 0 :=lb_out (by omega)
        have gy : ys[i]? = some ys[i] :=List.getElem?_eq_getElem (by omega)
        have ly : ys[i] < L9 :=k6 _ (List.getElem_mem _)
        generalize ys[i] = dy at gy ly
        obtain ⟨g2,rfl,r2⟩ :=k5.row (fun e => by subst e;simp at k1;omega)
        have cy :=(r2.keep hK) i dy gy
        simp only [Nat.zero_add] at cy
        obtain ⟨Dy,ey⟩ : ∃ D : Int,(dy : Int) = D :=⟨_,rfl⟩
        rw [ey] at cy
        have uy : 0 ≤ Dy :=by omega
        have vy : Dy ≤ 999999999 :=by unfold L9 at ly;omega
        have hby : lb ys i = dy :=lb_in gy
        rw [hbx,hby] at hst
        have hT : (C + Dy) = ((c + 0 + dy : Nat) : Int) :=by have :=hC.out;omega
        have HT :=Lib.hid (And.intro hT hst)
        clear hT hst hbx gy ly ey hby
        go_wp2_with (at_builtin;refine wp_gapp1 T26 (w0 :=w) rfl (.tmp 44) (.tmp 47) rfl rfl rfl rfl hS.out hK.size hA.out.1 (by omega) (by omega) ?_;intro s4 c4 w4 hS4 hC4 hD4)
        go_roundw
        case rel =>
          obtain ⟨hT,hst⟩ :=HT.out
          have e4 : ((C + Dy) % 1000000000).toNat = (c + 0 + dy) % L9 :=by rw [hT];unfold L9;omega
          rw [e4] at hS4
          refine ⟨i + 1,(c + 0 + dy) / L9,_,s4,c4,zs ++ [(c + 0 + dy) % L9],by go_num,rfl,Lib.hid ?_,rfl,by omega,Lib.hid hst,Lib.hid hS4,hK.trans hC4 fun b o hb h => ?_⟩
          · rw [hT];rfl
          · obtain ⟨a,ha,rfl⟩ :=h
            have :=(hS.out.lt ha).1
            omega
        case measure => simp [intOf];omega
      · have hbx : lb xs i = 0 :=lb_out (by omega)
        have hby : lb ys i = 0 :=lb_out (by omega)
        rw [hbx,hby] at hst
        have hCp : 0 < C :=by have :=hC.out;omega
        have hT : (C) = ((c + 0 + 0 : Nat) : Int) :=by have :=hC.out;omega
        have HT :=Lib.hid (And.intro hT hst)
        clear hT hst hbx hby
        go_wp2_with (at_builtin;refine wp_gapp1 T26 (w0 :=w) rfl (.tmp 44) (.tmp 47) rfl rfl rfl rfl hS.out hK.size hA.out.1 (by omega) (by omega) ?_;intro s4 c4 w4 hS4 hC4 hD4)
        go_roundw
        case rel =>
          obtain ⟨hT,hst⟩ :=HT.out
          have e4 : ((C) % 1000000000).toNat = (c + 0 + 0) % L9 :=by rw [hT];unfold L9;omega
          rw [e4] at hS4
          refine ⟨i + 1,(c + 0 + 0) / L9,_,s4,c4,zs ++ [(c + 0 + 0) % L9],by go_num,rfl,Lib.hid ?_,rfl,by omega,Lib.hid hst,Lib.hid hS4,hK.trans hC4 fun b o hb h => ?_⟩
          · rw [hT];rfl
          · obtain ⟨a,ha,rfl⟩ :=h
            have :=(hS.out.lt ha).1
            omega
        case measure => simp [intOf];omega
    · obtain rfl : c = 0 :=by omega
      obtain rfl : C = 0 :=hC.out
      have him : m ≤ i :=by omega
      have hin : n ≤ i :=by omega
      clear hgo
      go_wp2
      first | go_ret | refine ⟨_,results_tmp rfl _ _ _,?_⟩
      obtain ⟨h7,h8,k7,k8,h3,k3⟩ :=HS.out
      obtain ⟨q1,q2,q3⟩ :=hA.out.done h1 k1 h8 k8 h7 k7 him hin
      exact ⟨⟨_,rfl,s,i,cz,rfl,hS.out.ret hA.out.1 (by omega) hA.out.2.1 q2 q1⟩,hK⟩
end Go.Proofs.YtfmmdamgcpiciaaGreatDoor
namespace Go.Proofs.YtfmmdamgcpiciaaGreatDoor
open Go Go.RowKit
def NVn (w0 w : World) (v : Value) (X : Nat) : Prop :=∃ s n c,v = .slice s n c ∧ Dig w s n c X ∧ ∀ a,s = some a → w0.heap.size ≤ a.block
theorem NVn.nv {w0 w : World} {v : Value} {X : Nat} (h : NVn w0 w v X) : NV w v X :=by
  obtain ⟨s,n,c,h1,h2,_⟩ :=h
  exact ⟨s,n,c,h1,h2⟩
def SubI (xs ys : List Nat) (i c : Nat) (zs : List Nat) : Prop :=zs.length = i ∧ Lt L9 zs ∧ c ≤ 1 ∧ val L9 zs + val L9 (ys.take i) = val L9 (xs.take i) + L9 ^ i * c
theorem val_take1 (B : Nat) (xs : List Nat) (i : Nat) : val B (xs.take (i + 1)) = val B (xs.take i) + B ^ i * lb xs i :=by
  rcases Nat.lt_or_ge i xs.length with hi | hi
  · rw [val_take_succ hi,lb_in (List.getElem?_eq_getElem hi)]
  · rw [List.take_of_length_le hi,List.take_of_length_le (by omega),lb_out hi,Nat.mul_zero,Nat.add_zero]
theorem SubI.step {xs ys zs : List Nat} {i c : Nat} (h : SubI xs ys i c zs) (hx : Lt L9 xs) (hy : Lt L9 ys) (d c' : Nat) (hc' : c' ≤ 1) (hd : d < L9) (he : d + (c + lb ys i) = lb xs i + L9 * c') :
    SubI xs ys (i + 1) c' (zs ++ [d]) :=by
  obtain ⟨h1,h2,h3,h4⟩ :=h
  refine ⟨by simp [h1],h2.snoc hd,hc',?_⟩
  rw [val_snoc,h1,val_take1,val_take1,Nat.pow_succ,Nat.mul_assoc]
  have e : L9 ^ i * d + L9 ^ i * (c + lb ys i) = L9 ^ i * lb xs i + L9 ^ i * (L9 * c') :=by rw [← Nat.mul_add,he,Nat.mul_add]
  rw [Nat.mul_add] at e
  omega
theorem SubI.done {xs ys zs : List Nat} {m n X Y c : Nat} (h : SubI xs ys m c zs) (hm : xs.length = m) (hn : ys.length = n) (hnm : n ≤ m) (hvx : val L9 xs = X) (hvy : val L9 ys = Y) (hle : Y ≤ X) : val L9 zs = X - Y :=by
  obtain ⟨g1,g2,g3,g4⟩ :=h
  rw [List.take_of_length_le (by omega),List.take_of_length_le (by omega),hvx,hvy] at g4
  have h2 :=val_lt g2
  rw [g1] at h2
  rcases (by omega : c = 0 ∨ c = 1) with rfl | rfl
  · omega
  · omega
theorem natSub (w : World) (sx sy : Option Addr) (m n cx cy X Y : Nat) (hx : Dig w sx m cx X) (hy : Dig w sy n cy Y) (hm : m < 1000000) (hle : Y ≤ X) :
    Calls Tryz.prog 79 #[.slice sx m cx,.slice sy n cy] w fun e w' => (∃ v,e = .returned v ∧ NVn w w' v (X - Y)) ∧ Kept w w' :=by
  have hnm : n ≤ m :=by
    rcases Nat.lt_or_ge m n with h | h
    · have :=hx.len_ge hy h;omega
    · exact h
  obtain ⟨xs,h1,h2,h3,h4,h5,h6,h7,h8⟩ :=hx
  obtain ⟨ys,k1,k2,k3,k4,k5,k6,k7,k8⟩ :=hy
  have hS0 : SubI xs ys 0 0 [] :=⟨rfl,Lt.nil,by decide,by simp [val]⟩
  have HS :=Lib.hid (And.intro h7 (And.intro h8 (And.intro k7 (And.intro k8 (And.intro h3 (And.intro k3 hle))))))
  clear h3 h7 h8 k3 k7 k8 hle
  go_enter Tryz.func79,Tryz.ntmps79
  go_wp2
  go_loopw [5,6,12] (fun t5 t6 t12 wx => ∃ (i c : Nat) (C : Int) (s : Option Addr) (cz : Nat) (zs : List Nat),t12 = .int .i64 i ∧ t6 = .int .u32 C ∧ Hid (C = c) ∧ t5 = .slice s i cz ∧ i ≤ m ∧ Hid (SubI xs ys i c zs) ∧ Hid (Sl .u32 w wx s cz zs) ∧ Kept w wx) (fun _ _ t12 _ => m - (intOf t12).toNat)
  case atStart => exact ⟨0,0,0,none,0,[],rfl,rfl,Lib.hid rfl,rfl,Nat.zero_le _,Lib.hid hS0,Lib.hid Sl.start,Chg.refl _ _⟩
  case round =>
    clear hS0
    obtain ⟨i,c,C,s,cz,zs,rfl,rfl,hC,rfl,hib,hA,hS,hK⟩ :=hrel
    have hC0 : 0 ≤ C :=by have :=hC.out;omega
    have hC1 : C ≤ 1 :=by have :=hC.out;have :=hA.out.2.2.1;omega
    rcases Nat.lt_or_ge i m with him | him
    · have hic : i < cx :=by omega
      have gx : xs[i]? = some xs[i] :=List.getElem?_eq_getElem (by omega)
      have lx : xs[i] < L9 :=h6 _ (List.getElem_mem _)
      generalize xs[i] = dx at gx lx
      obtain ⟨g1,rfl,r1⟩ :=h5.row (fun e => by subst e;simp at h1;omega)
      have cx :=(r1.keep hK) i dx gx
      simp only [Nat.zero_add] at cx
      obtain ⟨Dx,ex⟩ : ∃ D : Int,(dx : Int) = D :=⟨_,rfl⟩
      rw [ex] at cx
      have ux : 0 ≤ Dx :=by omega
      have vx : Dx ≤ 999999999 :=by unfold L9 at lx;omega
      have hbx : lb xs i = dx :=lb_in gx
      rcases Nat.lt_or_ge i n with hin | hin
      · have hicy : i < cy :=by omega
        have gy : ys[i]? = some ys[i] :=List.getElem?_eq_getElem (by omega)
        have ly : ys[i] < L9 :=k6 _ (List.getElem_mem _)
        generalize ys[i] = dy at gy ly
        obtain ⟨g2,rfl,r2⟩ :=k5.row (fun e => by subst e;simp at k1;omega)
        have cy :=(r2.keep hK) i dy gy
        simp only [Nat.zero_add] at cy
        obtain ⟨Dy,ey⟩ : ∃ D : Int,(dy : Int) = D :=⟨_,rfl⟩
        rw [ey] at cy
        have uy : 0 ≤ Dy :=by omega
        have vy : Dy ≤ 999999999 :=by unfold L9 at ly;omega
        have hby : lb ys i = dy :=lb_in gy
        by_cases hlt : Dx < C + Dy
        · have hd1 : (dx + L9 - (c + dy)) < L9 :=by have :=hC.out;unfold L9 at *;omega
          have hst :=hA.out.step h6 k6 (dx + L9 - (c + dy)) 1 (by decide) hd1 (by rw [hbx,hby];have :=hC.out;unfold L9 at *;omega)
          have hT : (Dx + 1000000000 - (C + Dy)).toNat = (dx + L9 - (c + dy)) :=by have :=hC.out;unfold L9 at *;omega
          have hD0 : 0 ≤ (Dx + 1000000000 - (C + Dy)) :=by omega
          have HT :=Lib.hid (And.intro hT hst)
          clear hT hst hd1 ex lx gx hbx gy ly ey hby
          go_wp2_with (at_builtin;refine wp_gapp1 T26 (w0 :=w) rfl (.tmp 33) (.tmp 37) rfl rfl rfl rfl hS.out hK.size hA.out.1 (by omega) (by omega) ?_;intro s4 c4 w4 hS4 hC4 hD4)
          go_roundw
          case rel =>
            obtain ⟨hT,hst⟩ :=HT.out
            first | rw [hT] at hS4 | (rw [show (Dx - C + Dy).toNat = (dx + L9 - (c + dy)) by rw [← hT]] at hS4)
            refine ⟨i + 1,1,_,s4,c4,zs ++ [(dx + L9 - (c + dy))],by go_num,rfl,Lib.hid rfl,rfl,by omega,Lib.hid hst,Lib.hid hS4,hK.trans hC4 fun b o hb h => ?_⟩
            obtain ⟨a,ha,rfl⟩ :=h
            have :=(hS.out.lt ha).1
            omega
          case measure => simp [intOf];omega
        · have hd1 : (dx - (c + dy)) < L9 :=by have :=hC.out;unfold L9 at *;omega
          have hst :=hA.out.step h6 k6 (dx - (c + dy)) 0 (by decide) hd1 (by rw [hbx,hby];have :=hC.out;unfold L9 at *;omega)
          have hT : (Dx - (C + Dy)).toNat = (dx - (c + dy)) :=by have :=hC.out;unfold L9 at *;omega
          have hD0 : 0 ≤ (Dx - (C + Dy)) :=by omega
          have HT :=Lib.hid (And.intro hT hst)
          clear hT hst hd1 ex lx gx hbx gy ly ey hby
          go_wp2_with (at_builtin;refine wp_gapp1 T26 (w0 :=w) rfl (.tmp 33) (.tmp 37) rfl rfl rfl rfl hS.out hK.size hA.out.1 (by omega) (by omega) ?_;intro s4 c4 w4 hS4 hC4 hD4)
          go_roundw
          case rel =>
            obtain ⟨hT,hst⟩ :=HT.out
            first | rw [hT] at hS4 | (rw [show (Dx - C + Dy).toNat = (dx - (c + dy)) by rw [← hT]] at hS4)
            refine ⟨i + 1,0,_,s4,c4,zs ++ [(dx - (c + dy))],by go_num,rfl,Lib.hid rfl,rfl,by omega,Lib.hid hst,Lib.hid hS4,hK.trans hC4 fun b o hb h => ?_⟩
            obtain ⟨a,ha,rfl⟩ :=h
            have :=(hS.out.lt ha).1
            omega
          case measure => simp [intOf];omega
      · have hby : lb ys i = 0 :=lb_out (by omega)
        by_cases hlt : Dx < C
        · have hd1 : (dx + L9 - (c + 0)) < L9 :=by have :=hC.out;unfold L9 at *;omega
          have hst :=hA.out.step h6 k6 (dx + L9 - (c + 0)) 1 (by decide) hd1 (by rw [hbx,hby];have :=hC.out;unfold L9 at *;omega)
          have hT : (Dx + 1000000000 - (C)).toNat = (dx + L9 - (c + 0)) :=by have :=hC.out;unfold L9 at *;omega
          have hD0 : 0 ≤ (Dx + 1000000000 - (C)) :=by omega
          have HT :=Lib.hid (And.intro hT hst)
          clear hT hst hd1 ex lx gx hbx hby
          go_wp2_with (at_builtin;refine wp_gapp1 T26 (w0 :=w) rfl (.tmp 33) (.tmp 37) rfl rfl rfl rfl hS.out hK.size hA.out.1 (by omega) (by omega) ?_;intro s4 c4 w4 hS4 hC4 hD4)
          go_roundw
          case rel =>
            obtain ⟨hT,hst⟩ :=HT.out
            first | rw [hT] at hS4 | (rw [show (Dx - C).toNat = (dx + L9 - (c + 0)) by rw [← hT]] at hS4)
            refine ⟨i + 1,1,_,s4,c4,zs ++ [(dx + L9 - (c + 0))],by go_num,rfl,Lib.hid rfl,rfl,by omega,Lib.hid hst,Lib.hid hS4,hK.trans hC4 fun b o hb h => ?_⟩
            obtain ⟨a,ha,rfl⟩ :=h
            have :=(hS.out.lt ha).1
            omega
          case measure => simp [intOf];omega
        · have hd1 : (dx - (c + 0)) < L9 :=by have :=hC.out;unfold L9 at *;omega
          have hst :=hA.out.step h6 k6 (dx - (c + 0)) 0 (by decide) hd1 (by rw [hbx,hby];have :=hC.out;unfold L9 at *;omega)
          have hT : (Dx - (C)).toNat = (dx - (c + 0)) :=by have :=hC.out;unfold L9 at *;omega
          have hD0 : 0 ≤ (Dx - (C)) :=by omega
          have HT :=Lib.hid (And.intro hT hst)
          clear hT hst hd1 ex lx gx hbx hby
          go_wp2_with (at_builtin;refine wp_gapp1 T26 (w0 :=w) rfl (.tmp 33) (.tmp 37) rfl rfl rfl rfl hS.out hK.size hA.out.1 (by omega) (by omega) ?_;intro s4 c4 w4 hS4 hC4 hD4)
          go_roundw
          case rel =>
            obtain ⟨hT,hst⟩ :=HT.out
            first | rw [hT] at hS4 | (rw [show (Dx - C).toNat = (dx - (c + 0)) by rw [← hT]] at hS4)
            refine ⟨i + 1,0,_,s4,c4,zs ++ [(dx - (c + 0))],by go_num,rfl,Lib.hid rfl,rfl,by omega,Lib.hid hst,Lib.hid hS4,hK.trans hC4 fun b o hb h => ?_⟩
            obtain ⟨a,ha,rfl⟩ :=h
            have :=(hS.out.lt ha).1
            omega
          case measure => simp [intOf];omega
    · obtain rfl : i = m :=by omega
      obtain ⟨h7,h8,k7,k8,h3,k3,hle⟩ :=HS.out
      have hv :=hA.out.done h1 k1 hnm h8 k8 hle
      have ht :=natTrim wr s i cz zs hA.out.1 (by rw [← hA.out.1];exact hS.out.le) hS.out.cap (by omega) (Rd.of_Sl hS.out) hA.out.2.1
      rw [hv] at ht
      have HK :=Lib.hid hK
      clear h3 h7 h8 k3 k7 k8 hle hv
      go_wp2_with (go_at_call 80;refine ht.mono ?_;rintro r w2 ⟨rfl,n',rfl,hD⟩)
      first | go_ret | refine ⟨_,results_tmp rfl _ _ _,?_⟩
      exact ⟨⟨_,rfl,s,n',cz,rfl,hD,fun a ha => (hS.out.lt ha).1⟩,HK.out⟩
end Go.Proofs.YtfmmdamgcpiciaaGreatDoor
namespace Go.Proofs.YtfmmdamgcpiciaaGreatDoor
open Go Go.RowKit
structure Recv (w0 w : World) (b : Nat) (s : Option Addr) (n c : Nat) : Prop where
  neg : ∃ v,w.cell? ⟨b,0,none⟩ = some v
  abs : w.cell? ⟨b,1,none⟩ = some (.slice s n c)
  ok : SlOk w s c
  le : c ≤ (8388607 * Big + 1099511627775)
  nf : NF w b
  sep : ∀ a,s = some a → a.block ≠ b
  new : w0.heap.size ≤ b
  newS : ∀ a,s = some a → w0.heap.size ≤ a.block
  kept : Kept w0 w
theorem IntN.recv {w0 w : World} {b : Nat} {X : Int} (h : IntN w0 w b X) (hk : Kept w0 w) : ∃ s n c,Recv w0 w b s n c ∧ IntA w b s n c X :=by
  obtain ⟨s,n,c,h,h2,h3⟩ :=h
  exact ⟨s,n,c,⟨⟨_,h.neg⟩,h.abs,h.nat.ok.1,h.nat.ok.2.1,h.nf,h.sep,h2,h3,hk⟩,h⟩
theorem ZeroInt.recv {w0 w : World} {b : Nat} (h : ZeroInt w b) (hb : w0.heap.size ≤ b) (hk : Kept w0 w) : Recv w0 w b none 0 0 :=
  ⟨⟨_,h.neg⟩,h.abs,.inl ⟨rfl,rfl⟩,by omega,h.nf,(fun a h => by cases h),hb,(fun a h => by cases h),hk⟩
theorem IntA.lt {w : World} {b : Nat} {s : Option Addr} {n c : Nat} {X : Int} (h : IntA w b s n c X) : ∀ a,s = some a → a.block < w.heap.size :=by
  intro a ha
  rcases h.nat.ok.1 with ⟨h1,_⟩ | ⟨b',o',h1,_,_,h2⟩
  · rw [h1] at ha;cases ha
  · rw [h1] at ha
    simp only [Option.some.injEq] at ha
    subst ha
    exact h2
theorem Recv.dis {w0 w : World} {b bx : Nat} {s sx : Option Addr} {n c nx cx : Nat} {X : Int} (h : Recv w0 w b s n c) (hx : IntA w0 bx sx nx cx X) : Dis sx s ∧ bx ≠ b :=by
  refine ⟨fun a a' h1 h2 e => ?_,fun e => ?_⟩
  · have :=hx.lt a h1
    have :=h.newS a' h2
    omega
  · have :=lt_of_cell hx.neg
    have :=h.new
    omega
def RDone (w0 w w' : World) (bz : Nat) (sz : Option Addr) (X : Int) : Prop :=IntN w0 w' bz X ∧ Kept w0 w' ∧ Chg w w' fun b o => b = bz ∨ Blk sz b o
theorem recv_done {w0 w w1 : World} {bz : Nat} {sz s : Option Addr} {nz cz n c : Nat} {X : Int} (v : Bool) (hv : v = decide (X < 0)) (hz : Recv w0 w bz sz nz cz) (k1 : NatAt w1 s n c X.natAbs) (k2 : Fr w sz cz s c) (k3 : Chg w w1 (Blk sz)) :
    RDone w0 w ((w1.setCell ⟨bz,1,none⟩ (.slice s n c)).setCell ⟨bz,0,none⟩ (.bool v)) bz sz X :=by
  subst hv
  have nb : ∀ o,¬ Blk sz bz o :=fun o ⟨o',h⟩ => hz.sep _ h rfl
  obtain ⟨u,hu⟩ :=hz.neg
  have z0 :=k3.at hu (nb 0)
  have z1 :=k3.at hz.abs (nb 1)
  have hlt :=lt_of_cell hu
  have zf :=hz.nf.chg hlt k3
  have c1 :=Chg.setCell w1 bz 1 (.slice s n c) (fun b _ => b = bz) fun _ => rfl
  have c2 :=Chg.setCell (w1.setCell ⟨bz,1,none⟩ (.slice s n c)) bz 0 (.bool (decide (X < 0))) (fun b _ => b = bz) fun _ => rfl
  have hs : ∀ a,s = some a → a.block ≠ bz :=by
    rcases k2 with ⟨rfl,_⟩ | ⟨b,rfl,h⟩
    · exact hz.sep
    · intro a ha
      simp only [Option.some.injEq] at ha
      subst ha
      show b ≠ bz
      omega
  have hk :=hz.kept
  refine ⟨⟨s,n,c,⟨?_,?_,?_,?_,hs⟩,hz.new,k2.new hz.newS hk.size⟩,?_,?_⟩
  · exact cell_setCell_eq ((cell_setCell_ne (by omega)).trans z0)
  · exact (cell_setCell_ne (by omega)).trans (cell_setCell_eq z1)
  · exact (k1.chg c1 (fun b o h o' e => hs _ h e)).chg c2 (fun b o h o' e => hs _ h e)
  · exact (zf.chg (lt_of_cell z0) c1).chg (by have :=c1.size;have :=lt_of_cell z0;omega) c2
  · have hn :=hz.new
    exact ((hk.keptNew k3 (fun b o e => Blk.old hz.newS e)).keptNew c1 (fun b o e => by omega)).keptNew c2 (fun b o e => by omega)
  · exact ((k3.mono fun _ _ _ h => .inr h).trans c1 fun _ _ _ h => .inl h).trans c2 fun _ _ _ h => .inl h
theorem Recv.after {w0 w w1 : World} {b : Nat} {s : Option Addr} {n c : Nat} (hz : Recv w0 w b s n c) (k3 : Chg w w1 (Blk s)) : (∃ v,w1.cell? ⟨b,0,none⟩ = some v) ∧ w1.cell? ⟨b,1,none⟩ = some (.slice s n c) ∧ NF w1 b :=by
  have nb : ∀ o,¬ Blk s b o :=fun o ⟨o',h⟩ => hz.sep _ h rfl
  obtain ⟨u,hu⟩ :=hz.neg
  exact ⟨⟨u,k3.at hu (nb 0)⟩,k3.at hz.abs (nb 1),hz.nf.chg (lt_of_cell hu) k3⟩
theorem cmpI_lt {a b : Nat} (h : a < b) : cmpI a b = -1 :=by simp [cmpI,h]
theorem cmpI_ge {a b : Nat} (h : b ≤ a) : 0 ≤ cmpI a b :=by unfold cmpI;repeat' split <;> omega
theorem Fr.mono {w w' : World} {s s' : Option Addr} {c c' : Nat} (h : Fr w' s c s' c') (hs : w.heap.size ≤ w'.heap.size) : Fr w s c s' c' :=by
  rcases h with h | ⟨b,h1,h2⟩
  · exact .inl h
  · exact .inr ⟨b,h1,Nat.le_trans hs h2⟩
theorem int_add_same0 (w0 w : World) (bz bx by' : Nat) (sz sx sy : Option Addr) (nz cz nx cx ny cy : Nat) (X Y : Int) (hz : Recv w0 w bz sz nz cz) (hx : IntA w bx sx nx cx X) (hy : IntA w by' sy ny cy Y) (bX : nx < Big) (bY : ny < Big) (hsx : Sep sx sz) (hsy : Sep sy sz)
    (hs : (decide (X < 0) == decide (Y < 0)) = true) (hN : X.natAbs + Y.natAbs = 0) :
    Calls Tryz.prog 101 #[ptr bz,ptr bx,ptr by'] w fun e w' => e = .returned (ptr bz) ∧ RDone w0 w w' bz sz (X + Y) :=by
  have x0 :=hx.neg
  have x1 :=hx.abs
  have y0 :=hy.neg
  have y1 :=hy.abs
  have z1 :=hz.abs
  obtain ⟨u,z0⟩ :=hz.neg
  have ha :=fun W (hW : Kept w W) => nat_add W sz sx sy nz cz nx ny cx cy X.natAbs Y.natAbs (hz.ok.chg hW) hz.le (hx.nat.kept hW) (hy.nat.kept hW) bX bY hsx hsy
  have HP : Hid (∀ v,v = decide (X + Y < 0) → v = decide (X + Y < 0)) :=Lib.hid fun _ h => h
  have HX : ∃ p,p = decide (X < 0) :=⟨_,rfl⟩
  have HY : ∃ p,p = decide (Y < 0) :=⟨_,rfl⟩
  obtain ⟨p,hp⟩ :=HX
  obtain ⟨q,hq⟩ :=HY
  rw [← hp] at x0 hs
  rw [← hq] at y0 hs
  have HPQ :=Lib.hid (And.intro hp hq)
  have HN :=Lib.hid hN
  clear hp hq hN
  go_enter Tryz.func101,Tryz.ntmps101
  go_wp2_with (first
    | (refine wp_region_lit_segs (id :=2) [[0,1,2,3,4,5,6,7,8]] mixed (by kernel_rfl) ?_;simp only [wpSegsL,gaC,gaN,lZ0,lS0,coS])
    | (refine wp_region_lit_segs (id :=3) [[0,1,2,3,4,5,6,7,8,9,10,11,12,13,14,15,16]] mixed (by kernel_rfl) ?_;simp only [wpSegsL,gaC,gaN,lZ0,lS0,coS])
    | (refine wp_region_lit_segs (id :=4) [[0,1,2,3,4,5,6,7,8,9]] mixed (by kernel_rfl) ?_;simp only [wpSegsL,gaC,gaN,lZ0,lS0,coS])
    | (refine wp_region_lit_segs (id :=5) [[0,1,2,3,4,5,6,7,8,9,10,11,12,13,14,15,16]] mixed (by kernel_rfl) ?_;simp only [wpSegsL,gaC,gaN,lZ0,lS0,coS])
    | (refine wp_region_lit_segs (id :=7) [[0,1,2,3,4,5,6,7,8,9,10,11,12,13,14,15,16]] mixed (by kernel_rfl) ?_;simp only [wpSegsL,gaC,gaN,lZ0,lS0,coS])
    | refine ⟨by kernel_rfl,?_⟩
    | (go_at_call 120;refine (ha _ (Chg.refl _ _).drew.drew).mono ?_;have hN :=HN.out;rintro e w2 ⟨s',n',c',rfl,k1,k2,k3⟩;have k3 :=(k3.of_drew.of_drew);obtain ⟨⟨u',z0'⟩,z1',zf'⟩ :=hz.after k3;have f0' :=zf' 0;have f1' :=zf' 1;have k2 : Fr w sz cz s' c' :=(by exact k2);obtain rfl : n' = 0 :=k1.eq_zero.1 hN;clear hN))
  first | go_ret | refine ⟨_,results_tmp rfl _ _ _,?_⟩
  obtain ⟨hp,hq⟩ :=HPQ.out
  have hN :=HN.out
  subst hp
  subst hq
  have e : (X + Y).natAbs = X.natAbs + Y.natAbs :=by simp at hs;omega
  exact ⟨rfl,recv_done _ (by first | (simp;omega) | (simp at hs;rw [Bool.eq_iff_iff];simp;omega)) hz (by rw [e];exact k1) k2 k3⟩
theorem int_add_same1 (w0 w : World) (bz bx by' : Nat) (sz sx sy : Option Addr) (nz cz nx cx ny cy : Nat) (X Y : Int) (hz : Recv w0 w bz sz nz cz) (hx : IntA w bx sx nx cx X) (hy : IntA w by' sy ny cy Y) (bX : nx < Big) (bY : ny < Big) (hsx : Sep sx sz) (hsy : Sep sy sz)
    (hs : (decide (X < 0) == decide (Y < 0)) = true) (hN : X.natAbs + Y.natAbs ≠ 0) :
    Calls Tryz.prog 101 #[ptr bz,ptr bx,ptr by'] w fun e w' => e = .returned (ptr bz) ∧ RDone w0 w w' bz sz (X + Y) :=by
  have x0 :=hx.neg
  have x1 :=hx.abs
  have y0 :=hy.neg
  have y1 :=hy.abs
  have z1 :=hz.abs
  obtain ⟨u,z0⟩ :=hz.neg
  have ha :=fun W (hW : Kept w W) => nat_add W sz sx sy nz cz nx ny cx cy X.natAbs Y.natAbs (hz.ok.chg hW) hz.le (hx.nat.kept hW) (hy.nat.kept hW) bX bY hsx hsy
  have HP : Hid (∀ v,v = decide (X + Y < 0) → v = decide (X + Y < 0)) :=Lib.hid fun _ h => h
  have HX : ∃ p,p = decide (X < 0) :=⟨_,rfl⟩
  have HY : ∃ p,p = decide (Y < 0) :=⟨_,rfl⟩
  obtain ⟨p,hp⟩ :=HX
  obtain ⟨q,hq⟩ :=HY
  rw [← hp] at x0 hs
  rw [← hq] at y0 hs
  have HPQ :=Lib.hid (And.intro hp hq)
  have HN :=Lib.hid hN
  clear hp hq hN
  go_enter Tryz.func101,Tryz.ntmps101
  go_wp2_with (first
    | (refine wp_region_lit_segs (id :=2) [[0,1,2,3,4,5,6,7,8]] mixed (by kernel_rfl) ?_;simp only [wpSegsL,gaC,gaN,lZ0,lS0,coS])
    | (refine wp_region_lit_segs (id :=3) [[0,1,2,3,4,5,6,7,8,9,10,11,12,13,14,15,16]] mixed (by kernel_rfl) ?_;simp only [wpSegsL,gaC,gaN,lZ0,lS0,coS])
    | (refine wp_region_lit_segs (id :=4) [[0,1,2,3,4,5,6,7,8,9]] mixed (by kernel_rfl) ?_;simp only [wpSegsL,gaC,gaN,lZ0,lS0,coS])
    | (refine wp_region_lit_segs (id :=5) [[0,1,2,3,4,5,6,7,8,9,10,11,12,13,14,15,16]] mixed (by kernel_rfl) ?_;simp only [wpSegsL,gaC,gaN,lZ0,lS0,coS])
    | (refine wp_region_lit_segs (id :=7) [[0,1,2,3,4,5,6,7,8,9,10,11,12,13,14,15,16]] mixed (by kernel_rfl) ?_;simp only [wpSegsL,gaC,gaN,lZ0,lS0,coS])
    | refine ⟨by kernel_rfl,?_⟩
    | (go_at_call 120;refine (ha _ (Chg.refl _ _).drew.drew).mono ?_;have hN :=HN.out;rintro e w2 ⟨s',n',c',rfl,k1,k2,k3⟩;have k3 :=(k3.of_drew.of_drew);obtain ⟨⟨u',z0'⟩,z1',zf'⟩ :=hz.after k3;have f0' :=zf' 0;have f1' :=zf' 1;have k2 : Fr w sz cz s' c' :=(by exact k2);have hn0 : ¬ n' = 0 :=(fun h => hN (k1.eq_zero.2 h));obtain ⟨n',rfl⟩ : ∃ m,n' = m + 1 :=⟨n' - 1,by omega⟩;clear hN))
  first | go_ret | refine ⟨_,results_tmp rfl _ _ _,?_⟩
  obtain ⟨hp,hq⟩ :=HPQ.out
  have hN :=HN.out
  subst hp
  subst hq
  have e : (X + Y).natAbs = X.natAbs + Y.natAbs :=by simp at hs;omega
  exact ⟨rfl,recv_done _ (by first | (simp;omega) | (simp at hs;rw [Bool.eq_iff_iff];simp;omega)) hz (by rw [e];exact k1) k2 k3⟩
theorem int_add_ge0 (w0 w : World) (bz bx by' : Nat) (sz sx sy : Option Addr) (nz cz nx cx ny cy : Nat) (X Y : Int) (hz : Recv w0 w bz sz nz cz) (hx : IntA w bx sx nx cx X) (hy : IntA w by' sy ny cy Y) (bX : nx < Big) (bY : ny < Big) (hsx : Sep sx sz) (hsy : Sep sy sz)
    (hs : (decide (X < 0) == decide (Y < 0)) = false) (hle : Y.natAbs ≤ X.natAbs) (hN : X.natAbs - Y.natAbs = 0) :
    Calls Tryz.prog 101 #[ptr bz,ptr bx,ptr by'] w fun e w' => e = .returned (ptr bz) ∧ RDone w0 w w' bz sz (X + Y) :=by
  have x0 :=hx.neg
  have x1 :=hx.abs
  have y0 :=hy.neg
  have y1 :=hy.abs
  have z1 :=hz.abs
  obtain ⟨u,z0⟩ :=hz.neg
  have ha :=fun W (hW : Kept w W) => nat_sub W sz sx sy nz cz nx ny cx cy X.natAbs Y.natAbs (hz.ok.chg hW) hz.le (hx.nat.kept hW) (hy.nat.kept hW) hle bX hsx hsy
  have hc :=fun W (hW : Kept w W) => nat_cmp W sx sy nx ny cx cy X.natAbs Y.natAbs (hx.nat.kept hW) (hy.nat.kept hW)
  have hcv :=cmpI_ge hle
  generalize cmpI X.natAbs Y.natAbs = cv at *
  have HP : Hid (∀ v,v = decide (X + Y < 0) → v = decide (X + Y < 0)) :=Lib.hid fun _ h => h
  have HX : ∃ p,p = decide (X < 0) :=⟨_,rfl⟩
  have HY : ∃ p,p = decide (Y < 0) :=⟨_,rfl⟩
  obtain ⟨p,hp⟩ :=HX
  obtain ⟨q,hq⟩ :=HY
  rw [← hp] at x0 hs
  rw [← hq] at y0 hs
  have HPQ :=Lib.hid (And.intro hp hq)
  have HN :=Lib.hid hN
  clear hp hq hN
  go_enter Tryz.func101,Tryz.ntmps101
  go_wp2_with (first
    | (refine wp_region_lit_segs (id :=2) [[0,1,2,3,4,5,6,7,8]] mixed (by kernel_rfl) ?_;simp only [wpSegsL,gaC,gaN,lZ0,lS0,coS])
    | (refine wp_region_lit_segs (id :=3) [[0,1,2,3,4,5,6,7,8,9,10,11,12,13,14,15,16]] mixed (by kernel_rfl) ?_;simp only [wpSegsL,gaC,gaN,lZ0,lS0,coS])
    | (refine wp_region_lit_segs (id :=4) [[0,1,2,3,4,5,6,7,8,9]] mixed (by kernel_rfl) ?_;simp only [wpSegsL,gaC,gaN,lZ0,lS0,coS])
    | (refine wp_region_lit_segs (id :=5) [[0,1,2,3,4,5,6,7,8,9,10,11,12,13,14,15,16]] mixed (by kernel_rfl) ?_;simp only [wpSegsL,gaC,gaN,lZ0,lS0,coS])
    | (refine wp_region_lit_segs (id :=7) [[0,1,2,3,4,5,6,7,8,9,10,11,12,13,14,15,16]] mixed (by kernel_rfl) ?_;simp only [wpSegsL,gaC,gaN,lZ0,lS0,coS])
    | refine ⟨by kernel_rfl,?_⟩
    | (go_at_call 109;refine (hc _ (Chg.refl _ _).drew.drew).mono ?_;rintro e w1 ⟨rfl,kc⟩;have kc :=kc.of_drew.of_drew;have x1 :=Kept.at kc x1;have y1 :=Kept.at kc y1;have z1 :=Kept.at kc z1)
    | (go_at_call 121;refine (ha _ kc.drew).mono ?_;have hN :=HN.out;rintro e w2 ⟨s',n',c',rfl,k1,k2,k3⟩;have k3 :=((Chg.any kc (Blk sz)).trans k3.of_drew (fun _ _ _ h => h));obtain ⟨⟨u',z0'⟩,z1',zf'⟩ :=hz.after k3;have f0' :=zf' 0;have f1' :=zf' 1;have k2 : Fr w sz cz s' c' :=(by exact k2.mono kc.size);obtain rfl : n' = 0 :=k1.eq_zero.1 hN;clear hN))
  first | go_ret | refine ⟨_,results_tmp rfl _ _ _,?_⟩
  obtain ⟨hp,hq⟩ :=HPQ.out
  have hN :=HN.out
  subst hp
  subst hq
  have e : (X + Y).natAbs = X.natAbs - Y.natAbs :=by simp at hs;omega
  exact ⟨rfl,recv_done _ (by first | (simp;omega) | (simp at hs;rw [Bool.eq_iff_iff];simp;omega)) hz (by rw [e];exact k1) k2 k3⟩
theorem int_add_ge1 (w0 w : World) (bz bx by' : Nat) (sz sx sy : Option Addr) (nz cz nx cx ny cy : Nat) (X Y : Int) (hz : Recv w0 w bz sz nz cz) (hx : IntA w bx sx nx cx X) (hy : IntA w by' sy ny cy Y) (bX : nx < Big) (bY : ny < Big) (hsx : Sep sx sz) (hsy : Sep sy sz)
    (hs : (decide (X < 0) == decide (Y < 0)) = false) (hle : Y.natAbs ≤ X.natAbs) (hN : X.natAbs - Y.natAbs ≠ 0) :
    Calls Tryz.prog 101 #[ptr bz,ptr bx,ptr by'] w fun e w' => e = .returned (ptr bz) ∧ RDone w0 w w' bz sz (X + Y) :=by
  have x0 :=hx.neg
  have x1 :=hx.abs
  have y0 :=hy.neg
  have y1 :=hy.abs
  have z1 :=hz.abs
  obtain ⟨u,z0⟩ :=hz.neg
  have ha :=fun W (hW : Kept w W) => nat_sub W sz sx sy nz cz nx ny cx cy X.natAbs Y.natAbs (hz.ok.chg hW) hz.le (hx.nat.kept hW) (hy.nat.kept hW) hle bX hsx hsy
  have hc :=fun W (hW : Kept w W) => nat_cmp W sx sy nx ny cx cy X.natAbs Y.natAbs (hx.nat.kept hW) (hy.nat.kept hW)
  have hcv :=cmpI_ge hle
  generalize cmpI X.natAbs Y.natAbs = cv at *
  have HP : Hid (∀ v,v = decide (X + Y < 0) → v = decide (X + Y < 0)) :=Lib.hid fun _ h => h
  have HX : ∃ p,p = decide (X < 0) :=⟨_,rfl⟩
  have HY : ∃ p,p = decide (Y < 0) :=⟨_,rfl⟩
  obtain ⟨p,hp⟩ :=HX
  obtain ⟨q,hq⟩ :=HY
  rw [← hp] at x0 hs
  rw [← hq] at y0 hs
  have HPQ :=Lib.hid (And.intro hp hq)
  have HN :=Lib.hid hN
  clear hp hq hN
  go_enter Tryz.func101,Tryz.ntmps101
  go_wp2_with (first
    | (refine wp_region_lit_segs (id :=2) [[0,1,2,3,4,5,6,7,8]] mixed (by kernel_rfl) ?_;simp only [wpSegsL,gaC,gaN,lZ0,lS0,coS])
    | (refine wp_region_lit_segs (id :=3) [[0,1,2,3,4,5,6,7,8,9,10,11,12,13,14,15,16]] mixed (by kernel_rfl) ?_;simp only [wpSegsL,gaC,gaN,lZ0,lS0,coS])
    | (refine wp_region_lit_segs (id :=4) [[0,1,2,3,4,5,6,7,8,9]] mixed (by kernel_rfl) ?_;simp only [wpSegsL,gaC,gaN,lZ0,lS0,coS])
    | (refine wp_region_lit_segs (id :=5) [[0,1,2,3,4,5,6,7,8,9,10,11,12,13,14,15,16]] mixed (by kernel_rfl) ?_;simp only [wpSegsL,gaC,gaN,lZ0,lS0,coS])
    | (refine wp_region_lit_segs (id :=7) [[0,1,2,3,4,5,6,7,8,9,10,11,12,13,14,15,16]] mixed (by kernel_rfl) ?_;simp only [wpSegsL,gaC,gaN,lZ0,lS0,coS])
    | refine ⟨by kernel_rfl,?_⟩
    | (go_at_call 109;refine (hc _ (Chg.refl _ _).drew.drew).mono ?_;rintro e w1 ⟨rfl,kc⟩;have kc :=kc.of_drew.of_drew;have x1 :=Kept.at kc x1;have y1 :=Kept.at kc y1;have z1 :=Kept.at kc z1)
    | (go_at_call 121;refine (ha _ kc.drew).mono ?_;have hN :=HN.out;rintro e w2 ⟨s',n',c',rfl,k1,k2,k3⟩;have k3 :=((Chg.any kc (Blk sz)).trans k3.of_drew (fun _ _ _ h => h));obtain ⟨⟨u',z0'⟩,z1',zf'⟩ :=hz.after k3;have f0' :=zf' 0;have f1' :=zf' 1;have k2 : Fr w sz cz s' c' :=(by exact k2.mono kc.size);have hn0 : ¬ n' = 0 :=(fun h => hN (k1.eq_zero.2 h));obtain ⟨n',rfl⟩ : ∃ m,n' = m + 1 :=⟨n' - 1,by omega⟩;clear hN))
  first | go_ret | refine ⟨_,results_tmp rfl _ _ _,?_⟩
  obtain ⟨hp,hq⟩ :=HPQ.out
  have hN :=HN.out
  subst hp
  subst hq
  have e : (X + Y).natAbs = X.natAbs - Y.natAbs :=by simp at hs;omega
  exact ⟨rfl,recv_done _ (by first | (simp;omega) | (simp at hs;rw [Bool.eq_iff_iff];simp;omega)) hz (by rw [e];exact k1) k2 k3⟩
theorem int_add_lt0 (w0 w : World) (bz bx by' : Nat) (sz sx sy : Option Addr) (nz cz nx cx ny cy : Nat) (X Y : Int) (hz : Recv w0 w bz sz nz cz) (hx : IntA w bx sx nx cx X) (hy : IntA w by' sy ny cy Y) (bX : nx < Big) (bY : ny < Big) (hsx : Sep sx sz) (hsy : Sep sy sz)
    (hs : (decide (X < 0) == decide (Y < 0)) = false) (hle : X.natAbs < Y.natAbs) (hN : Y.natAbs - X.natAbs = 0) :
    Calls Tryz.prog 101 #[ptr bz,ptr bx,ptr by'] w fun e w' => e = .returned (ptr bz) ∧ RDone w0 w w' bz sz (X + Y) :=by
  have x0 :=hx.neg
  have x1 :=hx.abs
  have y0 :=hy.neg
  have y1 :=hy.abs
  have z1 :=hz.abs
  obtain ⟨u,z0⟩ :=hz.neg
  have ha :=fun W (hW : Kept w W) => nat_sub W sz sy sx nz cz ny nx cy cx Y.natAbs X.natAbs (hz.ok.chg hW) hz.le (hy.nat.kept hW) (hx.nat.kept hW) (by omega) bY hsy hsx
  have hc :=fun W (hW : Kept w W) => nat_cmp W sx sy nx ny cx cy X.natAbs Y.natAbs (hx.nat.kept hW) (hy.nat.kept hW)
  rw [cmpI_lt hle] at hc
  have HP : Hid (∀ v,v = decide (X + Y < 0) → v = decide (X + Y < 0)) :=Lib.hid fun _ h => h
  have HX : ∃ p,p = decide (X < 0) :=⟨_,rfl⟩
  have HY : ∃ p,p = decide (Y < 0) :=⟨_,rfl⟩
  obtain ⟨p,hp⟩ :=HX
  obtain ⟨q,hq⟩ :=HY
  rw [← hp] at x0 hs
  rw [← hq] at y0 hs
  have HPQ :=Lib.hid (And.intro hp hq)
  have HN :=Lib.hid hN
  clear hp hq hN
  go_enter Tryz.func101,Tryz.ntmps101
  go_wp2_with (first
    | (refine wp_region_lit_segs (id :=2) [[0,1,2,3,4,5,6,7,8]] mixed (by kernel_rfl) ?_;simp only [wpSegsL,gaC,gaN,lZ0,lS0,coS])
    | (refine wp_region_lit_segs (id :=3) [[0,1,2,3,4,5,6,7,8,9,10,11,12,13,14,15,16]] mixed (by kernel_rfl) ?_;simp only [wpSegsL,gaC,gaN,lZ0,lS0,coS])
    | (refine wp_region_lit_segs (id :=4) [[0,1,2,3,4,5,6,7,8,9]] mixed (by kernel_rfl) ?_;simp only [wpSegsL,gaC,gaN,lZ0,lS0,coS])
    | (refine wp_region_lit_segs (id :=5) [[0,1,2,3,4,5,6,7,8,9,10,11,12,13,14,15,16]] mixed (by kernel_rfl) ?_;simp only [wpSegsL,gaC,gaN,lZ0,lS0,coS])
    | (refine wp_region_lit_segs (id :=7) [[0,1,2,3,4,5,6,7,8,9,10,11,12,13,14,15,16]] mixed (by kernel_rfl) ?_;simp only [wpSegsL,gaC,gaN,lZ0,lS0,coS])
    | refine ⟨by kernel_rfl,?_⟩
    | (go_at_call 109;refine (hc _ (Chg.refl _ _).drew.drew).mono ?_;rintro e w1 ⟨rfl,kc⟩;have kc :=kc.of_drew.of_drew;have x1 :=Kept.at kc x1;have y1 :=Kept.at kc y1;have z1 :=Kept.at kc z1)
    | (go_at_call 121;refine (ha _ kc.drew).mono ?_;have hN :=HN.out;rintro e w2 ⟨s',n',c',rfl,k1,k2,k3⟩;have k3 :=((Chg.any kc (Blk sz)).trans k3.of_drew (fun _ _ _ h => h));obtain ⟨⟨u',z0'⟩,z1',zf'⟩ :=hz.after k3;have f0' :=zf' 0;have f1' :=zf' 1;have k2 : Fr w sz cz s' c' :=(by exact k2.mono kc.size);obtain rfl : n' = 0 :=k1.eq_zero.1 hN;clear hN))
  first | go_ret | refine ⟨_,results_tmp rfl _ _ _,?_⟩
  obtain ⟨hp,hq⟩ :=HPQ.out
  have hN :=HN.out
  subst hp
  subst hq
  have e : (X + Y).natAbs = Y.natAbs - X.natAbs :=by simp at hs;omega
  exact ⟨rfl,recv_done _ (by first | (simp;omega) | (simp at hs;rw [Bool.eq_iff_iff];simp;omega)) hz (by rw [e];exact k1) k2 k3⟩
theorem int_add_lt1 (w0 w : World) (bz bx by' : Nat) (sz sx sy : Option Addr) (nz cz nx cx ny cy : Nat) (X Y : Int) (hz : Recv w0 w bz sz nz cz) (hx : IntA w bx sx nx cx X) (hy : IntA w by' sy ny cy Y) (bX : nx < Big) (bY : ny < Big) (hsx : Sep sx sz) (hsy : Sep sy sz)
    (hs : (decide (X < 0) == decide (Y < 0)) = false) (hle : X.natAbs < Y.natAbs) (hN : Y.natAbs - X.natAbs ≠ 0) :
    Calls Tryz.prog 101 #[ptr bz,ptr bx,ptr by'] w fun e w' => e = .returned (ptr bz) ∧ RDone w0 w w' bz sz (X + Y) :=by
  have x0 :=hx.neg
  have x1 :=hx.abs
  have y0 :=hy.neg
  have y1 :=hy.abs
  have z1 :=hz.abs
  obtain ⟨u,z0⟩ :=hz.neg
  have ha :=fun W (hW : Kept w W) => nat_sub W sz sy sx nz cz ny nx cy cx Y.natAbs X.natAbs (hz.ok.chg hW) hz.le (hy.nat.kept hW) (hx.nat.kept hW) (by omega) bY hsy hsx
  have hc :=fun W (hW : Kept w W) => nat_cmp W sx sy nx ny cx cy X.natAbs Y.natAbs (hx.nat.kept hW) (hy.nat.kept hW)
  rw [cmpI_lt hle] at hc
  have HP : Hid (∀ v,v = decide (X + Y < 0) → v = decide (X + Y < 0)) :=Lib.hid fun _ h => h
  have HX : ∃ p,p = decide (X < 0) :=⟨_,rfl⟩
  have HY : ∃ p,p = decide (Y < 0) :=⟨_,rfl⟩
  obtain ⟨p,hp⟩ :=HX
  obtain ⟨q,hq⟩ :=HY
  rw [← hp] at x0 hs
  rw [← hq] at y0 hs
  have HPQ :=Lib.hid (And.intro hp hq)
  have HN :=Lib.hid hN
  clear hp hq hN
  go_enter Tryz.func101,Tryz.ntmps101
  go_wp2_with (first
    | (refine wp_region_lit_segs (id :=2) [[0,1,2,3,4,5,6,7,8]] mixed (by kernel_rfl) ?_;simp only [wpSegsL,gaC,gaN,lZ0,lS0,coS])
    | (refine wp_region_lit_segs (id :=3) [[0,1,2,3,4,5,6,7,8,9,10,11,12,13,14,15,16]] mixed (by kernel_rfl) ?_;simp only [wpSegsL,gaC,gaN,lZ0,lS0,coS])
    | (refine wp_region_lit_segs (id :=4) [[0,1,2,3,4,5,6,7,8,9]] mixed (by kernel_rfl) ?_;simp only [wpSegsL,gaC,gaN,lZ0,lS0,coS])
    | (refine wp_region_lit_segs (id :=5) [[0,1,2,3,4,5,6,7,8,9,10,11,12,13,14,15,16]] mixed (by kernel_rfl) ?_;simp only [wpSegsL,gaC,gaN,lZ0,lS0,coS])
    | (refine wp_region_lit_segs (id :=7) [[0,1,2,3,4,5,6,7,8,9,10,11,12,13,14,15,16]] mixed (by kernel_rfl) ?_;simp only [wpSegsL,gaC,gaN,lZ0,lS0,coS])
    | refine ⟨by kernel_rfl,?_⟩
    | (go_at_call 109;refine (hc _ (Chg.refl _ _).drew.drew).mono ?_;rintro e w1 ⟨rfl,kc⟩;have kc :=kc.of_drew.of_drew;have x1 :=Kept.at kc x1;have y1 :=Kept.at kc y1;have z1 :=Kept.at kc z1)
    | (go_at_call 121;refine (ha _ kc.drew).mono ?_;have hN :=HN.out;rintro e w2 ⟨s',n',c',rfl,k1,k2,k3⟩;have k3 :=((Chg.any kc (Blk sz)).trans k3.of_drew (fun _ _ _ h => h));obtain ⟨⟨u',z0'⟩,z1',zf'⟩ :=hz.after k3;have f0' :=zf' 0;have f1' :=zf' 1;have k2 : Fr w sz cz s' c' :=(by exact k2.mono kc.size);have hn0 : ¬ n' = 0 :=(fun h => hN (k1.eq_zero.2 h));obtain ⟨n',rfl⟩ : ∃ m,n' = m + 1 :=⟨n' - 1,by omega⟩;clear hN))
  first | go_ret | refine ⟨_,results_tmp rfl _ _ _,?_⟩
  obtain ⟨hp,hq⟩ :=HPQ.out
  have hN :=HN.out
  subst hp
  subst hq
  have e : (X + Y).natAbs = Y.natAbs - X.natAbs :=by simp at hs;omega
  exact ⟨rfl,recv_done _ (by first | (simp;omega) | (simp at hs;rw [Bool.eq_iff_iff];simp;omega)) hz (by rw [e];exact k1) k2 k3⟩
theorem int_add (w0 w : World) (bz bx by' : Nat) (sz sx sy : Option Addr) (nz cz nx cx ny cy : Nat) (X Y : Int) (hz : Recv w0 w bz sz nz cz) (hx : IntA w bx sx nx cx X) (hy : IntA w by' sy ny cy Y) (bX : nx < Big) (bY : ny < Big) (hsx : Sep sx sz) (hsy : Sep sy sz) :
    Calls Tryz.prog 101 #[ptr bz,ptr bx,ptr by'] w fun e w' => e = .returned (ptr bz) ∧ RDone w0 w w' bz sz (X + Y) :=by
  cases hs : (decide (X < 0) == decide (Y < 0))
  · rcases Nat.lt_or_ge X.natAbs Y.natAbs with hle | hle
    · by_cases hN : Y.natAbs - X.natAbs = 0
      · exact int_add_lt0 w0 w bz bx by' sz sx sy nz cz nx cx ny cy X Y hz hx hy bX bY hsx hsy hs hle hN
      · exact int_add_lt1 w0 w bz bx by' sz sx sy nz cz nx cx ny cy X Y hz hx hy bX bY hsx hsy hs hle hN
    · by_cases hN : X.natAbs - Y.natAbs = 0
      · exact int_add_ge0 w0 w bz bx by' sz sx sy nz cz nx cx ny cy X Y hz hx hy bX bY hsx hsy hs hle hN
      · exact int_add_ge1 w0 w bz bx by' sz sx sy nz cz nx cx ny cy X Y hz hx hy bX bY hsx hsy hs hle hN
  · by_cases hN : X.natAbs + Y.natAbs = 0
    · exact int_add_same0 w0 w bz bx by' sz sx sy nz cz nx cx ny cy X Y hz hx hy bX bY hsx hsy hs hN
    · exact int_add_same1 w0 w bz bx by' sz sx sy nz cz nx cx ny cy X Y hz hx hy bX bY hsx hsy hs hN
theorem int_sub_same0 (w0 w : World) (bz bx by' : Nat) (sz sx sy : Option Addr) (nz cz nx cx ny cy : Nat) (X Y : Int) (hz : Recv w0 w bz sz nz cz) (hx : IntA w bx sx nx cx X) (hy : IntA w by' sy ny cy Y) (bX : nx < Big) (bY : ny < Big) (hsx : Sep sx sz) (hsy : Sep sy sz)
    (hs : (!(decide (X < 0) == decide (Y < 0))) = true) (hN : X.natAbs + Y.natAbs = 0) :
    Calls Tryz.prog 102 #[ptr bz,ptr bx,ptr by'] w fun e w' => e = .returned (ptr bz) ∧ RDone w0 w w' bz sz (X - Y) :=by
  have x0 :=hx.neg
  have x1 :=hx.abs
  have y0 :=hy.neg
  have y1 :=hy.abs
  have z1 :=hz.abs
  obtain ⟨u,z0⟩ :=hz.neg
  have ha :=fun W (hW : Kept w W) => nat_add W sz sx sy nz cz nx ny cx cy X.natAbs Y.natAbs (hz.ok.chg hW) hz.le (hx.nat.kept hW) (hy.nat.kept hW) bX bY hsx hsy
  have HP : Hid (∀ v,v = decide (X - Y < 0) → v = decide (X - Y < 0)) :=Lib.hid fun _ h => h
  have HX : ∃ p,p = decide (X < 0) :=⟨_,rfl⟩
  have HY : ∃ p,p = decide (Y < 0) :=⟨_,rfl⟩
  obtain ⟨p,hp⟩ :=HX
  obtain ⟨q,hq⟩ :=HY
  rw [← hp] at x0 hs
  rw [← hq] at y0 hs
  have HPQ :=Lib.hid (And.intro hp hq)
  have HN :=Lib.hid hN
  clear hp hq hN
  go_enter Tryz.func102,Tryz.ntmps102
  go_wp2_with (first
    | (refine wp_region_lit_segs (id :=2) [[0,1,2,3,4,5,6,7,8]] mixed (by kernel_rfl) ?_;simp only [wpSegsL,gaC,gaN,lZ0,lS0,coS])
    | (refine wp_region_lit_segs (id :=3) [[0,1,2,3,4,5,6,7,8,9,10,11,12,13,14,15,16]] mixed (by kernel_rfl) ?_;simp only [wpSegsL,gaC,gaN,lZ0,lS0,coS])
    | (refine wp_region_lit_segs (id :=4) [[0,1,2,3,4,5,6,7,8,9]] mixed (by kernel_rfl) ?_;simp only [wpSegsL,gaC,gaN,lZ0,lS0,coS])
    | (refine wp_region_lit_segs (id :=5) [[0,1,2,3,4,5,6,7,8,9,10,11,12,13,14,15,16]] mixed (by kernel_rfl) ?_;simp only [wpSegsL,gaC,gaN,lZ0,lS0,coS])
    | (refine wp_region_lit_segs (id :=7) [[0,1,2,3,4,5,6,7,8,9,10,11,12,13,14,15,16]] mixed (by kernel_rfl) ?_;simp only [wpSegsL,gaC,gaN,lZ0,lS0,coS])
    | refine ⟨by kernel_rfl,?_⟩
    | (go_at_call 120;refine (ha _ (Chg.refl _ _).drew.drew).mono ?_;have hN :=HN.out;rintro e w2 ⟨s',n',c',rfl,k1,k2,k3⟩;have k3 :=(k3.of_drew.of_drew);obtain ⟨⟨u',z0'⟩,z1',zf'⟩ :=hz.after k3;have f0' :=zf' 0;have f1' :=zf' 1;have k2 : Fr w sz cz s' c' :=(by exact k2);obtain rfl : n' = 0 :=k1.eq_zero.1 hN;clear hN))
  first | go_ret | refine ⟨_,results_tmp rfl _ _ _,?_⟩
  obtain ⟨hp,hq⟩ :=HPQ.out
  have hN :=HN.out
  subst hp
  subst hq
  have e : (X - Y).natAbs = X.natAbs + Y.natAbs :=by simp at hs;omega
  exact ⟨rfl,recv_done _ (by first | (simp;omega) | (simp at hs;rw [Bool.eq_iff_iff];simp;omega)) hz (by rw [e];exact k1) k2 k3⟩
theorem int_sub_same1 (w0 w : World) (bz bx by' : Nat) (sz sx sy : Option Addr) (nz cz nx cx ny cy : Nat) (X Y : Int) (hz : Recv w0 w bz sz nz cz) (hx : IntA w bx sx nx cx X) (hy : IntA w by' sy ny cy Y) (bX : nx < Big) (bY : ny < Big) (hsx : Sep sx sz) (hsy : Sep sy sz)
    (hs : (!(decide (X < 0) == decide (Y < 0))) = true) (hN : X.natAbs + Y.natAbs ≠ 0) :
    Calls Tryz.prog 102 #[ptr bz,ptr bx,ptr by'] w fun e w' => e = .returned (ptr bz) ∧ RDone w0 w w' bz sz (X - Y) :=by
  have x0 :=hx.neg
  have x1 :=hx.abs
  have y0 :=hy.neg
  have y1 :=hy.abs
  have z1 :=hz.abs
  obtain ⟨u,z0⟩ :=hz.neg
  have ha :=fun W (hW : Kept w W) => nat_add W sz sx sy nz cz nx ny cx cy X.natAbs Y.natAbs (hz.ok.chg hW) hz.le (hx.nat.kept hW) (hy.nat.kept hW) bX bY hsx hsy
  have HP : Hid (∀ v,v = decide (X - Y < 0) → v = decide (X - Y < 0)) :=Lib.hid fun _ h => h
  have HX : ∃ p,p = decide (X < 0) :=⟨_,rfl⟩
  have HY : ∃ p,p = decide (Y < 0) :=⟨_,rfl⟩
  obtain ⟨p,hp⟩ :=HX
  obtain ⟨q,hq⟩ :=HY
  rw [← hp] at x0 hs
  rw [← hq] at y0 hs
  have HPQ :=Lib.hid (And.intro hp hq)
  have HN :=Lib.hid hN
  clear hp hq hN
  go_enter Tryz.func102,Tryz.ntmps102
  go_wp2_with (first
    | (refine wp_region_lit_segs (id :=2) [[0,1,2,3,4,5,6,7,8]] mixed (by kernel_rfl) ?_;simp only [wpSegsL,gaC,gaN,lZ0,lS0,coS])
    | (refine wp_region_lit_segs (id :=3) [[0,1,2,3,4,5,6,7,8,9,10,11,12,13,14,15,16]] mixed (by kernel_rfl) ?_;simp only [wpSegsL,gaC,gaN,lZ0,lS0,coS])
    | (refine wp_region_lit_segs (id :=4) [[0,1,2,3,4,5,6,7,8,9]] mixed (by kernel_rfl) ?_;simp only [wpSegsL,gaC,gaN,lZ0,lS0,coS])
    | (refine wp_region_lit_segs (id :=5) [[0,1,2,3,4,5,6,7,8,9,10,11,12,13,14,15,16]] mixed (by kernel_rfl) ?_;simp only [wpSegsL,gaC,gaN,lZ0,lS0,coS])
    | (refine wp_region_lit_segs (id :=7) [[0,1,2,3,4,5,6,7,8,9,10,11,12,13,14,15,16]] mixed (by kernel_rfl) ?_;simp only [wpSegsL,gaC,gaN,lZ0,lS0,coS])
    | refine ⟨by kernel_rfl,?_⟩
    | (go_at_call 120;refine (ha _ (Chg.refl _ _).drew.drew).mono ?_;have hN :=HN.out;rintro e w2 ⟨s',n',c',rfl,k1,k2,k3⟩;have k3 :=(k3.of_drew.of_drew);obtain ⟨⟨u',z0'⟩,z1',zf'⟩ :=hz.after k3;have f0' :=zf' 0;have f1' :=zf' 1;have k2 : Fr w sz cz s' c' :=(by exact k2);have hn0 : ¬ n' = 0 :=(fun h => hN (k1.eq_zero.2 h));obtain ⟨n',rfl⟩ : ∃ m,n' = m + 1 :=⟨n' - 1,by omega⟩;clear hN))
  first | go_ret | refine ⟨_,results_tmp rfl _ _ _,?_⟩
  obtain ⟨hp,hq⟩ :=HPQ.out
  have hN :=HN.out
  subst hp
  subst hq
  have e : (X - Y).natAbs = X.natAbs + Y.natAbs :=by simp at hs;omega
  exact ⟨rfl,recv_done _ (by first | (simp;omega) | (simp at hs;rw [Bool.eq_iff_iff];simp;omega)) hz (by rw [e];exact k1) k2 k3⟩
theorem int_sub_ge0 (w0 w : World) (bz bx by' : Nat) (sz sx sy : Option Addr) (nz cz nx cx ny cy : Nat) (X Y : Int) (hz : Recv w0 w bz sz nz cz) (hx : IntA w bx sx nx cx X) (hy : IntA w by' sy ny cy Y) (bX : nx < Big) (bY : ny < Big) (hsx : Sep sx sz) (hsy : Sep sy sz)
    (hs : (!(decide (X < 0) == decide (Y < 0))) = false) (hle : Y.natAbs ≤ X.natAbs) (hN : X.natAbs - Y.natAbs = 0) :
    Calls Tryz.prog 102 #[ptr bz,ptr bx,ptr by'] w fun e w' => e = .returned (ptr bz) ∧ RDone w0 w w' bz sz (X - Y) :=by
  have x0 :=hx.neg
  have x1 :=hx.abs
  have y0 :=hy.neg
  have y1 :=hy.abs
  have z1 :=hz.abs
  obtain ⟨u,z0⟩ :=hz.neg
  have ha :=fun W (hW : Kept w W) => nat_sub W sz sx sy nz cz nx ny cx cy X.natAbs Y.natAbs (hz.ok.chg hW) hz.le (hx.nat.kept hW) (hy.nat.kept hW) hle bX hsx hsy
  have hc :=fun W (hW : Kept w W) => nat_cmp W sx sy nx ny cx cy X.natAbs Y.natAbs (hx.nat.kept hW) (hy.nat.kept hW)
  have hcv :=cmpI_ge hle
  generalize cmpI X.natAbs Y.natAbs = cv at *
  have HP : Hid (∀ v,v = decide (X - Y < 0) → v = decide (X - Y < 0)) :=Lib.hid fun _ h => h
  have HX : ∃ p,p = decide (X < 0) :=⟨_,rfl⟩
  have HY : ∃ p,p = decide (Y < 0) :=⟨_,rfl⟩
  obtain ⟨p,hp⟩ :=HX
  obtain ⟨q,hq⟩ :=HY
  rw [← hp] at x0 hs
  rw [← hq] at y0 hs
  have HPQ :=Lib.hid (And.intro hp hq)
  have HN :=Lib.hid hN
  clear hp hq hN
  go_enter Tryz.func102,Tryz.ntmps102
  go_wp2_with (first
    | (refine wp_region_lit_segs (id :=2) [[0,1,2,3,4,5,6,7,8]] mixed (by kernel_rfl) ?_;simp only [wpSegsL,gaC,gaN,lZ0,lS0,coS])
    | (refine wp_region_lit_segs (id :=3) [[0,1,2,3,4,5,6,7,8,9,10,11,12,13,14,15,16]] mixed (by kernel_rfl) ?_;simp only [wpSegsL,gaC,gaN,lZ0,lS0,coS])
    | (refine wp_region_lit_segs (id :=4) [[0,1,2,3,4,5,6,7,8,9]] mixed (by kernel_rfl) ?_;simp only [wpSegsL,gaC,gaN,lZ0,lS0,coS])
    | (refine wp_region_lit_segs (id :=5) [[0,1,2,3,4,5,6,7,8,9,10,11,12,13,14,15,16]] mixed (by kernel_rfl) ?_;simp only [wpSegsL,gaC,gaN,lZ0,lS0,coS])
    | (refine wp_region_lit_segs (id :=7) [[0,1,2,3,4,5,6,7,8,9,10,11,12,13,14,15,16]] mixed (by kernel_rfl) ?_;simp only [wpSegsL,gaC,gaN,lZ0,lS0,coS])
    | refine ⟨by kernel_rfl,?_⟩
    | (go_at_call 109;refine (hc _ (Chg.refl _ _).drew.drew).mono ?_;rintro e w1 ⟨rfl,kc⟩;have kc :=kc.of_drew.of_drew;have x1 :=Kept.at kc x1;have y1 :=Kept.at kc y1;have z1 :=Kept.at kc z1)
    | (go_at_call 121;refine (ha _ kc.drew).mono ?_;have hN :=HN.out;rintro e w2 ⟨s',n',c',rfl,k1,k2,k3⟩;have k3 :=((Chg.any kc (Blk sz)).trans k3.of_drew (fun _ _ _ h => h));obtain ⟨⟨u',z0'⟩,z1',zf'⟩ :=hz.after k3;have f0' :=zf' 0;have f1' :=zf' 1;have k2 : Fr w sz cz s' c' :=(by exact k2.mono kc.size);obtain rfl : n' = 0 :=k1.eq_zero.1 hN;clear hN))
  first | go_ret | refine ⟨_,results_tmp rfl _ _ _,?_⟩
  obtain ⟨hp,hq⟩ :=HPQ.out
  have hN :=HN.out
  subst hp
  subst hq
  have e : (X - Y).natAbs = X.natAbs - Y.natAbs :=by simp at hs;omega
  exact ⟨rfl,recv_done _ (by first | (simp;omega) | (simp at hs;rw [Bool.eq_iff_iff];simp;omega)) hz (by rw [e];exact k1) k2 k3⟩
theorem int_sub_ge1 (w0 w : World) (bz bx by' : Nat) (sz sx sy : Option Addr) (nz cz nx cx ny cy : Nat) (X Y : Int) (hz : Recv w0 w bz sz nz cz) (hx : IntA w bx sx nx cx X) (hy : IntA w by' sy ny cy Y) (bX : nx < Big) (bY : ny < Big) (hsx : Sep sx sz) (hsy : Sep sy sz)
    (hs : (!(decide (X < 0) == decide (Y < 0))) = false) (hle : Y.natAbs ≤ X.natAbs) (hN : X.natAbs - Y.natAbs ≠ 0) :
    Calls Tryz.prog 102 #[ptr bz,ptr bx,ptr by'] w fun e w' => e = .returned (ptr bz) ∧ RDone w0 w w' bz sz (X - Y) :=by
  have x0 :=hx.neg
  have x1 :=hx.abs
  have y0 :=hy.neg
  have y1 :=hy.abs
  have z1 :=hz.abs
  obtain ⟨u,z0⟩ :=hz.neg
  have ha :=fun W (hW : Kept w W) => nat_sub W sz sx sy nz cz nx ny cx cy X.natAbs Y.natAbs (hz.ok.chg hW) hz.le (hx.nat.kept hW) (hy.nat.kept hW) hle bX hsx hsy
  have hc :=fun W (hW : Kept w W) => nat_cmp W sx sy nx ny cx cy X.natAbs Y.natAbs (hx.nat.kept hW) (hy.nat.kept hW)
  have hcv :=cmpI_ge hle
  generalize cmpI X.natAbs Y.natAbs = cv at *
  have HP : Hid (∀ v,v = decide (X - Y < 0) → v = decide (X - Y < 0)) :=Lib.hid fun _ h => h
  have HX : ∃ p,p = decide (X < 0) :=⟨_,rfl⟩
  have HY : ∃ p,p = decide (Y < 0) :=⟨_,rfl⟩
  obtain ⟨p,hp⟩ :=HX
  obtain ⟨q,hq⟩ :=HY
  rw [← hp] at x0 hs
  rw [← hq] at y0 hs
  have HPQ :=Lib.hid (And.intro hp hq)
  have HN :=Lib.hid hN
  clear hp hq hN
  go_enter Tryz.func102,Tryz.ntmps102
  go_wp2_with (first
    | (refine wp_region_lit_segs (id :=2) [[0,1,2,3,4,5,6,7,8]] mixed (by kernel_rfl) ?_;simp only [wpSegsL,gaC,gaN,lZ0,lS0,coS])
    | (refine wp_region_lit_segs (id :=3) [[0,1,2,3,4,5,6,7,8,9,10,11,12,13,14,15,16]] mixed (by kernel_rfl) ?_;simp only [wpSegsL,gaC,gaN,lZ0,lS0,coS])
    | (refine wp_region_lit_segs (id :=4) [[0,1,2,3,4,5,6,7,8,9]] mixed (by kernel_rfl) ?_;simp only [wpSegsL,gaC,gaN,lZ0,lS0,coS])
    | (refine wp_region_lit_segs (id :=5) [[0,1,2,3,4,5,6,7,8,9,10,11,12,13,14,15,16]] mixed (by kernel_rfl) ?_;simp only [wpSegsL,gaC,gaN,lZ0,lS0,coS])
    | (refine wp_region_lit_segs (id :=7) [[0,1,2,3,4,5,6,7,8,9,10,11,12,13,14,15,16]] mixed (by kernel_rfl) ?_;simp only [wpSegsL,gaC,gaN,lZ0,lS0,coS])
    | refine ⟨by kernel_rfl,?_⟩
    | (go_at_call 109;refine (hc _ (Chg.refl _ _).drew.drew).mono ?_;rintro e w1 ⟨rfl,kc⟩;have kc :=kc.of_drew.of_drew;have x1 :=Kept.at kc x1;have y1 :=Kept.at kc y1;have z1 :=Kept.at kc z1)
    | (go_at_call 121;refine (ha _ kc.drew).mono ?_;have hN :=HN.out;rintro e w2 ⟨s',n',c',rfl,k1,k2,k3⟩;have k3 :=((Chg.any kc (Blk sz)).trans k3.of_drew (fun _ _ _ h => h));obtain ⟨⟨u',z0'⟩,z1',zf'⟩ :=hz.after k3;have f0' :=zf' 0;have f1' :=zf' 1;have k2 : Fr w sz cz s' c' :=(by exact k2.mono kc.size);have hn0 : ¬ n' = 0 :=(fun h => hN (k1.eq_zero.2 h));obtain ⟨n',rfl⟩ : ∃ m,n' = m + 1 :=⟨n' - 1,by omega⟩;clear hN))
  first | go_ret | refine ⟨_,results_tmp rfl _ _ _,?_⟩
  obtain ⟨hp,hq⟩ :=HPQ.out
  have hN :=HN.out
  subst hp
  subst hq
  have e : (X - Y).natAbs = X.natAbs - Y.natAbs :=by simp at hs;omega
  exact ⟨rfl,recv_done _ (by first | (simp;omega) | (simp at hs;rw [Bool.eq_iff_iff];simp;omega)) hz (by rw [e];exact k1) k2 k3⟩
theorem int_sub_lt0 (w0 w : World) (bz bx by' : Nat) (sz sx sy : Option Addr) (nz cz nx cx ny cy : Nat) (X Y : Int) (hz : Recv w0 w bz sz nz cz) (hx : IntA w bx sx nx cx X) (hy : IntA w by' sy ny cy Y) (bX : nx < Big) (bY : ny < Big) (hsx : Sep sx sz) (hsy : Sep sy sz)
    (hs : (!(decide (X < 0) == decide (Y < 0))) = false) (hle : X.natAbs < Y.natAbs) (hN : Y.natAbs - X.natAbs = 0) :
    Calls Tryz.prog 102 #[ptr bz,ptr bx,ptr by'] w fun e w' => e = .returned (ptr bz) ∧ RDone w0 w w' bz sz (X - Y) :=by
  have x0 :=hx.neg
  have x1 :=hx.abs
  have y0 :=hy.neg
  have y1 :=hy.abs
  have z1 :=hz.abs
  obtain ⟨u,z0⟩ :=hz.neg
  have ha :=fun W (hW : Kept w W) => nat_sub W sz sy sx nz cz ny nx cy cx Y.natAbs X.natAbs (hz.ok.chg hW) hz.le (hy.nat.kept hW) (hx.nat.kept hW) (by omega) bY hsy hsx
  have hc :=fun W (hW : Kept w W) => nat_cmp W sx sy nx ny cx cy X.natAbs Y.natAbs (hx.nat.kept hW) (hy.nat.kept hW)
  rw [cmpI_lt hle] at hc
  have HP : Hid (∀ v,v = decide (X - Y < 0) → v = decide (X - Y < 0)) :=Lib.hid fun _ h => h
  have HX : ∃ p,p = decide (X < 0) :=⟨_,rfl⟩
  have HY : ∃ p,p = decide (Y < 0) :=⟨_,rfl⟩
  obtain ⟨p,hp⟩ :=HX
  obtain ⟨q,hq⟩ :=HY
  rw [← hp] at x0 hs
  rw [← hq] at y0 hs
  have HPQ :=Lib.hid (And.intro hp hq)
  have HN :=Lib.hid hN
  clear hp hq hN
  go_enter Tryz.func102,Tryz.ntmps102
  go_wp2_with (first
    | (refine wp_region_lit_segs (id :=2) [[0,1,2,3,4,5,6,7,8]] mixed (by kernel_rfl) ?_;simp only [wpSegsL,gaC,gaN,lZ0,lS0,coS])
    | (refine wp_region_lit_segs (id :=3) [[0,1,2,3,4,5,6,7,8,9,10,11,12,13,14,15,16]] mixed (by kernel_rfl) ?_;simp only [wpSegsL,gaC,gaN,lZ0,lS0,coS])
    | (refine wp_region_lit_segs (id :=4) [[0,1,2,3,4,5,6,7,8,9]] mixed (by kernel_rfl) ?_;simp only [wpSegsL,gaC,gaN,lZ0,lS0,coS])
    | (refine wp_region_lit_segs (id :=5) [[0,1,2,3,4,5,6,7,8,9,10,11,12,13,14,15,16]] mixed (by kernel_rfl) ?_;simp only [wpSegsL,gaC,gaN,lZ0,lS0,coS])
    | (refine wp_region_lit_segs (id :=7) [[0,1,2,3,4,5,6,7,8,9,10,11,12,13,14,15,16]] mixed (by kernel_rfl) ?_;simp only [wpSegsL,gaC,gaN,lZ0,lS0,coS])
    | refine ⟨by kernel_rfl,?_⟩
    | (go_at_call 109;refine (hc _ (Chg.refl _ _).drew.drew).mono ?_;rintro e w1 ⟨rfl,kc⟩;have kc :=kc.of_drew.of_drew;have x1 :=Kept.at kc x1;have y1 :=Kept.at kc y1;have z1 :=Kept.at kc z1)
    | (go_at_call 121;refine (ha _ kc.drew).mono ?_;have hN :=HN.out;rintro e w2 ⟨s',n',c',rfl,k1,k2,k3⟩;have k3 :=((Chg.any kc (Blk sz)).trans k3.of_drew (fun _ _ _ h => h));obtain ⟨⟨u',z0'⟩,z1',zf'⟩ :=hz.after k3;have f0' :=zf' 0;have f1' :=zf' 1;have k2 : Fr w sz cz s' c' :=(by exact k2.mono kc.size);obtain rfl : n' = 0 :=k1.eq_zero.1 hN;clear hN))
  first | go_ret | refine ⟨_,results_tmp rfl _ _ _,?_⟩
  obtain ⟨hp,hq⟩ :=HPQ.out
  have hN :=HN.out
  subst hp
  subst hq
  have e : (X - Y).natAbs = Y.natAbs - X.natAbs :=by simp at hs;omega
  exact ⟨rfl,recv_done _ (by first | (simp;omega) | (simp at hs;rw [Bool.eq_iff_iff];simp;omega)) hz (by rw [e];exact k1) k2 k3⟩
theorem int_sub_lt1 (w0 w : World) (bz bx by' : Nat) (sz sx sy : Option Addr) (nz cz nx cx ny cy : Nat) (X Y : Int) (hz : Recv w0 w bz sz nz cz) (hx : IntA w bx sx nx cx X) (hy : IntA w by' sy ny cy Y) (bX : nx < Big) (bY : ny < Big) (hsx : Sep sx sz) (hsy : Sep sy sz)
    (hs : (!(decide (X < 0) == decide (Y < 0))) = false) (hle : X.natAbs < Y.natAbs) (hN : Y.natAbs - X.natAbs ≠ 0) :
    Calls Tryz.prog 102 #[ptr bz,ptr bx,ptr by'] w fun e w' => e = .returned (ptr bz) ∧ RDone w0 w w' bz sz (X - Y) :=by
  have x0 :=hx.neg
  have x1 :=hx.abs
  have y0 :=hy.neg
  have y1 :=hy.abs
  have z1 :=hz.abs
  obtain ⟨u,z0⟩ :=hz.neg
  have ha :=fun W (hW : Kept w W) => nat_sub W sz sy sx nz cz ny nx cy cx Y.natAbs X.natAbs (hz.ok.chg hW) hz.le (hy.nat.kept hW) (hx.nat.kept hW) (by omega) bY hsy hsx
  have hc :=fun W (hW : Kept w W) => nat_cmp W sx sy nx ny cx cy X.natAbs Y.natAbs (hx.nat.kept hW) (hy.nat.kept hW)
  rw [cmpI_lt hle] at hc
  have HP : Hid (∀ v,v = decide (X - Y < 0) → v = decide (X - Y < 0)) :=Lib.hid fun _ h => h
  have HX : ∃ p,p = decide (X < 0) :=⟨_,rfl⟩
  have HY : ∃ p,p = decide (Y < 0) :=⟨_,rfl⟩
  obtain ⟨p,hp⟩ :=HX
  obtain ⟨q,hq⟩ :=HY
  rw [← hp] at x0 hs
  rw [← hq] at y0 hs
  have HPQ :=Lib.hid (And.intro hp hq)
  have HN :=Lib.hid hN
  clear hp hq hN
  go_enter Tryz.func102,Tryz.ntmps102
  go_wp2_with (first
    | (refine wp_region_lit_segs (id :=2) [[0,1,2,3,4,5,6,7,8]] mixed (by kernel_rfl) ?_;simp only [wpSegsL,gaC,gaN,lZ0,lS0,coS])
    | (refine wp_region_lit_segs (id :=3) [[0,1,2,3,4,5,6,7,8,9,10,11,12,13,14,15,16]] mixed (by kernel_rfl) ?_;simp only [wpSegsL,gaC,gaN,lZ0,lS0,coS])
    | (refine wp_region_lit_segs (id :=4) [[0,1,2,3,4,5,6,7,8,9]] mixed (by kernel_rfl) ?_;simp only [wpSegsL,gaC,gaN,lZ0,lS0,coS])
    | (refine wp_region_lit_segs (id :=5) [[0,1,2,3,4,5,6,7,8,9,10,11,12,13,14,15,16]] mixed (by kernel_rfl) ?_;simp only [wpSegsL,gaC,gaN,lZ0,lS0,coS])
    | (refine wp_region_lit_segs (id :=7) [[0,1,2,3,4,5,6,7,8,9,10,11,12,13,14,15,16]] mixed (by kernel_rfl) ?_;simp only [wpSegsL,gaC,gaN,lZ0,lS0,coS])
    | refine ⟨by kernel_rfl,?_⟩
    | (go_at_call 109;refine (hc _ (Chg.refl _ _).drew.drew).mono ?_;rintro e w1 ⟨rfl,kc⟩;have kc :=kc.of_drew.of_drew;have x1 :=Kept.at kc x1;have y1 :=Kept.at kc y1;have z1 :=Kept.at kc z1)
    | (go_at_call 121;refine (ha _ kc.drew).mono ?_;have hN :=HN.out;rintro e w2 ⟨s',n',c',rfl,k1,k2,k3⟩;have k3 :=((Chg.any kc (Blk sz)).trans k3.of_drew (fun _ _ _ h => h));obtain ⟨⟨u',z0'⟩,z1',zf'⟩ :=hz.after k3;have f0' :=zf' 0;have f1' :=zf' 1;have k2 : Fr w sz cz s' c' :=(by exact k2.mono kc.size);have hn0 : ¬ n' = 0 :=(fun h => hN (k1.eq_zero.2 h));obtain ⟨n',rfl⟩ : ∃ m,n' = m + 1 :=⟨n' - 1,by omega⟩;clear hN))
  first | go_ret | refine ⟨_,results_tmp rfl _ _ _,?_⟩
  obtain ⟨hp,hq⟩ :=HPQ.out
  have hN :=HN.out
  subst hp
  subst hq
  have e : (X - Y).natAbs = Y.natAbs - X.natAbs :=by simp at hs;omega
  exact ⟨rfl,recv_done _ (by first | (simp;omega) | (simp at hs;rw [Bool.eq_iff_iff];simp;omega)) hz (by rw [e];exact k1) k2 k3⟩
theorem int_sub (w0 w : World) (bz bx by' : Nat) (sz sx sy : Option Addr) (nz cz nx cx ny cy : Nat) (X Y : Int) (hz : Recv w0 w bz sz nz cz) (hx : IntA w bx sx nx cx X) (hy : IntA w by' sy ny cy Y) (bX : nx < Big) (bY : ny < Big) (hsx : Sep sx sz) (hsy : Sep sy sz) :
    Calls Tryz.prog 102 #[ptr bz,ptr bx,ptr by'] w fun e w' => e = .returned (ptr bz) ∧ RDone w0 w w' bz sz (X - Y) :=by
  cases hs : (!(decide (X < 0) == decide (Y < 0)))
  · rcases Nat.lt_or_ge X.natAbs Y.natAbs with hle | hle
    · by_cases hN : Y.natAbs - X.natAbs = 0
      · exact int_sub_lt0 w0 w bz bx by' sz sx sy nz cz nx cx ny cy X Y hz hx hy bX bY hsx hsy hs hle hN
      · exact int_sub_lt1 w0 w bz bx by' sz sx sy nz cz nx cx ny cy X Y hz hx hy bX bY hsx hsy hs hle hN
    · by_cases hN : X.natAbs - Y.natAbs = 0
      · exact int_sub_ge0 w0 w bz bx by' sz sx sy nz cz nx cx ny cy X Y hz hx hy bX bY hsx hsy hs hle hN
      · exact int_sub_ge1 w0 w bz bx by' sz sx sy nz cz nx cx ny cy X Y hz hx hy bX bY hsx hsy hs hle hN
  · by_cases hN : X.natAbs + Y.natAbs = 0
    · exact int_sub_same0 w0 w bz bx by' sz sx sy nz cz nx cx ny cy X Y hz hx hy bX bY hsx hsy hs hN
    · exact int_sub_same1 w0 w bz bx by' sz sx sy nz cz nx cx ny cy X Y hz hx hy bX bY hsx hsy hs hN
end Go.Proofs.YtfmmdamgcpiciaaGreatDoor
namespace Go.Proofs.YtfmmdamgcpiciaaGreatDoor
open Go Go.RowKit
theorem NatAt.unique {w : World} {s : Option Addr} {n c X Y : Nat} (hx : NatAt w s n c X) (hy : NatAt w s n c Y) : X = Y :=by
  obtain ⟨xs,a1,_,_,_,_,a6,a7,a8,rfl⟩ :=hx
  obtain ⟨ys,b1,_,_,_,_,b6,b7,b8,rfl⟩ :=hy
  congr 1
  apply List.ext_getElem?
  intro j
  rcases a6 with rfl | ⟨b,o,rfl,hr⟩
  · simp at a1;rw [← a1] at b1;rw [List.length_eq_zero_iff.1 b1]
  · have hr' :=Words.row b6
    by_cases hj : j < n
    · have h1 :=hr.cell j (by omega)
      have h2 :=hr'.cell j (by omega)
      rw [h1] at h2
      simp at h2
      rw [List.getElem?_eq_getElem (by omega),List.getElem?_eq_getElem (by omega),Int.ofNat.inj h2]
    · rw [List.getElem?_eq_none (by omega),List.getElem?_eq_none (by omega)]
theorem int_cmpAbs (w : World) (bx by' : Nat) (X Y : Int) (hx : IntAt w bx X) (hy : IntAt w by' Y) :
    Calls Tryz.prog 124 #[ptr bx,ptr by'] w fun e w' => e = .returned (.int .i64 (cmpI X.natAbs Y.natAbs)) ∧ Kept w w' :=by
  obtain ⟨sx,nx,cx,hx⟩ :=hx
  obtain ⟨sy,ny,cy,hy⟩ :=hy
  have x1 :=hx.abs
  have y1 :=hy.abs
  have hc :=fun W (hW : Kept w W) => nat_cmp W sx sy nx ny cx cy X.natAbs Y.natAbs (hx.nat.kept hW) (hy.nat.kept hW)
  go_enter Tryz.func124,Tryz.ntmps124
  go_wp2_with (first
    | (refine wp_region_lit_segs (id :=1) [[0,1,2,3,4,5,6,7,8,9]] mixed (by kernel_rfl) ?_;simp only [wpSegsL,gaC,gaN,lZ0,lS0,coS])
    | refine ⟨by kernel_rfl,?_⟩
    | (go_at_call 109;refine (hc _ (Chg.refl _ _).drew).mono ?_;rintro e w1 ⟨rfl,kc⟩))
  first | go_ret | refine ⟨_,results_tmp rfl _ _ _,?_⟩
  exact ⟨rfl,kc.of_drew⟩
def cmpZ (X Y : Int) : Int :=if X < Y then -1 else if Y < X then 1 else 0
theorem cmpZ_same {X Y : Int} (h : (decide (X < 0) == decide (Y < 0)) = true) : cmpZ X Y = if decide (X < 0) then -cmpI X.natAbs Y.natAbs else cmpI X.natAbs Y.natAbs :=by
  unfold cmpZ cmpI
  by_cases h1 : X < 0 <;> by_cases h2 : Y < 0 <;> simp [h1,h2] at h ⊢ <;> (repeat' split) <;> omega
theorem int_cmp (w : World) (bx by' : Nat) (X Y : Int) (hx : IntAt w bx X) (hy : IntAt w by' Y) :
    Calls Tryz.prog 89 #[ptr bx,ptr by'] w fun e w' => e = .returned (.int .i64 (cmpZ X Y)) ∧ Kept w w' :=by
  obtain ⟨sx,nx,cx,hx⟩ :=hx
  obtain ⟨sy,ny,cy,hy⟩ :=hy
  have hp :=(ptrRun53 w bx by' hx.neg hy.neg hx.nf hy.nf).1
  have x0 :=hx.neg
  have y0 :=hy.neg
  have x1 :=hx.abs
  have y1 :=hy.abs
  have hc :=fun W (hW : Kept w W) => nat_cmp W sx sy nx ny cx cy X.natAbs Y.natAbs (hx.nat.kept hW) (hy.nat.kept hW)
  by_cases hb : bx = by'
  · have hd : decide (bx = by' ∧ 0 = 0) = true :=by simp [hb]
    rw [hd] at hp
    have hXY : cmpZ X Y = 0 :=by
      subst hb
      have e1 :=x0.symm.trans y0
      have e2 :=x1.symm.trans y1
      simp only [Option.some.injEq,Value.bool.injEq,Value.slice.injEq] at e1 e2
      obtain ⟨rfl,rfl,rfl⟩ :=e2
      have h1 :=(NatAt.unique hx.nat hy.nat)
      unfold cmpZ
      by_cases hX : X < 0 <;> by_cases hY : Y < 0 <;> simp [hX,hY] at e1 <;> (repeat' split) <;> omega
    rw [hXY]
    clear hd hXY hb
    go_enter Tryz.func89,Tryz.ntmps89
    go_wp2
    first | go_ret | refine ⟨_,results_tmp rfl _ _ _,?_⟩
    exact ⟨rfl,Chg.refl _ _⟩
  · have hd : decide (bx = by' ∧ 0 = 0) = false :=by simp [hb]
    rw [hd] at hp
    by_cases hs : (decide (X < 0) == decide (Y < 0)) = true
    · rw [cmpZ_same hs]
      have hcb : -1 ≤ cmpI X.natAbs Y.natAbs ∧ cmpI X.natAbs Y.natAbs ≤ 1 :=by unfold cmpI;(repeat' split) <;> omega
      obtain ⟨hc1,hc2⟩ :=hcb
      generalize cmpI X.natAbs Y.natAbs = cv at *
      generalize decide (X < 0) = p at *
      generalize decide (Y < 0) = q at *
      have hpq : q = p :=by revert hs;cases p <;> cases q <;> simp
      subst hpq
      clear hs hd hb
      cases q
      · go_enter Tryz.func89,Tryz.ntmps89
        go_wp2_with (first
          | (refine wp_region_lit_segs (id :=3) [[0,1,2,3,4,5,6,7,8,9]] mixed (by kernel_rfl) ?_;simp only [wpSegsL,gaC,gaN,lZ0,lS0,coS])
          | (refine wp_region_lit_segs (id :=4) [[0,1,2,3,4,5,6,7,8,9]] mixed (by kernel_rfl) ?_;simp only [wpSegsL,gaC,gaN,lZ0,lS0,coS])
          | refine ⟨by kernel_rfl,?_⟩
          | (go_at_call 109;refine (hc _ (Chg.refl _ _).drew.drew).mono ?_;rintro e w1 ⟨rfl,kc⟩;have kc :=kc.of_drew.of_drew;have x0 :=Kept.at kc x0;have KC :=Lib.hid kc;clear kc))
        first | go_ret | refine ⟨_,results_tmp rfl _ _ _,?_⟩
        exact ⟨rfl,KC.out⟩
      · go_enter Tryz.func89,Tryz.ntmps89
        go_wp2_with (first
          | (refine wp_region_lit_segs (id :=3) [[0,1,2,3,4,5,6,7,8,9]] mixed (by kernel_rfl) ?_;simp only [wpSegsL,gaC,gaN,lZ0,lS0,coS])
          | (refine wp_region_lit_segs (id :=4) [[0,1,2,3,4,5,6,7,8,9]] mixed (by kernel_rfl) ?_;simp only [wpSegsL,gaC,gaN,lZ0,lS0,coS])
          | refine ⟨by kernel_rfl,?_⟩
          | (go_at_call 109;refine (hc _ (Chg.refl _ _).drew.drew).mono ?_;rintro e w1 ⟨rfl,kc⟩;have kc :=kc.of_drew.of_drew;have x0 :=Kept.at kc x0;have KC :=Lib.hid kc;clear kc))
        first | go_ret | refine ⟨_,results_tmp rfl _ _ _,?_⟩
        exact ⟨by first | rfl | simp,KC.out⟩
    · have hs' : (decide (X < 0) == decide (Y < 0)) = false :=by simpa using hs
      by_cases hX : X < 0
      · have hY : decide (Y < 0) = false :=by by_cases hY : Y < 0 <;> simp [hX,hY] at hs ⊢ <;> omega
        have hX' : decide (X < 0) = true :=by simpa using hX
        have hv : cmpZ X Y = -1 :=by unfold cmpZ;rw [if_pos];simp at hY;omega
        rw [hv]
        rw [hX'] at x0
        rw [hY] at y0
        clear hX' hY hv hs hs' hd hb
        go_enter Tryz.func89,Tryz.ntmps89
        go_wp2_with (first
          | (refine wp_region_lit_segs (id :=3) [[0,1,2,3,4,5,6,7,8,9]] mixed (by kernel_rfl) ?_;simp only [wpSegsL,gaC,gaN,lZ0,lS0,coS])
          | (refine wp_region_lit_segs (id :=4) [[0,1,2,3,4,5,6,7,8,9]] mixed (by kernel_rfl) ?_;simp only [wpSegsL,gaC,gaN,lZ0,lS0,coS])
          | refine ⟨by kernel_rfl,?_⟩)
        first | go_ret | refine ⟨_,results_tmp rfl _ _ _,?_⟩
        exact ⟨rfl,(Chg.refl _ _).drew⟩
      · have hX' : decide (X < 0) = false :=by simpa using hX
        have hY : decide (Y < 0) = true :=by by_cases hY : Y < 0 <;> simp [hX,hY] at hs ⊢
        have hv : cmpZ X Y = 1 :=by unfold cmpZ;simp at hY;rw [if_neg (by omega),if_pos (by omega)]
        rw [hv]
        rw [hX'] at x0
        rw [hY] at y0
        clear hX' hY hv hs hs' hd hb
        go_enter Tryz.func89,Tryz.ntmps89
        go_wp2_with (first
          | (refine wp_region_lit_segs (id :=3) [[0,1,2,3,4,5,6,7,8,9]] mixed (by kernel_rfl) ?_;simp only [wpSegsL,gaC,gaN,lZ0,lS0,coS])
          | (refine wp_region_lit_segs (id :=4) [[0,1,2,3,4,5,6,7,8,9]] mixed (by kernel_rfl) ?_;simp only [wpSegsL,gaC,gaN,lZ0,lS0,coS])
          | refine ⟨by kernel_rfl,?_⟩)
        first | go_ret | refine ⟨_,results_tmp rfl _ _ _,?_⟩
        exact ⟨rfl,(Chg.refl _ _).drew⟩
theorem IntAt_same {w : World} {bx by' : Nat} {X Y : Int} (hb : bx = by') (hx : IntAt w bx X) (hy : IntAt w by' Y) : X = Y :=by
  subst hb
  obtain ⟨sx,nx,cx,hx⟩ :=hx
  obtain ⟨sy,ny,cy,hy⟩ :=hy
  have e1 :=hx.neg.symm.trans hy.neg
  have e2 :=hx.abs.symm.trans hy.abs
  simp only [Option.some.injEq,Value.bool.injEq,Value.slice.injEq] at e1 e2
  obtain ⟨rfl,rfl,rfl⟩ :=e2
  have h1 :=NatAt.unique hx.nat hy.nat
  by_cases hX : X < 0 <;> by_cases hY : Y < 0 <;> simp [hX,hY] at e1 <;> omega
theorem mul_sign_s {w : World} {bx by' : Nat} {X Y : Int} (hb : bx = by') (hx : IntAt w bx X) (hy : IntAt w by' Y) : false = decide (X * Y < 0) :=by
  obtain rfl :=IntAt_same hb hx hy
  have : 0 ≤ X * X :=by rcases Int.le_total 0 X with h | h;exact Int.mul_nonneg h h;exact Int.mul_nonneg_of_nonpos_of_nonpos h h
  simp;omega
theorem done_drew {w0 w : World} {b : Nat} {X : Int} (h : IntN w0 w b X ∧ Kept w0 w) : IntN w0 w.drew b X ∧ Kept w0 w.drew :=⟨h.1.kept (Chg.refl w _).drew,h.2.drew⟩
theorem mul_sign0 {X Y : Int} (h : X.natAbs * Y.natAbs = 0) : false = decide (X * Y < 0) :=by
  rw [← Int.natAbs_mul] at h
  simp;omega
theorem mul_sign1 {X Y : Int} (h : X.natAbs * Y.natAbs ≠ 0) : (decide (X < 0) != decide (Y < 0)) = decide (X * Y < 0) :=by
  have hX : X ≠ 0 :=fun e => by subst e;simp at h
  have hY : Y ≠ 0 :=fun e => by subst e;simp at h
  rcases Int.lt_or_gt_of_ne hX with h1 | h1 <;> rcases Int.lt_or_gt_of_ne hY with h2 | h2
  · have :=Int.mul_pos_of_neg_of_neg h1 h2
    simp [h1,h2];omega
  · have :=Int.mul_neg_of_neg_of_pos h1 h2
    have h3 : ¬ Y < 0 :=by omega
    simp [h1,h3,this]
  · have :=Int.mul_neg_of_pos_of_neg h1 h2
    have h3 : ¬ X < 0 :=by omega
    simp [h2,h3,this]
  · have :=Int.mul_pos h1 h2
    have h3 : ¬ X < 0 :=by omega
    have h4 : ¬ Y < 0 :=by omega
    simp [h3,h4];omega
theorem int_mul_s0 (w0 w : World) (hg : Glob w) (hk : Kept w0 w) (bz bx by' : Nat) (hb : w0.heap.size ≤ bz) (hz : ZeroInt w bz) (X Y : Int) (hx : IntAt w bx X) (hy : IntAt w by' Y) (hxb : bx ≠ bz) (hyb : by' ≠ bz) (hb2 : bx = by') (b12 : X.natAbs < W64 ^ 11) (hN : X.natAbs * X.natAbs = 0) :
    Calls Tryz.prog 110 #[ptr bz,.pointer none,ptr bx,ptr by'] w fun e w' => e = .returned (.tuple #[]) ∧ IntN w0 w' bz (X * Y) ∧ Kept w0 w' :=by
  have hxx :=hx
  have hyy :=hy
  obtain ⟨sx,nx,cx,hx⟩ :=hx
  obtain ⟨sy,ny,cy,hy⟩ :=hy
  have hp :=(ptrRun53 w bx by' hx.neg hy.neg hx.nf hy.nf).1
  have hd : decide (bx = by' ∧ 0 = 0) = true :=by simp [hb2]
  rw [hd] at hp
  have x0 :=hx.neg
  have y0 :=hy.neg
  have x1 :=hx.abs
  have y1 :=hy.abs
  have z0 :=hz.neg
  have z1 :=hz.abs
  have f0 :=hz.nf 0
  have f1 :=hz.nf 1
  have ha :=fun W (hW : Kept w W) => nat_sqr W (.pointer none) none sx 0 0 nx cx X.natAbs (hg.kept hW) (.inl ⟨rfl,rfl⟩) (by omega) (hx.nat.kept hW) (Nat.lt_of_le_of_lt (hx.nat.len_lt b12) (by decide)) (Dis.nil _)
  have HX : ∃ p,p = decide (X < 0) :=⟨_,rfl⟩
  have HY : ∃ p,p = decide (Y < 0) :=⟨_,rfl⟩
  obtain ⟨p,hp2⟩ :=HX
  obtain ⟨q,hq2⟩ :=HY
  rw [← hp2] at x0
  rw [← hq2] at y0
  have HPQ :=Lib.hid (And.intro hp2 hq2)
  have HN :=Lib.hid hN
  have HB :=Lib.hid hb2
  clear hp2 hq2 hN hd hb2
  go_enter Tryz.func110,Tryz.ntmps110
  go_wp2_with (first
    | (refine wp_region_lit_segs (id :=1) [[0,1,2,3,4,5,6,7,8,9,10,11,12,13]] mixed (by kernel_rfl) ?_;simp only [wpSegsL,gaC,gaN,lZ0,lS0,coS])
    | (refine wp_region_lit_segs (id :=3) [[0,1,2,3,4,5,6,7,8,9,10,11,12,13,14,15,16,17]] mixed (by kernel_rfl) ?_;simp only [wpSegsL,gaC,gaN,lZ0,lS0,coS])
    | (refine wp_region_lit_segs (id :=4) [[0,1,2,3,4,5,6,7,8,9,10,11,12,13,14,15,16,17,18,19,20]] mixed (by kernel_rfl) ?_;simp only [wpSegsL,gaC,gaN,lZ0,lS0,coS])
    | refine ⟨by kernel_rfl,?_⟩
    | (go_at_call 127;refine (ha _ (Chg.refl _ _).drew).mono ?_;rintro e w1 ⟨s',n',c',rfl,k1,k2,k3⟩;have k3 :=k3.of_drew.noneK;obtain ⟨z0',z1',zf'⟩ :=hz.kept k3;have f0' :=zf' 0;have f1' :=zf' 1;have x2 :=cs_ne (u :=.slice s' n' c') (k3.at x0) (b' :=bz) (o' :=1) (by omega);have y2 :=cs_ne (u :=.slice s' n' c') (k3.at y0) (b' :=bz) (o' :=1) (by omega);have z2 :=cell_setCell_eq (v :=.slice s' n' c') z1';have hN :=HN.out;obtain rfl : n' = 0 :=k1.eq_zero.1 (by omega);clear hN))
  first | go_end0 | refine ⟨_,results_none rfl _ _ _,?_⟩
  obtain ⟨hp,hq⟩ :=HPQ.out
  have hN :=HN.out
  have hb2 :=HB.out
  have e : (X * Y).natAbs = X.natAbs * X.natAbs :=by obtain rfl :=IntAt_same hb2 hxx hyy;exact Int.natAbs_mul _ _
  have hd :=int_done (X :=X * Y) _ (mul_sign_s hb2 hxx hyy) hk hb hz (by rw [e];exact k1) k2 k3
  first | exact ⟨rfl,hd⟩ | exact ⟨rfl,done_drew hd⟩
theorem int_mul_d0 (w0 w : World) (hg : Glob w) (hk : Kept w0 w) (bz bx by' : Nat) (hb : w0.heap.size ≤ bz) (hz : ZeroInt w bz) (X Y : Int) (hx : IntAt w bx X) (hy : IntAt w by' Y) (hxb : bx ≠ bz) (hyb : by' ≠ bz) (hb2 : bx ≠ by') (b39 : X.natAbs < W39 ∧ Y.natAbs < W39) (hN : X.natAbs * Y.natAbs = 0) :
    Calls Tryz.prog 110 #[ptr bz,.pointer none,ptr bx,ptr by'] w fun e w' => e = .returned (.tuple #[]) ∧ IntN w0 w' bz (X * Y) ∧ Kept w0 w' :=by
  have hxx :=hx
  have hyy :=hy
  obtain ⟨sx,nx,cx,hx⟩ :=hx
  obtain ⟨sy,ny,cy,hy⟩ :=hy
  have hp :=(ptrRun53 w bx by' hx.neg hy.neg hx.nf hy.nf).1
  have hd : decide (bx = by' ∧ 0 = 0) = false :=by simp [hb2]
  rw [hd] at hp
  have x0 :=hx.neg
  have y0 :=hy.neg
  have x1 :=hx.abs
  have y1 :=hy.abs
  have z0 :=hz.neg
  have z1 :=hz.abs
  have f0 :=hz.nf 0
  have f1 :=hz.nf 1
  have ha :=fun W (hW : Kept w W) => nat_mul W (.pointer none) none sx sy 0 0 nx ny cx cy X.natAbs Y.natAbs (hg.kept hW) (.inl ⟨rfl,rfl⟩) (by omega) (hx.nat.kept hW) (hy.nat.kept hW) (Nat.lt_of_le_of_lt (hx.nat.len_lt b39.1) (by decide)) (Nat.lt_of_le_of_lt (hy.nat.len_lt b39.2) (by decide)) (Dis.nil _) (Dis.nil _)
  have HX : ∃ p,p = decide (X < 0) :=⟨_,rfl⟩
  have HY : ∃ p,p = decide (Y < 0) :=⟨_,rfl⟩
  obtain ⟨p,hp2⟩ :=HX
  obtain ⟨q,hq2⟩ :=HY
  rw [← hp2] at x0
  rw [← hq2] at y0
  have HPQ :=Lib.hid (And.intro hp2 hq2)
  have HN :=Lib.hid hN
  have HB :=Lib.hid hb2
  clear hp2 hq2 hN hd hb2
  go_enter Tryz.func110,Tryz.ntmps110
  go_wp2_with (first
    | (refine wp_region_lit_segs (id :=1) [[0,1,2,3,4,5,6,7,8,9,10,11,12,13]] mixed (by kernel_rfl) ?_;simp only [wpSegsL,gaC,gaN,lZ0,lS0,coS])
    | (refine wp_region_lit_segs (id :=3) [[0,1,2,3,4,5,6,7,8,9,10,11,12,13,14,15,16,17]] mixed (by kernel_rfl) ?_;simp only [wpSegsL,gaC,gaN,lZ0,lS0,coS])
    | (refine wp_region_lit_segs (id :=4) [[0,1,2,3,4,5,6,7,8,9,10,11,12,13,14,15,16,17,18,19,20]] mixed (by kernel_rfl) ?_;simp only [wpSegsL,gaC,gaN,lZ0,lS0,coS])
    | refine ⟨by kernel_rfl,?_⟩
    | (go_at_call 128;refine (ha _ (Chg.refl _ _).drew).mono ?_;rintro e w1 ⟨s',n',c',rfl,k1,k2,k3⟩;have k3 :=k3.of_drew.noneK;obtain ⟨z0',z1',zf'⟩ :=hz.kept k3;have f0' :=zf' 0;have f1' :=zf' 1;have x2 :=cs_ne (u :=.slice s' n' c') (k3.at x0) (b' :=bz) (o' :=1) (by omega);have y2 :=cs_ne (u :=.slice s' n' c') (k3.at y0) (b' :=bz) (o' :=1) (by omega);have z2 :=cell_setCell_eq (v :=.slice s' n' c') z1';have hN :=HN.out;obtain rfl : n' = 0 :=k1.eq_zero.1 (by omega);clear hN))
  first | go_end0 | refine ⟨_,results_none rfl _ _ _,?_⟩
  obtain ⟨hp,hq⟩ :=HPQ.out
  have hN :=HN.out
  have hb2 :=HB.out
  have e : (X * Y).natAbs = X.natAbs * Y.natAbs :=by exact Int.natAbs_mul _ _
  have hd :=int_done (X :=X * Y) _ (mul_sign0 hN) hk hb hz (by rw [e];exact k1) k2 k3
  first | exact ⟨rfl,hd⟩ | exact ⟨rfl,done_drew hd⟩
theorem int_mul_s1 (w0 w : World) (hg : Glob w) (hk : Kept w0 w) (bz bx by' : Nat) (hb : w0.heap.size ≤ bz) (hz : ZeroInt w bz) (X Y : Int) (hx : IntAt w bx X) (hy : IntAt w by' Y) (hxb : bx ≠ bz) (hyb : by' ≠ bz) (hb2 : bx = by') (b12 : X.natAbs < W64 ^ 11) (hN : X.natAbs * X.natAbs ≠ 0) :
    Calls Tryz.prog 110 #[ptr bz,.pointer none,ptr bx,ptr by'] w fun e w' => e = .returned (.tuple #[]) ∧ IntN w0 w' bz (X * Y) ∧ Kept w0 w' :=by
  have hxx :=hx
  have hyy :=hy
  obtain ⟨sx,nx,cx,hx⟩ :=hx
  obtain ⟨sy,ny,cy,hy⟩ :=hy
  have hp :=(ptrRun53 w bx by' hx.neg hy.neg hx.nf hy.nf).1
  have hd : decide (bx = by' ∧ 0 = 0) = true :=by simp [hb2]
  rw [hd] at hp
  have x0 :=hx.neg
  have y0 :=hy.neg
  have x1 :=hx.abs
  have y1 :=hy.abs
  have z0 :=hz.neg
  have z1 :=hz.abs
  have f0 :=hz.nf 0
  have f1 :=hz.nf 1
  have ha :=fun W (hW : Kept w W) => nat_sqr W (.pointer none) none sx 0 0 nx cx X.natAbs (hg.kept hW) (.inl ⟨rfl,rfl⟩) (by omega) (hx.nat.kept hW) (Nat.lt_of_le_of_lt (hx.nat.len_lt b12) (by decide)) (Dis.nil _)
  have HX : ∃ p,p = decide (X < 0) :=⟨_,rfl⟩
  have HY : ∃ p,p = decide (Y < 0) :=⟨_,rfl⟩
  obtain ⟨p,hp2⟩ :=HX
  obtain ⟨q,hq2⟩ :=HY
  rw [← hp2] at x0
  rw [← hq2] at y0
  have HPQ :=Lib.hid (And.intro hp2 hq2)
  have HN :=Lib.hid hN
  have HB :=Lib.hid hb2
  clear hp2 hq2 hN hd hb2
  go_enter Tryz.func110,Tryz.ntmps110
  go_wp2_with (first
    | (refine wp_region_lit_segs (id :=1) [[0,1,2,3,4,5,6,7,8,9,10,11,12,13]] mixed (by kernel_rfl) ?_;simp only [wpSegsL,gaC,gaN,lZ0,lS0,coS])
    | (refine wp_region_lit_segs (id :=3) [[0,1,2,3,4,5,6,7,8,9,10,11,12,13,14,15,16,17]] mixed (by kernel_rfl) ?_;simp only [wpSegsL,gaC,gaN,lZ0,lS0,coS])
    | (refine wp_region_lit_segs (id :=4) [[0,1,2,3,4,5,6,7,8,9,10,11,12,13,14,15,16,17,18,19,20]] mixed (by kernel_rfl) ?_;simp only [wpSegsL,gaC,gaN,lZ0,lS0,coS])
    | refine ⟨by kernel_rfl,?_⟩
    | (go_at_call 127;refine (ha _ (Chg.refl _ _).drew).mono ?_;rintro e w1 ⟨s',n',c',rfl,k1,k2,k3⟩;have k3 :=k3.of_drew.noneK;obtain ⟨z0',z1',zf'⟩ :=hz.kept k3;have f0' :=zf' 0;have f1' :=zf' 1;have x2 :=cs_ne (u :=.slice s' n' c') (k3.at x0) (b' :=bz) (o' :=1) (by omega);have y2 :=cs_ne (u :=.slice s' n' c') (k3.at y0) (b' :=bz) (o' :=1) (by omega);have z2 :=cell_setCell_eq (v :=.slice s' n' c') z1';have hN :=HN.out;have hn0 : ¬ n' = 0 :=(fun h => by have :=k1.eq_zero.2 h;omega);obtain ⟨n',rfl⟩ : ∃ m,n' = m + 1 :=⟨n' - 1,by omega⟩;clear hN))
  first | go_end0 | refine ⟨_,results_none rfl _ _ _,?_⟩
  obtain ⟨hp,hq⟩ :=HPQ.out
  have hN :=HN.out
  have hb2 :=HB.out
  have e : (X * Y).natAbs = X.natAbs * X.natAbs :=by obtain rfl :=IntAt_same hb2 hxx hyy;exact Int.natAbs_mul _ _
  have hd :=int_done (X :=X * Y) _ (mul_sign_s hb2 hxx hyy) hk hb hz (by rw [e];exact k1) k2 k3
  first | exact ⟨rfl,hd⟩ | exact ⟨rfl,done_drew hd⟩
theorem int_mul_d1 (w0 w : World) (hg : Glob w) (hk : Kept w0 w) (bz bx by' : Nat) (hb : w0.heap.size ≤ bz) (hz : ZeroInt w bz) (X Y : Int) (hx : IntAt w bx X) (hy : IntAt w by' Y) (hxb : bx ≠ bz) (hyb : by' ≠ bz) (hb2 : bx ≠ by') (b39 : X.natAbs < W39 ∧ Y.natAbs < W39) (hN : X.natAbs * Y.natAbs ≠ 0) :
    Calls Tryz.prog 110 #[ptr bz,.pointer none,ptr bx,ptr by'] w fun e w' => e = .returned (.tuple #[]) ∧ IntN w0 w' bz (X * Y) ∧ Kept w0 w' :=by
  have hxx :=hx
  have hyy :=hy
  obtain ⟨sx,nx,cx,hx⟩ :=hx
  obtain ⟨sy,ny,cy,hy⟩ :=hy
  have hp :=(ptrRun53 w bx by' hx.neg hy.neg hx.nf hy.nf).1
  have hd : decide (bx = by' ∧ 0 = 0) = false :=by simp [hb2]
  rw [hd] at hp
  have x0 :=hx.neg
  have y0 :=hy.neg
  have x1 :=hx.abs
  have y1 :=hy.abs
  have z0 :=hz.neg
  have z1 :=hz.abs
  have f0 :=hz.nf 0
  have f1 :=hz.nf 1
  have ha :=fun W (hW : Kept w W) => nat_mul W (.pointer none) none sx sy 0 0 nx ny cx cy X.natAbs Y.natAbs (hg.kept hW) (.inl ⟨rfl,rfl⟩) (by omega) (hx.nat.kept hW) (hy.nat.kept hW) (Nat.lt_of_le_of_lt (hx.nat.len_lt b39.1) (by decide)) (Nat.lt_of_le_of_lt (hy.nat.len_lt b39.2) (by decide)) (Dis.nil _) (Dis.nil _)
  have HX : ∃ p,p = decide (X < 0) :=⟨_,rfl⟩
  have HY : ∃ p,p = decide (Y < 0) :=⟨_,rfl⟩
  obtain ⟨p,hp2⟩ :=HX
  obtain ⟨q,hq2⟩ :=HY
  rw [← hp2] at x0
  rw [← hq2] at y0
  have HPQ :=Lib.hid (And.intro hp2 hq2)
  have HN :=Lib.hid hN
  have HB :=Lib.hid hb2
  clear hp2 hq2 hN hd hb2
  go_enter Tryz.func110,Tryz.ntmps110
  go_wp2_with (first
    | (refine wp_region_lit_segs (id :=1) [[0,1,2,3,4,5,6,7,8,9,10,11,12,13]] mixed (by kernel_rfl) ?_;simp only [wpSegsL,gaC,gaN,lZ0,lS0,coS])
    | (refine wp_region_lit_segs (id :=3) [[0,1,2,3,4,5,6,7,8,9,10,11,12,13,14,15,16,17]] mixed (by kernel_rfl) ?_;simp only [wpSegsL,gaC,gaN,lZ0,lS0,coS])
    | (refine wp_region_lit_segs (id :=4) [[0,1,2,3,4,5,6,7,8,9,10,11,12,13,14,15,16,17,18,19,20]] mixed (by kernel_rfl) ?_;simp only [wpSegsL,gaC,gaN,lZ0,lS0,coS])
    | refine ⟨by kernel_rfl,?_⟩
    | (go_at_call 128;refine (ha _ (Chg.refl _ _).drew).mono ?_;rintro e w1 ⟨s',n',c',rfl,k1,k2,k3⟩;have k3 :=k3.of_drew.noneK;obtain ⟨z0',z1',zf'⟩ :=hz.kept k3;have f0' :=zf' 0;have f1' :=zf' 1;have x2 :=cs_ne (u :=.slice s' n' c') (k3.at x0) (b' :=bz) (o' :=1) (by omega);have y2 :=cs_ne (u :=.slice s' n' c') (k3.at y0) (b' :=bz) (o' :=1) (by omega);have z2 :=cell_setCell_eq (v :=.slice s' n' c') z1';have hN :=HN.out;have hn0 : ¬ n' = 0 :=(fun h => by have :=k1.eq_zero.2 h;omega);obtain ⟨n',rfl⟩ : ∃ m,n' = m + 1 :=⟨n' - 1,by omega⟩;clear hN))
  first | go_end0 | refine ⟨_,results_none rfl _ _ _,?_⟩
  obtain ⟨hp,hq⟩ :=HPQ.out
  have hN :=HN.out
  have hb2 :=HB.out
  have e : (X * Y).natAbs = X.natAbs * Y.natAbs :=by exact Int.natAbs_mul _ _
  have hd :=int_done (X :=X * Y) _ (show (!(p == q)) = _ by subst hp;subst hq;exact mul_sign1 hN) hk hb hz (by rw [e];exact k1) k2 k3
  first | exact ⟨rfl,hd⟩ | exact ⟨rfl,done_drew hd⟩
end Go.Proofs.YtfmmdamgcpiciaaGreatDoor
namespace Go.Proofs.YtfmmdamgcpiciaaGreatDoor
open Go Go.RowKit
theorem int_Mul (w0 w : World) (hg : Glob w) (hk : Kept w0 w) (bz bx by' : Nat) (hb : w0.heap.size ≤ bz) (hz : ZeroInt w bz) (X Y : Int) (hx : IntAt w bx X) (hy : IntAt w by' Y) (hxb : bx ≠ bz) (hyb : by' ≠ bz) (h11 : bx = by' → X.natAbs < W64 ^ 11) (hX : X.natAbs < W39) (hY : Y.natAbs < W39) :
    Calls Tryz.prog 91 #[ptr bz,ptr bx,ptr by'] w fun e w' => e = .returned (ptr bz) ∧ IntN w0 w' bz (X * Y) ∧ Kept w0 w' :=by
  have hm : Calls Tryz.prog 110 #[ptr bz,.pointer none,ptr bx,ptr by'] w fun e w' => e = .returned (.tuple #[]) ∧ IntN w0 w' bz (X * Y) ∧ Kept w0 w' :=by
    by_cases hbb : bx = by'
    · by_cases hN : X.natAbs * X.natAbs = 0
      · exact int_mul_s0 w0 w hg hk bz bx by' hb hz X Y hx hy hxb hyb hbb (h11 hbb) hN
      · exact int_mul_s1 w0 w hg hk bz bx by' hb hz X Y hx hy hxb hyb hbb (h11 hbb) hN
    · by_cases hN : X.natAbs * Y.natAbs = 0
      · exact int_mul_d0 w0 w hg hk bz bx by' hb hz X Y hx hy hxb hyb hbb ⟨hX,hY⟩ hN
      · exact int_mul_d1 w0 w hg hk bz bx by' hb hz X Y hx hy hxb hyb hbb ⟨hX,hY⟩ hN
  go_enter Tryz.func91,Tryz.ntmps91
  go_wp2_with (go_at_call 110;refine hm.mono ?_;rintro e w1 ⟨rfl,k⟩;have K :=Lib.hid k;clear k)
  first | go_ret | refine ⟨_,results_tmp rfl _ _ _,?_⟩
  exact ⟨rfl,K.out⟩
theorem NatAt.word (w : World) (x : Nat) (hx : x < W64) (h0 : x ≠ 0) (o : Obj) : NatAt ((w.alloc (.cells #[.int .u64 x] 109)).alloc o) (some ⟨w.heap.size,0,none⟩) 1 1 x :=by
  have hc : (w.alloc (.cells #[.int .u64 x] 109)).cell? ⟨w.heap.size,0,none⟩ = some (.int .u64 x) :=by rw [World.cell?_alloc_at _ _ _ _ rfl];rfl
  have hk : Kept (w.alloc (.cells #[.int .u64 x] 109)) ((w.alloc (.cells #[.int .u64 x] 109)).alloc o) :=Chg.alloc _ _ _
  refine NatAt.kept ⟨[x],rfl,Nat.le_refl _,by unfold Big;omega,by unfold Big;omega,?_,?_,Lt.one hx,Nz.one h0,by simp [val]⟩ hk
  · refine .inr ⟨_,0,rfl,fun j hj => ?_,NF.made w _ _,by simp⟩
    obtain rfl : j = 0 :=by omega
    exact ⟨⟨_,hc⟩,NF.made w _ _ _⟩
  · refine .inr ⟨_,0,rfl,fun j y hj => ?_⟩
    match j,hj with
    | 0,hj => simp at hj;subst hj;exact hc
theorem IntN.made (w : World) (x : Int) (u : Nat) (hu : u < W64) (hx : x.natAbs = u) (h0 : x ≠ 0) (v : Bool) (hv : v = decide (x < 0)) :
    IntN w ((w.alloc (.cells #[.int .u64 u] 109)).alloc (.cells #[.bool v,.slice (some ⟨w.heap.size,0,none⟩) 1 1] 112)) (w.heap.size + 1) x :=by
  subst hv
  have hs : (w.alloc (.cells #[.int .u64 u] 109)).heap.size = w.heap.size + 1 :=by simp
  refine ⟨some ⟨w.heap.size,0,none⟩,1,1,⟨?_,?_,?_,?_,?_⟩,by omega,?_⟩
  · rw [World.cell?_alloc_at _ _ _ _ hs.symm];rfl
  · rw [World.cell?_alloc_at _ _ _ _ hs.symm];rfl
  · rw [hx];exact NatAt.word w u hu (by omega) _
  · rw [← hs];exact NF.made _ _ _
  · intro a ha;simp only [Option.some.injEq] at ha;subst ha;show w.heap.size ≠ _;omega
  · intro a ha;simp only [Option.some.injEq] at ha;subst ha;exact Nat.le_refl _
theorem IntN.zero (w : World) : IntN w (w.alloc (.cells #[.bool false,.slice none 0 0] 112)) w.heap.size 0 :=by
  obtain ⟨z0,z1,zf⟩ :=ZeroInt.made w
  exact ⟨none,0,0,⟨z0,z1,sliceNil_nat (.inl ⟨rfl,rfl⟩) (by omega),zf,fun a h => by cases h⟩,Nat.le_refl _,fun a h => by cases h⟩
def NewInt (w : World) (X : Int) (e : Ending) (w' : World) : Prop :=∃ b,e = .returned (ptr b) ∧ IntN w w' b X ∧ Kept w w'
theorem int_new (w : World) (x : Int) (h1 : -9223372036854775808 ≤ x) (h2 : x ≤ 9223372036854775807) : Calls Tryz.prog 93 #[.int .i64 x] w (NewInt w x) :=by
  rcases Int.lt_trichotomy x 0 with hx | rfl | hx
  · obtain ⟨u,rfl⟩ : ∃ u : Nat,x = -(u : Int) :=⟨x.natAbs,by omega⟩
    have hwr : IntKind.u64.wrap (-IntKind.u64.wrap (-(u : Int))) = (u : Int) :=by simp [IntKind.wrap,IntKind.signed,IntKind.bits];omega
    go_enter Tryz.func93,Tryz.ntmps93
    go_wp2
    first | go_ret | refine ⟨_,results_tmp rfl _ _ _,?_⟩
    refine ⟨_,rfl,IntN.made w (-(u : Int)) u (by unfold W64;omega) (by omega) (by omega) _ (by first | (simp;done) | (simp;omega)),?_⟩
    exact Chg.trans (Chg.alloc _ _ None2) (Chg.alloc _ _ None2) fun _ _ _ h => h
  · go_enter Tryz.func93,Tryz.ntmps93
    go_wp2
    first | go_ret | refine ⟨_,results_tmp rfl _ _ _,?_⟩
    exact ⟨_,rfl,IntN.zero w,Chg.alloc _ _ _⟩
  · obtain ⟨u,rfl⟩ : ∃ u : Nat,x = (u : Int) :=⟨x.natAbs,by omega⟩
    go_enter Tryz.func93,Tryz.ntmps93
    go_wp2
    first | go_ret | refine ⟨_,results_tmp rfl _ _ _,?_⟩
    refine ⟨_,rfl,IntN.made w u u (by unfold W64;omega) (by omega) (by omega) _ (by first | (simp;done) | (simp;omega)),?_⟩
    exact Chg.trans (Chg.alloc _ _ None2) (Chg.alloc _ _ None2) fun _ _ _ h => h
end Go.Proofs.YtfmmdamgcpiciaaGreatDoor
