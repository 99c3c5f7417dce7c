/- A part of the proof, joined out of the texts C1; each theorem bears its own conditions. -/
import Derived.Carry
import Derived.Deep.DeepHandedRow
import Derived.Lay
import Derived.Lib.LaidU8
import Derived.Lib.SmallJoins
import Derived.OpenShut
import Derived.OpenVars
import Derived.ProofKit
import Derived.SevenTiedAt
import Derived.Test.YtfmmdamgcpiciaaGreatDoorCards
import Derived.WalkKit
import Derived.Test.YtfmmdamgcpiciaaGreatDoorT13
import Derived.Test.YtfmmdamgcpiciaaGreatDoorTie
set_option linter.unusedVariables false
set_option linter.unusedSimpArgs false
set_option linter.all false
set_option maxHeartbeats 9000000
set_option maxRecDepth 1000000
namespace Go.Proofs.YtfmmdamgcpiciaaGreatDoor
open Go Go.ChangeShapes Go.WideShapes Go.ChangeAt Go.RowKit Go.Lib
theorem sc_own : ownKnob Tryz.prog.godebug = none :=by kernel_rfl
theorem sc_laidOut : laidOutB Tryz.prog = true :=by kernel_rfl
theorem num_cell {w : World} {n : String} {g t : Nat} {x : Int} (h : VarReads Tryz.prog w n (.lit (.int .i64 x))) (hg : Tryz.prog.globalNamed n = some g) (ht : (Tryz.prog.globals[g]?).map (·.type) = some t) (hu : Tryz.prog.underlying t = some (.int .i64)) : w.cell? ⟨g,0,none⟩ = some (.int .i64 x) :=by
  obtain ⟨g',t',cs,fuel,p,h1,h2,h3,h4⟩ :=h
  obtain rfl :=Option.some.inj (hg.symm.trans h1)
  obtain rfl :=Option.some.inj (ht.symm.trans h2)
  obtain ⟨z,hc,hx,_⟩ :=DataW.trod_int hu h4
  have hz : x = z :=by simpa using congrArg Prod.fst hx
  subst hz
  rw [World.var?_cell hg h3 0,← Array.getElem?_toList,hc]
  rfl
theorem glob_of {w : World} (h : laidMet Tryz.prog Rows.fnDecSinRow.laid w) : Glob w :=
  ⟨num_cell (t := 3) (laidMet.reads h (n := "given.example/pub-alexandrine/pub/bigall.basicSqrThreshold") (d := Rows.laid_given_example_pub_alexandrine_pub_bigall_basicSqrThreshold) (by simp [Rows.fnDecSinRow])) (by kernel_rfl) (by kernel_rfl) Tryz.underlying3,
   num_cell (t := 3) (laidMet.reads h (n := "given.example/pub-alexandrine/pub/bigall.karatsubaSqrThreshold") (d := Rows.laid_given_example_pub_alexandrine_pub_bigall_karatsubaSqrThreshold) (by simp [Rows.fnDecSinRow])) (by kernel_rfl) (by kernel_rfl) Tryz.underlying3,
   num_cell (t := 3) (laidMet.reads h (n := "given.example/pub-alexandrine/pub/bigall.karatsubaThreshold") (d := Rows.laid_given_example_pub_alexandrine_pub_bigall_karatsubaThreshold) (by simp [Rows.fnDecSinRow])) (by kernel_rfl) (by kernel_rfl) Tryz.underlying3,
   num_cell (t := 3) (laidMet.reads h (n := "given.example/pub-alexandrine/pub/bigall.divRecursiveThreshold") (d := Rows.laid_given_example_pub_alexandrine_pub_bigall_divRecursiveThreshold) (by simp [Rows.fnDecSinRow])) (by kernel_rfl) (by kernel_rfl) Tryz.underlying3⟩
theorem pow10_data : (Rows.laid_internal_strconv_uint64pow10 : DataW Unit) = tabData .u64 ((List.range 20).map fun i => ((10 ^ i : Nat) : Int)) :=by kernel_rfl
theorem globF_of {w : World} (h : laidMet Tryz.prog Rows.fnDecSinRow.laid w) : GlobF w :=by
  have hten : TenAt w :=by
    intro j hj
    obtain ⟨g, t, cs, fuel, p, hg, hty, hvar, hd⟩ := laidMet.reads h (n := "internal/strconv.uint64pow10") (d := Rows.laid_internal_strconv_uint64pow10) (by simp [Rows.fnDecSinRow])
    obtain rfl := Option.some.inj ((show Tryz.prog.globalNamed "internal/strconv.uint64pow10" = some 7 by kernel_rfl).symm.trans hg)
    obtain rfl :=Option.some.inj ((show (Tryz.prog.globals[7]?).map (·.type) = some 242 by kernel_rfl).symm.trans hty)
    rw [pow10_data] at hd
    have hcs :=cells_of_tab Tryz.underlying242 Tryz.underlying69 (by kernel_rfl) (by kernel_rfl) hd
    rw [World.var?_cell hg hvar j,← Array.getElem?_toList,hcs]
    simp [hj]
  have htab : ∀ i hi lo : Nat,Go.Pinned.pow10Rows[i]? = some (hi,lo) → TabAt w i hi lo :=by
    intro i hi lo hr
    obtain ⟨g, t, cs, fuel, p, hg, hty, hvar, hd⟩ := laidMet.reads h (n := "internal/strconv.pow10Tab") (d := Rows.laid_internal_strconv_pow10Tab) (by simp [Rows.fnDecSinRow])
    obtain rfl := Option.some.inj ((show Tryz.prog.globalNamed "internal/strconv.pow10Tab" = some 8 by kernel_rfl).symm.trans hg)
    obtain rfl :=Option.some.inj ((show (Tryz.prog.globals[8]?).map (·.type) = some 260 by kernel_rfl).symm.trans hty)
    have hlen : Go.Pinned.pow10Rows.length = 696 :=by kernel_rfl
    have hi696 : i < 696 :=by rw [← hlen];exact (List.getElem?_eq_some_iff.1 hr).1
    have hd' : DataW.trod (fun _ => ()) Tryz.prog w 0 (fun _ => true) false fuel 260 cs.toList = some (.agg (Go.Pinned.pow10Rows.map fun x => .agg [.lit (.int .u64 x.1),.lit (.int .u64 x.2)]),p) :=hd
    obtain ⟨fuel',d,q,hdi,he⟩ :=array_elem Tryz.underlying260 hd' i hi696
    rw [List.getElem?_map,hr] at hdi
    obtain rfl :=Option.some.inj hdi
    have c2 : Tryz.prog.cellsOf 259 = 2 :=by kernel_rfl
    rw [c2] at he
    have hcs :=ints_of_struct (k :=.u64) (zs :=[(hi : Int),(lo : Int)]) Tryz.underlying259 (fun j f hj => by
      match j,hj with
      | 0,hj => simp at hj;subst hj;exact ⟨Tryz.underlying69,rfl,by kernel_rfl⟩
      | 1,hj => simp at hj;subst hj;exact ⟨Tryz.underlying69,rfl,by kernel_rfl⟩
      | j + 2,hj => simp at hj) (by rw [c2];rfl) he
    have e0 :=congrArg (·[0]?) hcs
    have e1 :=congrArg (·[1]?) hcs
    simp only [List.getElem?_take,List.getElem?_drop] at e0 e1
    constructor
    · rw [World.var?_cell hg hvar (i * 2),← Array.getElem?_toList]
      simpa using e0
    · rw [World.var?_cell hg hvar (i * 2 + 1),← Array.getElem?_toList]
      simpa using e1
  exact ⟨htab,hten,lt_of_cell (htab 0 _ _ rfl).1⟩
theorem sc_contract (H : Type) (enc : TypeId × Value → H) (W : World) (base : Nat) (args : Array Value) (ds gs : List (DataW H)) (before : List MemPlace)
    (hval0 : ∀ (j : Nat) t v,Tryz.f3.params[j]? = some t → args[j]? = some v → Value.okWide Tryz.prog W .any base t v)
    (hW : DataW.Whole enc Tryz.prog Tryz.f3.params.toList Rows.fnDecSinSpec.vars false W args.toList ds gs before) (hL : laidMetH Tryz.prog Rows.fnDecSinRow.laid W) :
    Calls Tryz.prog 3 args W fun e W' => ∃ v,e = .returned v ∧ Rows.fnDecSinSpec.post enc Tryz.prog Tryz.f3 false true false false W args v W' :=by
  have hval : ∀ (j : Nat) t v,Tryz.f3.params[j]? = some t → args[j]? = some v → Value.okWide Tryz.prog W .any base t v :=hval0
  have hW' :=hW
  obtain ⟨p,q,hA0,hV,rfl,hfz,hnd⟩ :=hW
  have hA : DataW.TrodAll enc Tryz.prog W 0 (fun _ => true) true Tryz.f3.params.toList args.toList ds p :=hA0
  rw [Tryz.params3] at hA hval
  obtain ⟨v0,d0,rfl,rfl,h0⟩ :=trodAll_one hA
  have h0k :=h0
  obtain ⟨c0,c1,y0,y1,n,rfl,hd0,hp,r0,r1⟩ :=Go.Joins.open_agg2 Tryz.underlying23 (by kernel_rfl) (by kernel_rfl) (hval 0 23 v0 rfl rfl) h0
  obtain ⟨s,hc,hx,hs⟩ :=DataW.trod_string Tryz.underlying9 r0
  obtain ⟨z,hc1,hx1,hz⟩ :=DataW.trod_int Tryz.underlying3 r1
  obtain rfl : c0 = .string s :=by simpa using hc
  obtain rfl : c1 = .int .i64 z :=by simpa using hc1
  obtain ⟨g1,g2,g3,g4,rfl⟩ : ∃ g1 g2 g3 g4,gs = [g1,g2,g3,g4] :=by
    have hV' :=hV
    match gs,hV' with
    | [g1,g2,g3,g4],_ => exact ⟨g1,g2,g3,g4,rfl⟩
    | [],hV' => exact hV'.elim
    | [_],hV' => obtain ⟨_,_,_,_,_,_,_,_,_,_,h,_⟩ :=hV';exact h.elim
    | [_,_],hV' => obtain ⟨_,_,_,_,_,_,_,_,_,_,⟨_,_,_,_,_,_,_,_,_,_,h,_⟩,_⟩ :=hV';exact h.elim
    | [_,_,_],hV' => obtain ⟨_,_,_,_,_,_,_,_,_,_,⟨_,_,_,_,_,_,_,_,_,_,⟨_,_,_,_,_,_,_,_,_,_,h,_⟩,_⟩,_⟩ :=hV';exact h.elim
    | _ :: _ :: _ :: _ :: _ :: _,hV' => obtain ⟨_,_,_,_,_,_,_,_,_,_,⟨_,_,_,_,_,_,_,_,_,_,⟨_,_,_,_,_,_,_,_,_,_,⟨_,_,_,_,_,_,_,_,_,_,h,_⟩,_⟩,_⟩,_⟩ :=hV';exact h.elim
  have hlt : ∀ x ∈ p,x.block < W.heap.size :=fun x hx => by simpa using hW'.lt x (by simp [hx])
  have hL' :=hL
  rw [MakeChecks.laidMetH_plain _ _ _ (by kernel_rfl)] at hL'
  refine (fnDecSin W (glob_of hL') (globF_of hL') s z).mono fun e W' ⟨he,hk⟩ => ?_
  subst he
  have hb : Below W.heap.size W W' :=hk.old
  exact ⟨_,rfl,_,_,_,[],p,q,hW',trodAll_mk1 (shut_bool Tryz.underlying4 _),trodAll_mk1 (Below.trod sc_laidOut (by kernel_rfl) (of_decide_eq_true (by kernel_rfl)) h0k hb hlt),Below.trodVars sc_laidOut hb (by kernel_rfl) hV,hb.frame _,fun h => by cases h⟩
def sc_args : Array Value :=#[.agg #[.string { data :=#[] },.int .i64 0]]
noncomputable def sc_world (os : Os) : World :=World.laidAll Tryz.prog os Rows.fnDecSinRow.laid
set_option maxRecDepth 100000
theorem sc_f1 (os : Os) : ((sc_world os).forCall (fun _ _ => 0) ⟨#[],sc_args,[]⟩).variablesZipB Tryz.prog = true :=by kernel_rfl
theorem sc_f2 (os : Os) : ((((sc_world os).forCall (fun _ _ => 0) ⟨#[],sc_args,[]⟩)).heap.toList.drop Tryz.prog.globals.size).take ((begin Tryz.prog (fun _ _ => 0) default).world.heap.size - Tryz.prog.globals.size) =
    (begin Tryz.prog (fun _ _ => 0) default).world.heap.toList.drop Tryz.prog.globals.size :=by kernel_rfl
theorem sc_f3 (os : Os) : Input.okWideB Tryz.prog ((sc_world os).forCall (fun _ _ => 0) ⟨#[],sc_args,[]⟩) 3 ⟨#[],sc_args,[]⟩ = true :=by kernel_rfl
theorem sc_f4 (os : Os) (H : Type) (enc : TypeId × Value → H) : Rows.fnDecSinSpec.preB enc Tryz.prog Tryz.f3 [] false ((sc_world os).forCall (fun _ _ => 0) ⟨#[],sc_args,[]⟩).memory sc_args 8 = true :=by kernel_rfl
theorem sc_f5 (os : Os) (H : Type) (enc : TypeId × Value → H) : Rows.fnDecSinSpec.sizedB enc Tryz.prog Tryz.f3 false ((sc_world os).forCall (fun _ _ => 0) ⟨#[],sc_args,[]⟩).memory sc_args 8 = true :=by kernel_rfl
theorem sc_f6 : (Rows.fnDecSinRow.laid.all fun x => x.2.handleName?.isNone) = true :=by kernel_rfl
theorem sc_f7 (os : Os) : (World.holding Tryz.prog os ⟨#[],#[],[]⟩).layFits Tryz.prog Rows.fnDecSinRow.laid [] = true :=by kernel_rfl
theorem sc_f8 (os : Os) : (World.holding Tryz.prog os ⟨#[],#[],[]⟩).layIfaces Tryz.prog Rows.fnDecSinRow.laid (World.laidAll Tryz.prog os Rows.fnDecSinRow.laid) = true :=by kernel_rfl
theorem sc_met (os : Os) : laidMetH Tryz.prog Rows.fnDecSinRow.laid ((sc_world os).forCall (fun _ _ => 0) ⟨#[],sc_args,[]⟩).memory :=by
  rw [MakeChecks.laidMetH_plain _ _ _ sc_f6]
  exact laidMet_laidAll sc_args (sc_f7 os) (sc_f8 os)
theorem sc_witness (os : Os) (H : Type) (enc : TypeId × Value → H) : ∃ (w : World) (tape : Tape) (i : Input),w.os = os ∧ (w.forCall tape i).Shaped Tryz.checked.prog ∧ i.vars = [] ∧ Input.okWide Tryz.checked.prog (w.forCall tape i) .any w.heap.size 3 i ∧
      ((Rows.fnDecSinSpec.pre enc Tryz.checked.prog Tryz.f3 [] false (w.forCall tape i).memory i.args ∧ laidMetH Tryz.prog Rows.fnDecSinRow.laid (w.forCall tape i).memory) ∧ sizedMet enc Tryz.checked.prog Tryz.f3 (OpenSpec.ofChange Rows.fnDecSinSpec) false (w.forCall tape i).memory i.args) ∧ ({ modest :=false } : Assume).holds Tryz.checked.prog (lone (Frame.enter Tryz.checked.prog 3 i.args .normal) [] (w.forCall tape i)) :=
  ChangeSpec.witness_shaped (enc :=enc) (C :=Tryz.checked) (os :=os) (X :=fun w _ => laidMetH Tryz.prog Rows.fnDecSinRow.laid w) false (sc_world os) sc_args 8 (World.laidAll_os _ _ _)
    (World.shaped_of_ZipB (sc_f1 os) (sc_f2 os)) (sc_f3 os) (sc_f4 os H enc) (sc_f5 os H enc) (sc_met os)
theorem sc_lifted (os : Os) (started : os.Started) (H : Type) (enc : TypeId × Value → H) :
    ReturnsInHanded {} Tryz.checked os 3 .any (fun w args => (Rows.fnDecSinSpec.pre enc Tryz.prog Tryz.f3 [] false w args ∧ laidMetH Tryz.prog Rows.fnDecSinRow.laid w) ∧ sizedMet enc Tryz.prog Tryz.f3 (OpenSpec.ofChange Rows.fnDecSinSpec) false w args)
      (Rows.fnDecSinSpec.post enc Tryz.prog Tryz.f3 false true false false) :=by
  refine returnsInHanded_of_change_and (C :=Tryz.checked) (X :=fun w _ => laidMetH Tryz.prog Rows.fnDecSinRow.laid w) (fun _ _ _ hh h => h.of_heap hh) sc_own started (by kernel_rfl) Tryz.func3 (sc_witness os H enc) ?_
  intro W base args ds gs before hval hW _ _ hL _
  exact sc_contract H enc W base args ds gs before hval hW hL
theorem sc_g1 : Tryz.pinned.checked.prog.funcNamed Rows.fnDecSinRow.func = some 3 :=by kernel_rfl
theorem sc_g2 : joinedFacts Tryz.pinned.checked.prog 3 Tryz.f3 Rows.fnDecSinSpec Rows.fnDecSinRow = true :=by kernel_rfl
theorem sc_g3 : Tryz.f3.isInstance Tryz.pinned.checked.prog Rows.fnDecSinRow.origin Rows.fnDecSinRow.targs :=of_decide_eq_true (by kernel_rfl)
theorem sc_g4 : Tryz.f3.isWrapper Tryz.pinned.checked.prog Rows.fnDecSinRow.wrapper Rows.fnDecSinRow.mainSum :=by unfold Func.isWrapper;first | (rw [if_pos (by decide +kernel)];kernel_rfl) | (rw [if_neg (by decide +kernel)];exact ⟨rfl,rfl⟩)
theorem sin_said : Rows.FnDecSinSaid :=
  OpenClaim.holds_of_wide 3 Tryz.f3 rfl rfl rfl rfl rfl rfl rfl ⟨rfl,rfl,rfl,rfl,rfl⟩ rfl rfl rfl rfl rfl sc_g1 Tryz.func3 sc_g2 sc_g3 sc_g4
    (fun os started H enc _ => sc_lifted os started H enc)
theorem sc_plain (f : FuncId) (fn : Func) (hf : Tryz.pinned.checked.prog.funcNamed "given.example/pub-alexandrine/laws.FnDecSin" = some f) (hfn : Tryz.pinned.checked.prog.funcs[f]? = some fn) :
    false = Tryz.pinned.checked.prog.looks [] ∧ ∀ (j : Nat) t,fn.params[j]? = some t → Tryz.pinned.checked.prog.wantsStandIn t = false :=by
  obtain rfl : f = 3 := Option.some.inj ((show Tryz.prog.funcNamed "given.example/pub-alexandrine/laws.FnDecSin" = some 3 by kernel_rfl).symm.trans hf) |>.symm
  obtain rfl : fn = Tryz.f3 :=(Option.some.inj (Tryz.func3.symm.trans hfn)).symm
  refine ⟨by kernel_rfl,fun j t ht => ?_⟩
  rw [Tryz.params3] at ht
  obtain rfl : t = 23 :=by simpa using Array.mem_of_getElem? ht
  exact (show Tryz.prog.wantsStandIn 23 = false by kernel_rfl)
theorem fnDecSin_card : Rows.FnDecSinCardSaid :=
  Claim7.holds_tied_plain_at .later [] _ _ _ _ sin_said (fun _ h => by cases h) (by kernel_rfl) (fun _ h => by cases h) fnDecSin_row_tie rfl ⟨rfl,rfl⟩ (by kernel_rfl) rfl sc_plain (by kernel_rfl)
end Go.Proofs.YtfmmdamgcpiciaaGreatDoor
