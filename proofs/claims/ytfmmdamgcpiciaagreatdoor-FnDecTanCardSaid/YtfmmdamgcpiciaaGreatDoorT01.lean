/- A part of the proof, joined out of the texts A0, A1, A2, A3, A4, A5, G1, A6; each theorem bears its own conditions. -/
import Derived.Below
import Derived.BigQuiet
import Derived.Deep.QuietTactic
import Derived.Laws.IdiomCopy
import Derived.Lib.Hide
import Derived.Orders
import Derived.Outline
import Derived.Shelf.Bits.Mul64
import Derived.Test.YtfmmdamgcpiciaaGreatDoorProg
import Derived.WalkKit
set_option linter.unusedVariables false
set_option linter.unusedSimpArgs false
set_option linter.all false
set_option maxHeartbeats 9000000
set_option exponentiation.threshold 400000
set_option maxRecDepth 1000000
namespace Go.Proofs.YtfmmdamgcpiciaaGreatDoor
open Go Go.RowKit
section
variable {P : Program}
def Stab {α : Type} (P : Program) (R : World → World → Prop) (s : Sem α) : Prop :=
  ∀ w x w1,s.run P w = .ok x w1 → w1 = w ∧ ∀ w',R w w' → s.run P w' = .ok x w'
theorem Stab.pure {α : Type} {R : World → World → Prop} (x : α) : Stab P R (Pure.pure x : Sem α) :=by
  intro w y w1 h
  simp only [Sem.run_pure,Result.ok.injEq] at h
  obtain ⟨rfl,rfl⟩ :=h
  exact ⟨rfl,fun w' _ => by simp⟩
theorem Stab.halt {α : Type} {R : World → World → Prop} (x : Halt) : Stab P R (Sem.halt x : Sem α) :=by
  intro w y w1 h
  simp [Sem.run] at h
theorem Stab.bind {α β : Type} {R : World → World → Prop} {s : Sem α} {f : α → Sem β} (hs : Stab P R s) (hf : ∀ x,Stab P R (f x)) : Stab P R (s >>= f) :=by
  intro w y w1 h
  rw [Sem.run_bind] at h
  cases hr : s.run P w with
  | halt x w2 => rw [hr] at h;simp [Result.andThen] at h
  | ok x w2 =>
    rw [hr] at h
    simp only [Result.andThen] at h
    obtain ⟨rfl,h1⟩ :=hs _ _ _ hr
    obtain ⟨rfl,h2⟩ :=hf x _ _ _ h
    exact ⟨rfl,fun w' hw => by rw [Sem.run_bind,h1 w' hw];exact h2 w' hw⟩
theorem Stab.program {α : Type} {R : World → World → Prop} {k : Program → Sem α} (h : ∀ p,Stab P R (k p)) : Stab P R (Sem.program k) :=
  fun w y w1 hr => h P w y w1 (by simpa [Sem.run] using hr) |>.imp id fun h2 w' hw => by simpa [Sem.run] using h2 w' hw
theorem Stab.prog {R : World → World → Prop} : Stab P R Go.program :=Stab.program fun p => Stab.pure p
def Never {α : Type} (P : Program) (s : Sem α) : Prop :=∀ w x w1,s.run P w ≠ .ok x w1
theorem Never.stab {α : Type} {R : World → World → Prop} {s : Sem α} (h : Never P s) : Stab P R s :=fun w x w1 hr => absurd hr (h w x w1)
theorem Never.halt {α : Type} (x : Halt) : Never P (Sem.halt x : Sem α) :=fun _ _ _ h => by simp [Sem.run] at h
theorem Never.bind {α β : Type} {s : Sem α} {f : α → Sem β} (h : ∀ x,Never P (f x)) : Never P (s >>= f) :=by
  intro w x w1 hr
  rw [Sem.run_bind] at hr
  cases hs : s.run P w with
  | halt y w2 => rw [hs] at hr;simp [Result.andThen] at hr
  | ok y w2 => rw [hs] at hr;simp only [Result.andThen] at hr;exact h y _ _ _ hr
theorem never_runtimePanic {α : Type} (e : RuntimeError) : Never P (runtimePanic e : Sem α) :=by
  unfold runtimePanic
  refine Never.bind fun p => ?_
  cases e
  all_goals first
    | exact Never.halt _
    | exact Never.bind fun _ => Never.bind fun _ => Never.halt _
theorem never_boundsPanic {α : Type} (k : IntKind) (x y : Int) (c : BoundsCode) : Never P (boundsPanic k x y c : Sem α) :=by
  unfold boundsPanic
  dsimp only
  split <;> exact Never.bind fun _ => never_runtimePanic _
theorem stab_asIntOf {R : World → World → Prop} (v : Value) : Stab P R (asIntOf v) :=by
  unfold asIntOf
  split
  · exact Stab.pure _
  · exact Stab.halt _
  · exact Stab.halt _
theorem stab_underlying {R : World → World → Prop} (t : TypeId) : Stab P R (underlying t) :=by
  unfold underlying
  refine Stab.bind Stab.prog fun p => ?_
  split
  · exact Stab.pure _
  · exact Stab.halt _
theorem stab_typeInfo {R : World → World → Prop} (t : TypeId) : Stab P R (typeInfo t) :=by
  unfold typeInfo
  refine Stab.bind Stab.prog fun p => ?_
  split
  · exact Stab.pure _
  · exact Stab.halt _
theorem stab_sizeOf {R : World → World → Prop} (t : TypeId) : Stab P R (sizeOf t) :=Stab.bind (stab_typeInfo t) fun _ => Stab.pure _
theorem stab_isAgg {R : World → World → Prop} (t : TypeId) : Stab P R (isAgg t) :=by
  unfold isAgg
  refine Stab.bind (stab_underlying t) fun d => ?_
  split <;> exact Stab.pure _
theorem stab_zeroValue {R : World → World → Prop} (t : TypeId) : Stab P R (zeroValue t) :=by
  unfold zeroValue
  refine Stab.bind (stab_typeInfo t) fun d => ?_
  split
  · exact Stab.pure _
  · exact Stab.halt _
theorem stab_sureAddr {R : World → World → Prop} (v : Value) : Stab P R (Instr.sureAddr v) :=by
  unfold Instr.sureAddr
  split
  · exact Stab.pure _
  · exact Stab.halt _
theorem stab_asAgg {R : World → World → Prop} (v : Value) : Stab P R (asAgg v) :=by
  unfold asAgg
  split
  · exact Stab.pure _
  · exact Stab.halt _
theorem stab_part {R : World → World → Prop} (t : TypeId) (cs : Array Value) (off : Nat) : Stab P R (part t cs off) :=by
  unfold part
  refine Stab.bind (stab_isAgg t) fun b => ?_
  split
  · exact Stab.bind (stab_sizeOf t) fun _ => Stab.pure _
  · split
    · exact Stab.pure _
    · exact Stab.halt _
theorem stab_ite {α : Type} {R : World → World → Prop} {c : Prop} [Decidable c] {s t : Sem α} (hs : Stab P R s) (ht : Stab P R t) : Stab P R (if c then s else t) :=by
  split
  · exact hs
  · exact ht
theorem stab_sliceBound {R : World → World → Prop} (x : Value) (y : Nat) (c : BoundsCode) : Stab P R (Instr.sliceBound x y c) :=by
  unfold Instr.sliceBound
  exact Stab.bind (stab_asIntOf x) fun p => stab_ite (Stab.pure _) (never_boundsPanic _ _ _ _).stab
theorem stab_sliceBounds {R : World → World → Prop} (b : Bool) (l c : Nat) (lo hi mx : Option Value) : Stab P R (Instr.sliceBounds b l c lo hi mx) :=by
  unfold Instr.sliceBounds
  dsimp only
  repeat' first | exact Stab.pure _ | exact Stab.halt _ | exact stab_sliceBound _ _ _ | (refine Stab.bind ?_ fun _ => ?_) | split
theorem stab_load (a : Addr) (m : Go.Mode) : Stab P (fun w w' => Below w.heap.size w w') (Go.load a m) :=by
  intro w x w1 h
  have hblk : ∀ {w w' : World},Below w.heap.size w w' → ∀ b,(w.heap[b]?).isSome = true → w'.heap[b]? = w.heap[b]? :=fun {w w'} hb b hs =>
    hb.block b (by rcases Nat.lt_or_ge b w.heap.size with h | h
                   · exact h
                   · simp [Array.getElem?_eq_none h] at hs)
  unfold Go.load at h
  simp only [Sem.run] at h
  cases hc : w.cell? a with
  | some v =>
    rw [hc] at h
    simp only [Result.ok.injEq] at h
    obtain ⟨rfl,rfl⟩ :=h
    refine ⟨rfl,fun w' hb => ?_⟩
    have hs : (w.heap[a.block]?).isSome = true :=by
      unfold World.cell? at hc
      split at hc
      · rename_i h0;simp [h0]
      · cases hc
    have : w'.cell? a = some v :=by rw [← hc];unfold World.cell?;rw [hblk hb _ hs]
    simp [Go.load,Sem.run,this]
  | none =>
    rw [hc] at h
    cases hf : w.farLoad P a (m == .atomic) with
    | error e => rw [hf] at h;simp at h
    | ok r =>
      obtain ⟨v,es⟩ :=r
      rw [hf] at h
      simp only [Result.ok.injEq] at h
      obtain ⟨rfl,rfl⟩ :=h
      refine ⟨rfl,fun w' hb => ?_⟩
      unfold World.farLoad at hf
      split at hf
      · rename_i at_ u hv
        have hs : (w.heap[a.block]?).isSome = true :=by simp [hv]
        have hv' : w'.heap[a.block]? = some (.view at_ u) :=by rw [hblk hb _ hs,hv]
        have hc' : w'.cell? a = none :=by unfold World.cell?;rw [hv']
        have hsee : w'.viewLoad P at_ u a (m == .atomic) = w.viewLoad P at_ u a (m == .atomic) :=by
          cases hw : w.heap[at_.block]? with
          | some o =>
            have : w'.heap[at_.block]? = w.heap[at_.block]? :=hblk hb _ (by simp [hw])
            unfold World.viewLoad World.seen
            rw [this]
          | none =>
            exfalso
            unfold World.viewLoad World.seen at hf
            have hth : ∀ {α : Type} (e : String),(MonadExcept.throw e : Except String α) = .error e :=fun _ => rfl
            simp only [hw,bind,Except.bind,pure,Except.pure,hth] at hf
            by_cases hsp : (a.spot.isSome || at_.spot.isSome) = true
            · simp only [hsp,if_true] at hf
              cases hf
            · simp only [hsp,Bool.false_eq_true,if_false] at hf
              cases h1 : plainCell P P.depth u a.off with
              | none => simp only [h1] at hf;cases hf
              | some like =>
                simp only [h1] at hf
                cases h2 : Option.map (fun x : List UInt8 => x.length) like.bytes? with
                | none => simp only [h2] at hf;cases hf
                | some sz =>
                  simp only [h2] at hf
                  cases h3 : byteOfCell P P.depth u a.off with
                  | none => simp only [h3] at hf;cases hf
                  | some be => simp only [h3] at hf;cases hf
        have hf' : w'.farLoad P a (m == .atomic) = .ok (v,es) :=by
          unfold World.farLoad
          rw [hv']
          simp only [hsee]
          exact hf
        simp [Go.load,Sem.run,hc',hf']
      · cases hf
theorem stab_loadCellsFrom (a : Addr) : ∀ (n i : Nat) (acc : Array Value),Stab P (fun w w' => Below w.heap.size w w') (loadCellsFrom a i n acc)
  | 0,_,_ => Stab.pure _
  | n + 1,i,acc => by
    unfold loadCellsFrom
    exact Stab.bind (stab_load _ _) fun v => stab_loadCellsFrom a n (i + 1) (acc.push v)
theorem stab_loadVar (t : TypeId) (a : Addr) : Stab P (fun w w' => Below w.heap.size w w') (loadVar t a) :=by
  unfold loadVar
  refine Stab.bind (stab_isAgg t) fun b => ?_
  split
  · exact Stab.bind (stab_sizeOf t) fun n => Stab.bind (stab_loadCellsFrom a n 0 #[]) fun _ => Stab.pure _
  · exact stab_load _ _
def kindOf (P : Program) (o : Oper) : Nat :=
  match o.op with
  | .move _ | .assign _ | .pick .. | .extract .. | .unOp .. | .indexAddr .. | .index .. | .field .. | .build .. => 0
  | .nilCheck _ => 1
  | .fieldAddr s _ f => match P.underlying s with
    | some (.struct fs) => match fs[f]? with
      | some x => if (P.info? x.type).any (·.size != 0) then 0 else 3
      | none => 3
    | _ => 3
  | .slice t .. => match P.underlying t with
    | some (.slice _) | some .string | some (.array ..) => 0
    | _ => 3
  | .binOp _ t .. => match P.underlying t with
    | some (.pointer _) => 3
    | _ => 1
  | .convert .. => 1
  | .load .. => 2
  | .call { callee :=.builtin .len,argTypes,.. } | .call { callee :=.builtin .cap,argTypes,.. } => match (argTypes[0]?).bind P.underlying with
    | some (.slice _) | some .string | some (.array ..) => 0
    | _ => 3
  | _ => 3
def fineAt (P : Program) (ρ : Operand → Value) (o : Oper) : Bool :=
  match o.op with
  | .nilCheck x => match ρ x with
    | .pointer (some _) => true
    | _ => false
  | .binOp b _ x y _ => match ρ x,ρ y with
    | .int ..,.int .. => true
    | .bool _,.bool _ => true
    | .string _,.string _ => match b with
      | .eql => true
      | .neq => true
      | _ => false
    | _,_ => false
  | .convert _ d x => match P.underlying d,ρ x with
    | some (.int _),.int .. => true
    | some (.float _),.int .. => true
    | _,_ => false
  | _ => true
def StabV (P : Program) (R : World → World → Prop) (s : Sem Next) : Prop :=
  ∀ w n w1,s.run P w = .ok n w1 → (∃ v,n = .value v) ∧ w1 = w ∧ ∀ w',R w w' → s.run P w' = .ok n w'
theorem Stab.val {R : World → World → Prop} {s : Sem Value} (h : Stab P R s) : StabV P R (s >>= fun x => Pure.pure (Next.value x)) :=by
  intro w n w1 hr
  obtain ⟨h1,h2⟩ :=(Stab.bind h fun v => Stab.pure (Next.value v)) w n w1 hr
  refine ⟨?_,h1,h2⟩
  rw [Sem.run_bind] at hr
  cases hs : s.run P w with
  | halt x w2 => rw [hs] at hr;simp [Result.andThen] at hr
  | ok x w2 => rw [hs] at hr;simp [Result.andThen] at hr;exact ⟨x,hr.1.symm⟩
theorem StabV.of {R : World → World → Prop} {s : Sem Next} (h : Stab P R s) (hv : ∀ w n w1,s.run P w = .ok n w1 → ∃ v,n = .value v) : StabV P R s :=
  fun w n w1 hr => ⟨hv w n w1 hr,h w n w1 hr⟩
theorem StabV.value {R : World → World → Prop} (v : Value) : StabV P R (Pure.pure (Next.value v)) :=
  StabV.of (Stab.pure _) fun w n w1 hr => by simp at hr;exact ⟨v,hr.1.symm⟩
theorem stab_extract {R : World → World → Prop} (t : Value) (i : Nat) : Stab P R (Instr.extract t i) :=by
  unfold Instr.extract
  repeat' first | exact Stab.pure _ | exact Stab.halt _ | split
theorem stab_intArith {R : World → World → Prop} (op : BinOp) (k : IntKind) (x y : Int) : Stab P R (Op.intArith op k x y) :=by
  unfold Op.intArith;split <;> first | exact Stab.pure _ | exact Stab.halt _
theorem stab_intDiv {R : World → World → Prop} (op : BinOp) (k : IntKind) (x y : Int) : Stab P R (Op.intDiv op k x y) :=by
  unfold Op.intDiv;split
  · exact (never_runtimePanic _).stab
  · split <;> first | exact Stab.pure _ | exact Stab.halt _
theorem stab_intBits {R : World → World → Prop} (op : BinOp) (k : IntKind) (x y : Int) : Stab P R (Op.intBits op k x y) :=by
  unfold Op.intBits;dsimp only;split <;> first | exact Stab.pure _ | exact Stab.halt _
theorem stab_intCmp {R : World → World → Prop} (op : BinOp) (x y : Int) : Stab P R (Op.intCmp op x y) :=by
  unfold Op.intCmp;split <;> first | exact Stab.pure _ | exact Stab.halt _
theorem stab_shift {R : World → World → Prop} (op : BinOp) (k : IntKind) (x : Int) (j : IntKind) (y : Int) : Stab P R (Op.shift op k x j y) :=by
  unfold Op.shift;split
  · exact (never_runtimePanic _).stab
  · dsimp only;split <;> first | exact Stab.pure _ | exact Stab.halt _
theorem stab_unary {R : World → World → Prop} (op : UnOp) (x : Value) : Stab P R (Op.unary op x) :=by
  unfold Op.unary;split <;> first | exact Stab.pure _ | exact Stab.halt _ | exact stab_intArith _ _ _ _ | exact stab_intBits _ _ _ _
theorem stab_equal_bool {R : World → World → Prop} (t : TypeId) (a b : Bool) : Stab P R (Op.equal t (.bool a) (.bool b)) :=by
  show Stab P R (Op.equalIn (9999 + 1) t (.bool a) (.bool b))
  unfold Op.equalIn
  refine Stab.bind (stab_underlying t) fun d => ?_
  cases d <;> first | exact Stab.pure _ | exact Stab.halt _
theorem stab_eqGuard_int {R : World → World → Prop} (op : BinOp) (t : TypeId) (x y : Operand) (j k : IntKind) (a b : Int) : Stab P R (eqGuard op t x y (.int j a) (.int k b)) :=by
  unfold eqGuard
  dsimp only
  split <;> exact Stab.pure _
theorem stab_eqGuard_bool {R : World → World → Prop} (op : BinOp) (t : TypeId) (x y : Operand) (a b : Bool) : Stab P R (eqGuard op t x y (.bool a) (.bool b)) :=by
  unfold eqGuard
  dsimp only
  split <;> exact Stab.pure _
theorem stab_eqGuard_string {R : World → World → Prop} (op : BinOp) (t : TypeId) (x y : Operand) (a b : ByteArray) : Stab P R (eqGuard op t x y (.string a) (.string b)) :=by
  unfold eqGuard
  dsimp only
  split <;> exact Stab.pure _
theorem stab_binOp_int {R : World → World → Prop} (op : BinOp) (t : TypeId) (j k : IntKind) (a b : Int) : Stab P R (binOp op t (.int j a) (.int k b)) :=by
  unfold binOp
  cases op <;> dsimp only <;> first
    | exact stab_shift _ _ _ _ _
    | (split;exact Stab.halt _;first | exact stab_intArith _ _ _ _ | exact stab_intDiv _ _ _ _ | exact stab_intBits _ _ _ _ | exact stab_intCmp _ _ _)
theorem stab_binOp_string {R : World → World → Prop} (op : BinOp) (t : TypeId) (a b : ByteArray) (h : op = .eql ∨ op = .neq) : Stab P R (binOp op t (.string a) (.string b)) :=by
  rcases h with rfl | rfl
  · rw [binOp_string_eql];exact Stab.pure _
  · rw [binOp_string_neq];exact Stab.pure _
theorem stab_binOp_bool {R : World → World → Prop} (op : BinOp) (t : TypeId) (a b : Bool) : Stab P R (binOp op t (.bool a) (.bool b)) :=by
  unfold binOp
  cases op <;> dsimp only <;> first | exact Stab.halt _ | exact Stab.bind (stab_equal_bool _ _ _) fun _ => Stab.pure _
theorem stab_convert_int {R : World → World → Prop} (s d : TypeId) (j k : IntKind) (n : Int) (h : P.underlying d = some (.int k)) : Stab P R (convert s d (.int j n)) :=by
  unfold convert
  intro w x w1
  revert w x w1
  refine Stab.bind (stab_underlying s) fun ds => ?_
  intro w x w1 hr
  rw [Sem.run_bind,run_underlying h] at hr
  have : (Conv.intToInt k n).run P w = .ok x w1 :=by
    simp only [Result.andThen] at hr
    cases ds <;> exact hr
  simp [Conv.intToInt] at this
  obtain ⟨rfl,rfl⟩ :=this
  refine ⟨rfl,fun w' _ => ?_⟩
  rw [Sem.run_bind,run_underlying h]
  simp only [Result.andThen]
  cases ds <;> simp [Conv.intToInt]
theorem stab_convert_float {R : World → World → Prop} (s d : TypeId) (j : IntKind) (k : FloatKind) (n : Int) (h : P.underlying d = some (.float k)) : Stab P R (convert s d (.int j n)) :=by
  unfold convert
  refine Stab.bind (stab_underlying s) fun ds => ?_
  intro w x w1 hr
  rw [Sem.run_bind,run_underlying h] at hr
  have : (Conv.intToFloat k n).run P w = .ok x w1 :=by
    simp only [Result.andThen] at hr
    cases ds <;> exact hr
  simp [Conv.intToFloat] at this
  obtain ⟨rfl,rfl⟩ :=this
  refine ⟨rfl,fun w' _ => ?_⟩
  rw [Sem.run_bind,run_underlying h]
  simp only [Result.andThen]
  cases ds <;> simp [Conv.intToFloat]
theorem stab_indexAt {R : World → World → Prop} (t : TypeId) (x i : Value) : Stab P R (Instr.indexAt t x i) :=by
  unfold Instr.indexAt
  repeat' first | exact Stab.pure _ | exact Stab.halt _ | exact stab_underlying _ | exact stab_asIntOf _ | exact stab_sureAddr _ | exact stab_sizeOf _ | exact (never_boundsPanic _ _ _ _).stab | (refine Stab.bind ?_ fun _ => ?_) | split | dsimp only
theorem stab_index {R : World → World → Prop} (t : TypeId) (x i : Value) : Stab P R (Instr.index t x i) :=by
  unfold Instr.index
  repeat' first | exact Stab.pure _ | exact Stab.halt _ | exact stab_underlying _ | exact stab_asIntOf _ | exact stab_part _ _ _ | exact stab_sizeOf _ | exact (never_boundsPanic _ _ _ _).stab | (refine Stab.bind ?_ fun _ => ?_) | split | dsimp only
theorem stab_field {R : World → World → Prop} (t : TypeId) (x : Value) (i : Nat) : Stab P R (Instr.field t x i) :=by
  unfold Instr.field
  repeat' first | exact Stab.pure _ | exact Stab.halt _ | exact stab_underlying _ | exact stab_asAgg _ | exact stab_part _ _ _ | (refine Stab.bind ?_ fun _ => ?_) | split | dsimp only
theorem stab_slice {R : World → World → Prop} (t : TypeId) (d : TypeDesc) (hd : P.underlying t = some d) (hk : (match d with | .slice _ | .string | .array .. => true | _ => false) = true) (x : Value) (lo hi mx : Option Value) : Stab P R (Instr.sliceAt t x lo hi mx) :=by
  have hu : ∀ {β : Type} (k : TypeDesc → Sem β),Stab P R (k d) → Stab P R (underlying t >>= k) :=fun k hk w y w1 hr => by
    rw [Sem.run_bind,run_underlying hd] at hr
    obtain ⟨h1,h2⟩ :=hk w y w1 hr
    exact ⟨h1,fun w' hw => by rw [Sem.run_bind,run_underlying hd];exact h2 w' hw⟩
  unfold Instr.sliceAt
  refine hu _ ?_
  cases d <;> first | (cases hk;done) | skip
  all_goals first
    | (repeat' first | exact Stab.pure _ | exact stab_sureAddr _ | exact stab_sliceBounds _ _ _ _ _ _ | exact stab_sizeOf _ | (refine Stab.bind ?_ fun _ => ?_))
      done
    | (dsimp only
       unfold Instr.slice
       refine hu _ ?_
       cases x <;> dsimp only
       all_goals repeat' first | exact Stab.pure _ | exact Stab.halt _ | exact stab_sliceBounds _ _ _ _ _ _ | exact stab_sizeOf _ | (refine Stab.bind ?_ fun _ => ?_) | split)
theorem stab_fieldAt {R : World → World → Prop} (t : TypeId) (fs : Array Field) (f : Nat) (x : Field) (i : TypeInfo) (hd : P.underlying t = some (.struct fs)) (hx : fs[f]? = some x) (hi : P.info? x.type = some i) (hz : i.size ≠ 0) (v : Value) :
    Stab P R (Instr.fieldAt t v f) :=by
  intro w y w1 hr
  unfold Instr.fieldAt at *
  cases v <;> first
    | (simp [run_underlying hd,hx,Instr.sureAddr] at hr;done)
    | skip
  rename_i ad
  cases ad <;> first
    | (simp [run_underlying hd,hx,Instr.sureAddr] at hr;done)
    | skip
  simp [run_underlying hd,hx,Instr.sureAddr,fieldPlace,sizeOf,typeInfo,hi,hz] at hr ⊢
  exact ⟨hr.2.symm,fun w' _ => hr.1⟩
theorem stab_build {R : World → World → Prop} (t : TypeId) (ps : Array (Nat × Value)) : Stab P R (Instr.build t ps) :=by
  unfold Instr.build
  refine Stab.bind (stab_zeroValue t) fun z => Stab.bind (stab_underlying t) fun d => ?_
  split
  · rename_i fields
    refine Stab.bind ?_ fun places => ?_
    · suffices h : ∀ l : List Field,Stab P R (l.mapM fun f => (do pure (f.offset,← sizeOf f.type) : Sem (Nat × Nat))) by
        intro w y w1 hr
        rw [Array.mapM_eq_mapM_toList] at hr ⊢
        have :=(Stab.bind (h fields.toList) fun l => Stab.pure l.toArray) w y w1
        simp only [map_eq_pure_bind] at hr ⊢
        exact this hr
      intro l
      induction l with
      | nil => exact Stab.pure _
      | cons a l ih =>
        rw [List.mapM_cons]
        exact Stab.bind (Stab.bind (stab_sizeOf _) fun _ => Stab.pure _) fun _ => Stab.bind ih fun _ => Stab.pure _
    · split
      · exact Stab.pure _
      · exact Stab.halt _
  · refine Stab.bind (stab_sizeOf _) fun n => ?_
    split
    · exact Stab.pure _
    · exact Stab.halt _
  · exact Stab.halt _
theorem stab_len {R : World → World → Prop} (at_ : Array TypeId) (ty : TypeId) (args : Array Value) (d : TypeDesc) (hd : (at_[0]?).bind P.underlying = some d) (hk : (match d with | .slice _ | .string | .array .. => true | _ => false) = true) :
    Stab P R (Builtin.len_ at_ ty args) :=by
  cases ht : at_[0]? with
  | none => rw [ht] at hd;cases hd
  | some t =>
    rw [ht] at hd
    have hd : P.underlying t = some d :=hd
    have hu : ∀ {β : Type} (k : TypeDesc → Sem β),Stab P R (k d) → Stab P R (underlying t >>= k) :=fun k hk w y w1 hr => by
      rw [Sem.run_bind,run_underlying hd] at hr
      obtain ⟨h1,h2⟩ :=hk w y w1 hr
      exact ⟨h1,fun w' hw => by rw [Sem.run_bind,run_underlying hd];exact h2 w' hw⟩
    unfold Builtin.len_
    rw [ht]
    cases args[0]? with
    | none => exact Stab.halt _
    | some x =>
      dsimp only
      refine hu _ ?_
      cases d <;> first | (cases hk;done) | skip
      all_goals cases x <;> first | exact Stab.pure _ | exact Stab.halt _
theorem stab_cap {R : World → World → Prop} (at_ : Array TypeId) (ty : TypeId) (args : Array Value) (d : TypeDesc) (hd : (at_[0]?).bind P.underlying = some d) (hk : (match d with | .slice _ | .string | .array .. => true | _ => false) = true) :
    Stab P R (Builtin.cap_ at_ ty args) :=by
  cases ht : at_[0]? with
  | none => rw [ht] at hd;cases hd
  | some t =>
    rw [ht] at hd
    have hd : P.underlying t = some d :=hd
    have hu : ∀ {β : Type} (k : TypeDesc → Sem β),Stab P R (k d) → Stab P R (underlying t >>= k) :=fun k hk w y w1 hr => by
      rw [Sem.run_bind,run_underlying hd] at hr
      obtain ⟨h1,h2⟩ :=hk w y w1 hr
      exact ⟨h1,fun w' hw => by rw [Sem.run_bind,run_underlying hd];exact h2 w' hw⟩
    unfold Builtin.cap_
    rw [ht]
    cases args[0]? with
    | none => exact Stab.halt _
    | some x =>
      dsimp only
      refine hu _ ?_
      cases d <;> first | (cases hk;done) | skip
      all_goals cases x <;> first | exact Stab.pure _ | exact Stab.halt _
theorem stab_pick {R : World → World → Prop} (c a b : Value) : StabV P R (do pure (.value (if ← asBool c then a else b))) :=by
  cases c
  case bool t => exact StabV.value _
  all_goals exact fun w n w1 hr => by simp [asBool,stuck,bind,Sem.bind] at hr
theorem exec_stab {R : World → World → Prop} (o : Oper) (ρ : Operand → Value) (hk : kindOf P o = 0 ∨ kindOf P o = 1) (hf : fineAt P ρ o = true) : StabV P R (execOp ρ o) :=by
  obtain ⟨dst,op,ty,pos,after,guard⟩ :=o
  cases op
  case move x => exact StabV.value _
  case assign x => exact StabV.value _
  case pick c a b => exact stab_pick _ _ _
  case extract t i => exact (stab_extract _ _).val
  case unOp u t x => exact (stab_unary _ _).val
  case indexAddr t x i => exact (stab_indexAt _ _ _).val
  case index t x i => exact (stab_index _ _ _).val
  case field t x i => exact (stab_field _ _ _).val
  case build t ps => exact (stab_build _ _).val
  case slice t x lo hi mx =>
    simp only [kindOf] at hk
    cases hd : P.underlying t with
    | none => rw [hd] at hk;simp at hk
    | some d =>
      rw [hd] at hk
      refine (stab_slice t d hd ?_ _ _ _ _).val
      cases d <;> first | rfl | (simp at hk;done)
  case fieldAddr t x f =>
    simp only [kindOf] at hk
    cases hd : P.underlying t with
    | none => rw [hd] at hk;simp at hk
    | some d =>
      rw [hd] at hk
      cases d <;> first | (simp at hk;done) | skip
      rename_i fs
      simp only at hk
      cases hx : fs[f]? with
      | none => rw [hx] at hk;simp at hk
      | some y =>
        rw [hx] at hk
        cases hi : P.info? y.type with
        | none => simp [hi] at hk
        | some i =>
          have hz : i.size ≠ 0 :=by intro h0;simp [hi,h0] at hk
          exact (stab_fieldAt t fs f y i hd hx hi hz _).val
  case nilCheck x =>
    simp only [fineAt] at hf
    simp only [execOp]
    cases hx : ρ x <;> rw [hx] at hf <;> first | (simp at hf;done) | skip
    rename_i a
    cases a <;> first | (simp at hf;done) | exact StabV.value _
  case binOp b t x y u =>
    simp only [fineAt] at hf
    simp only [execOp]
    cases hx : ρ x <;> cases hy : ρ y <;> rw [hx,hy] at hf <;> first | (simp at hf;done) | skip
    · exact (Stab.bind (stab_eqGuard_bool _ _ _ _ _ _) fun _ => stab_binOp_bool _ _ _ _).val
    · exact (Stab.bind (stab_eqGuard_int _ _ _ _ _ _ _ _) fun _ => stab_binOp_int _ _ _ _ _ _).val
    · exact (Stab.bind (stab_eqGuard_string _ _ _ _ _ _) fun _ => stab_binOp_string _ _ _ _ (by cases b <;> simp at hf ⊢)).val
  case convert s d x =>
    simp only [fineAt] at hf
    simp only [execOp]
    cases hd : P.underlying d with
    | none => rw [hd] at hf;simp at hf
    | some e =>
      rw [hd] at hf
      cases hx : ρ x <;> rw [hx] at hf <;> cases e <;> first | (simp at hf;done) | skip
      · exact (stab_convert_int _ _ _ _ _ hd).val
      · exact (stab_convert_float _ _ _ _ _ hd).val
  case call c =>
    obtain ⟨callee,args,at_⟩ :=c
    cases callee with
    | value f => simp [kindOf] at hk
    | invoke r m => simp [kindOf] at hk
    | builtin b =>
      cases b <;> first | (simp [kindOf] at hk;done) | skip
      · simp only [kindOf] at hk
        cases hd : (at_[0]?).bind P.underlying with
        | none => rw [hd] at hk;simp at hk
        | some d =>
          rw [hd] at hk
          refine (stab_cap at_ ty (args.map ρ) d hd ?_).val
          cases d <;> first | rfl | (simp at hk;done)
      · simp only [kindOf] at hk
        cases hd : (at_[0]?).bind P.underlying with
        | none => rw [hd] at hk;simp at hk
        | some d =>
          rw [hd] at hk
          refine (stab_len at_ ty (args.map ρ) d hd ?_).val
          cases d <;> first | rfl | (simp at hk;done)
  all_goals (simp [kindOf] at hk;done)
theorem exec_stab_load (o : Oper) (ρ : Operand → Value) (hk : kindOf P o = 2) : StabV P (fun w w' => Below w.heap.size w w') (execOp ρ o) :=by
  obtain ⟨dst,op,ty,pos,after,guard⟩ :=o
  cases op
  case load t x => exact (Stab.bind (stab_sureAddr _) fun a => stab_loadVar t a).val
  case fieldAddr t x f => simp only [kindOf] at hk;(repeat' split at hk) <;> simp at hk
  case slice t x lo hi mx => simp only [kindOf] at hk;(repeat' split at hk) <;> simp at hk
  case binOp b t x y u => simp only [kindOf] at hk;(repeat' split at hk) <;> simp at hk
  case call c =>
    obtain ⟨callee,args,at_⟩ :=c
    cases callee with
    | value f => simp [kindOf] at hk
    | invoke r m => simp [kindOf] at hk
    | builtin b => cases b <;> first | (simp [kindOf] at hk;done) | (simp only [kindOf] at hk;(repeat' split at hk) <;> simp at hk)
  all_goals (simp [kindOf] at hk;done)
end
section
variable {P : Program} {ops : Array Oper} {Q : Exit → Act → World → Prop}
def Norm (N : Act → World → Prop) : Exit → Act → World → Prop :=Exit.then N (fun _ _ _ => False)
theorem Norm.out {N : Act → World → Prop} : ¬ LetsOut (Norm N) :=fun ⟨_,_,h⟩ => h
def Old (W w : World) : Prop :=Below W.heap.size W w
theorem Old.refl (W : World) : Old W W :=Below.refl _ _
def wpAnyF (P : Program) (ops : Array Oper) (Q : Exit → Act → World → Prop) (W : World) (flag qt : Nat → Bool) : Nat → Array Bool → Act → World → Prop
  | 0,listed,a,w => Region.ready .any ops listed = [] ∧ Q .normal a w
  | n + 1,listed,a,w =>
    (Region.ready .any ops listed = [] → Q .normal a w) ∧
    ∀ i ∈ Region.ready .any ops listed,wpOp P ops Q i (fun a' w' => (flag i = true → Old W w') ∧ (qt i = true → w' = w) ∧ wpAnyF P ops Q W flag qt n (listed.setIfInBounds i true) a' w') a w
theorem wpAny_of_flag {W : World} {flag qt : Nat → Bool} : ∀ (n : Nat) (listed : Array Bool) (a : Act) (w : World),wpAnyF P ops Q W flag qt n listed a w → wpAny P .any ops Q n listed a w
  | 0,_,_,_,h => h
  | n + 1,_,_,_,h => ⟨h.1,fun i hi => wpOp_mono (fun a' w' h' => wpAny_of_flag n _ a' w' h'.2.2) (h.2 i hi)⟩
def Gives (P : Program) (ops : Array Oper) (S : World → Prop) (o : Oper) (v : Value) (a : Act) : Prop :=
  (Region.wanted o (yielded ops a.tmps) = true ∧ ∀ w,S w → (execOp a.eval o).run P w = .ok (.value v) w) ∨
  (Region.wanted o (yielded ops a.tmps) = false ∧ v = undef)
theorem Gives.wpOp {S : World → Prop} {i : Nat} {o : Oper} {v : Value} {a : Act} (hi : ops[i]? = some o) (hy : Gives P ops S o v a)
    {K : Act → World → Prop} {w : World} (hS : S w) (h : K (a.put o.dst v) w) : wpOp P ops Q i K a w :=by
  unfold Go.wpOp
  simp only [hi]
  rcases hy with ⟨hw,hv⟩ | ⟨hw,rfl⟩
  · simp only [hw,if_true,Oper.wp,hv w hS,Oper.upon];exact .inl h
  · simp only [hw,Bool.false_eq_true,if_false];exact h
theorem Gives.of_same {S : World → Prop} {o : Oper} {v : Value} {a a' : Act} (hy : Gives P ops S o v a) (he : execOp a'.eval o = execOp a.eval o)
    (hw : Region.wanted o (yielded ops a'.tmps) = Region.wanted o (yielded ops a.tmps)) : Gives P ops S o v a' :=by
  unfold Gives at *
  rw [he,hw]
  exact hy
theorem wpOp_under {S : World → Prop} {N : Act → World → Prop} {j : Nat} {oi oj : Oper} {v : Value} (hj : ops[j]? = some oj) (hap : oi.apart ops oj = true)
    (hsi : ∀ cs b,oi.op ≠ .select cs b) (hsj : ∀ cs b,oj.op ≠ .select cs b)
    {K : Act → World → Prop} {a : Act} {w : World}
    (hy : Gives P ops S oi v a) (h : wpOp P ops (Norm N) j K (a.put oi.dst v) w) :
    wpOp P ops (Norm N) j (fun a' w' => Gives P ops S oi v a' ∧ K (a'.put oi.dst v) w') a w :=by
  obtain ⟨h1,h2,h3⟩ :=Oper.apart_spec hap
  have keep : ∀ (a : Act),Gives P ops S oi v a → ∀ u,Gives P ops S oi v (a.put oj.dst u) :=fun a hy u =>
    hy.of_same (execOp_put oi hsi a oj.dst u h3) (wanted_put oi a oj.dst u h3)
  have keepD : ∀ d,Gives P ops S oi v { a with defers :=d :: a.defers } :=fun d => hy.of_same rfl rfl
  unfold wpOp at *
  simp only [hj] at *
  rw [wanted_put oj a oi.dst v h1] at h
  split
  · rename_i hw
    simp only [hw,if_true] at h
    rcases h with h | ⟨_,hlets⟩
    case inr => exact absurd hlets Norm.out
    refine .inl ?_
    unfold Oper.wp at *
    rw [execOp_put oj hsj a oi.dst v h1] at h
    generalize (execOp a.eval oj).run P w = r at *
    cases r with
    | ok n w' =>
      cases n <;> simp only [Oper.upon] at h ⊢
      case value u => exact ⟨keep a hy u,by rw [← Act.put_comm a v u h2];exact h⟩
      case skip => exact ⟨keep a hy _,by rw [← Act.put_comm a v undef h2];exact h⟩
      case defer d =>
        refine ⟨keep _ (keepD d) _,?_⟩
        rw [← Act.put_comm _ v undef h2,← Act.put_defers]
        exact h
      case enter f args =>
        refine Calls.mono h fun e w'' he => ?_
        cases e with
        | returned u => exact ⟨keep a hy u,by rw [← Act.put_comm a v u h2];exact he⟩
        | panicked c => exact he.elim
        | outgrown => exact absurd he Norm.out
      case row row args => exact Rows.mono h fun u w'' he => ⟨keep a hy u,by rw [← Act.put_comm a v u h2];exact he⟩
    | halt x w' =>
      cases x <;> simp only [Oper.upon] at h ⊢
      case panic u => exact h.elim
  · rename_i hw
    simp only [hw] at h
    exact ⟨keep a hy _,by rw [← Act.put_comm a v undef h2];exact h⟩
theorem wpAnyF_first {W : World} {flag qt : Nat → Bool} {S : World → Prop} {N : Act → World → Prop} {i : Nat} {oi : Oper} {v : Value} (hi : ops[i]? = some oi)
    (hsel : ∀ (j : Nat) (o : Oper) cs b,ops[j]? = some o → o.op ≠ .select cs b) (listed0 : Array Bool) (T : Nat → Bool)
    (hT : ∀ j oj,ops[j]? = some oj → j ≠ i → (∀ e ∈ oj.after,Region.binds .any e = true → listed0.getD e.on false = true ∨ T e.on = true) → listed0.getD j true = true ∨ T j = true)
    (hap : ∀ j oj,ops[j]? = some oj → j ≠ i → T j = true → oi.apart ops oj = true) (hfl : ∀ j,T j = true → j ≠ i → qt j = true ∨ ((∀ w,Old W w → S w) ∧ flag j = true) ∨ (∀ w,S w)) (hi0 : flag i = false) :
    ∀ (n : Nat) (listed : Array Bool) (a : Act) (w : World),
      (∀ k,listed.getD k false = true → listed0.getD k false = true ∨ T k = true) → listed.size = listed0.size → (∀ k,listed0.getD k false = true → listed.getD k false = true) →
      i ∈ Region.ready .any ops listed → Gives P ops S oi v a → S w →
      wpAnyF P ops (Norm N) W flag qt n (listed.setIfInBounds i true) (a.put oi.dst v) w → wpAnyF P ops (Norm N) W flag qt (n + 1) listed a w :=by
  intro n
  induction n with
  | zero =>
    intro listed a w _ _ _ hr hy hS H
    refine ⟨fun h => (by rw [h] at hr;cases hr),fun j hj => ?_⟩
    by_cases hji : j = i
    · subst hji;exact hy.wpOp hi hS ⟨fun hf => by (rw [hi0] at hf;cases hf),fun _ => rfl,H⟩
    · have :=ready_mono hj hji
      rw [H.1] at this
      cases this
  | succ n ih =>
    intro listed a w hl hsz hl2 hr hy hS H
    refine ⟨fun h => (by rw [h] at hr;cases hr),fun j hj => ?_⟩
    by_cases hji : j = i
    · subst hji;exact hy.wpOp hi hS ⟨fun hf => by (rw [hi0] at hf;cases hf),fun _ => rfl,H⟩
    · have h1 :=H.2 j (ready_mono hj hji)
      obtain ⟨hjun,oj,hoj,hall⟩ :=mem_ready.1 hj
      have hTj : T j = true :=by
        refine (hT j oj hoj hji fun e he hb => hl _ (hall e he hb)).resolve_left fun h0 => ?_
        rcases Nat.lt_or_ge j listed0.size with h' | h'
        · have : listed0.getD j false = true :=by simp [h'] at h0 ⊢;exact h0
          have :=hl2 _ this
          have hlt : j < listed.size :=by omega
          simp [hlt] at this hjun
          rw [this] at hjun;cases hjun
        · have : listed.getD j true = true :=by simp [Array.getElem?_eq_none (show listed.size ≤ j by omega)]
          rw [this] at hjun;cases hjun
      have h2 :=wpOp_under hoj (hap j oj hoj hji hTj) (fun cs b => hsel i oi cs b hi) (fun cs b => hsel j oj cs b hoj) hy h1
      refine wpOp_mono (fun a' w' h3 => ⟨h3.2.1,h3.2.2.1,?_⟩) h2
      refine ih (listed.setIfInBounds j true) a' w' ?_ (by simp [hsz]) (fun k hk => getD_set_true (hl2 k hk)) (ready_mono hr (Ne.symm hji)) h3.1 ?_ ?_
      · intro k hk
        by_cases hjk : j = k
        · subst hjk;exact .inr hTj
        · rw [getD_set_ne false hjk] at hk;exact hl k hk
      · rcases hfl j hTj hji with h4 | ⟨h4,h5⟩ | h4
        · rw [h3.2.2.1 h4];exact hS
        · exact h4 _ (h3.2.1 h5)
        · exact h4 _
      · rw [Array.setIfInBounds_comm _ _ hji]
        exact h3.2.2.2
end
section
variable (P : Program) (ops : Array Oper)
def waitsB (f : Nat → Bool) (j : Nat) : Bool :=
  match ops[j]? with
  | some o => o.after.all fun e => !Region.binds .any e || f e.on
  | none => false
def aheadB (listed : Array Bool) (i : Nat) : Array Bool :=
  (List.range ops.size).foldl (fun T j => T.push (j != i && !listed.getD j true && waitsB ops (fun k => listed.getD k false || T.getD k false) j)) #[]
def takeB (flag qt : Nat → Bool) (listed : Array Bool) (i : Nat) (o : Oper) (ld : Bool) : Bool :=
  let T :=aheadB ops listed i
  (List.range ops.size).all fun j => j == i ||
    ((listed.getD j true || T.getD j false || !waitsB ops (fun k => listed.getD k false || T.getD k false) j) &&
     (!T.getD j false || (match ops[j]? with | some oj => o.apart ops oj | none => true) && (!ld || qt j || flag j)))
def segB (flag qt : Nat → Bool) (last : Bool) : List Nat → Array Bool → Bool → Bool → Option (Array Bool × Bool × Bool)
  | [],l,p,s => some (l,p,s)
  | i :: rest,l,p,s =>
    match ops[i]? with
    | none => none
    | some o =>
      let k :=kindOf P o
      if k == 0 || k == 1 || (k == 2 && p) then
        if (Region.ready .any ops l).contains i && takeB ops flag qt l i o (k == 2) && !flag i && (k != 1 || (o.looksAt ops).all fun t => o.dst != some t && rest.all fun j => match ops[j]? with | some oj => oj.dst != some t | none => true)
        then segB flag qt last rest (l.setIfInBounds i true) p s else none
      else
        if Region.ready .any ops l == [i] && !qt i && (!flag i || (rest.isEmpty && !last))
        then segB flag qt last rest (l.setIfInBounds i true) false (rest.isEmpty && !last) else none
def segsB (flag qt : Nat → Bool) : List (List Nat) → Array Bool → Bool → Bool → Bool
  | [],l,_,_ => Region.ready .any ops l == []
  | [s],l,p,q => match segB P ops flag qt true s l p q with
    | some (l',_,_) => Region.ready .any ops l' == []
    | none => false
  | s :: ss,l,p,_ => match segB P ops flag qt false s l p true with
    | some (l',p',_) => segsB flag qt ss l' p' true
    | none => false
def quietB : List Nat → Bool → List Nat
  | [],_ => []
  | i :: rest,p => match ops[i]? with
    | some o => let k :=kindOf P o;if k == 0 || k == 1 || (k == 2 && p) then i :: quietB rest p else quietB rest false
    | none => []
def lastsB : List (List Nat) → List Nat
  | [] => []
  | [_] => []
  | s :: ss => (s.getLast?).toList ++ lastsB ss
def regB (segs : List (List Nat)) : Bool :=
  let fl :=lastsB segs
  let ql :=quietB P ops segs.flatten true
  (ql.all fun i => !fl.contains i) && Region.noSelect ops && segs.flatten.length == ops.size && segsB P ops (fun j => fl.contains j) (fun j => ql.contains j) segs (Array.replicate ops.size false) true true
def fineSeg (s : List Nat) (a : Act) : Bool :=
  s.all fun i => match ops[i]? with
    | some o => kindOf P o != 1 || !Region.wanted o (yielded ops a.tmps) || fineAt P a.eval o
    | none => true
def wpSegs (W : World) (N : Act → World → Prop) : List (List Nat) → Act → World → Prop
  | [],a,w => N a w
  | [s],a,w => wpList P ops (Exit.then (fun a' w' => fineSeg P ops s a' = true ∧ N a' w') (fun _ _ _ => False)) (s.filterMap (ops[·]?)) a w
  | s :: ss,a,w => wpList P ops (Exit.then (fun a' w' => fineSeg P ops s a' = true ∧ Old W w' ∧ wpSegs W N ss a' w') (fun _ _ _ => False)) (s.filterMap (ops[·]?)) a w
end
section
variable {P : Program} {ops : Array Oper}
theorem wpList_ends {N : Act → World → Prop} : ∀ (l : List Oper) (a : Act) (w : World),wpList P ops (Norm N) l a w →
    ∃ a' w',N a' w' ∧ ∀ t,(∀ o ∈ l,o.dst ≠ some t) → a'.tmps[t]? = a.tmps[t]?
  | [],a,w,h => ⟨a,w,h,fun _ _ => rfl⟩
  | o :: l,a,w,h => by
    have put : ∀ (b : Act) v t,o.dst ≠ some t → (b.put o.dst v).tmps[t]? = b.tmps[t]? :=fun b v t ht => by
      cases hd : o.dst with
      | none => rfl
      | some d => simp only [Act.put];rw [Array.getElem?_setIfInBounds_ne (fun e => ht (by rw [hd,e]))]
    have next : ∀ (b : Act) v w',b.tmps = a.tmps → wpList P ops (Norm N) l (b.put o.dst v) w' → ∃ a' w',N a' w' ∧ ∀ t,(∀ o' ∈ o :: l,o'.dst ≠ some t) → a'.tmps[t]? = a.tmps[t]? :=fun b v w' hb h => by
      obtain ⟨a',w',hn,ht⟩ :=wpList_ends l _ _ h
      exact ⟨a',w',hn,fun t hd => by rw [ht t (fun o' ho' => hd o' (List.mem_cons_of_mem _ ho')),put b v t (hd o List.mem_cons_self),hb]⟩
    simp only [wpList] at h
    split at h
    · rcases h with h | ⟨_,hl⟩
      case inr => exact absurd hl Norm.out
      unfold Oper.wp at h
      generalize (execOp a.eval o).run P w = r at h
      cases r with
      | ok n w' =>
        cases n <;> simp only [Oper.upon] at h
        case value u => exact next a _ _ rfl h
        case skip => exact next a _ _ rfl h
        case defer d => exact next { a with defers :=d :: a.defers } _ _ rfl h
        case enter f args =>
          obtain ⟨e,w'',fr,he,_⟩ :=h []
          cases e with
          | returned u => exact next a _ _ rfl he
          | panicked c => exact he.elim
          | outgrown => exact absurd he Norm.out
        case row row args =>
          obtain ⟨u,w'',he,_⟩ :=h default []
          exact next a _ _ rfl he
      | halt x w' =>
        cases x <;> simp only [Oper.upon] at h
        case panic u => exact h.elim
    · exact next a _ _ rfl h
theorem eval_of_tmps {a b : Act} {x : Operand} (h : ∀ t,x = .tmp t → a.tmps[t]? = b.tmps[t]?) : a.eval x = b.eval x :=by
  cases x with
  | tmp t => simp only [Act.eval];rw [Array.getD_eq_getD_getElem?,Array.getD_eq_getD_getElem?,h t rfl]
  | _ => rfl
theorem fineAt_congr {o : Oper} {a b : Act} (h : ∀ t ∈ o.looksAt ops,a.tmps[t]? = b.tmps[t]?) : fineAt P a.eval o = fineAt P b.eval o :=by
  have hx : ∀ x ∈ o.op.operands,a.eval x = b.eval x :=fun x hx => eval_of_tmps fun t ht => h t (by
    subst ht
    exact List.mem_append_left _ (List.mem_filterMap.2 ⟨.tmp t,by simpa using hx,rfl⟩))
  obtain ⟨dst,op,ty,pos,after,guard⟩ :=o
  cases op <;> simp only [fineAt]
  case nilCheck x => rw [hx x (by simp [Op.operands])]
  case binOp b t x y u => rw [hx x (by simp [Op.operands]),hx y (by simp [Op.operands])]
  case convert s d x => rw [hx x (by simp [Op.operands])]
theorem wanted_congr {o : Oper} {a b : Act} (h : ∀ t ∈ o.looksAt ops,a.tmps[t]? = b.tmps[t]?) : Region.wanted o (yielded ops a.tmps) = Region.wanted o (yielded ops b.tmps) :=by
  unfold Region.wanted
  cases hg : o.guard with
  | none => rfl
  | some gw =>
    obtain ⟨g,want⟩ :=gw
    have hy : yielded ops a.tmps g = yielded ops b.tmps g :=by
      unfold yielded
      cases ht : (ops[g]?).bind (·.dst) with
      | none => rfl
      | some t =>
        have :=h t (by simp [Oper.looksAt,hg,ht])
        simp only [Option.bind_some]
        rw [this]
    simp only [hy]
theorem fineAt_kind0 {o : Oper} {ρ : Operand → Value} (h : kindOf P o = 0) : fineAt P ρ o = true :=by
  obtain ⟨dst,op,ty,pos,after,guard⟩ :=o
  cases op <;> first | rfl | (simp [kindOf] at h;done) | (simp only [kindOf] at h;(repeat' split at h) <;> simp at h)
theorem wp_strict {o : Oper} {a : Act} {w : World} {K K' : Act → World → Prop} {N N' : Act → World → Prop} (h : ∀ a w,K a w → K' a w)
    (hh : o.wp P a w K (Norm N)) : o.wp P a w K' (Norm N') :=by
  unfold Oper.wp at *
  generalize (execOp a.eval o).run P w = r at *
  cases r with
  | ok n w' =>
    cases n <;> simp only [Oper.upon] at hh ⊢ <;>
      first
        | exact h _ _ hh
        | exact Calls.mono hh (fun e w'' he => by cases e <;> first | exact h _ _ he | exact he.elim | exact absurd he Norm.out)
        | exact Rows.mono hh (fun _ _ he => h _ _ he)
  | halt x w' => cases x <;> simp only [Oper.upon] at hh ⊢ <;> exact hh.elim
variable {W : World} {flag qt : Nat → Bool}
theorem seg_sound {N N' : Act → World → Prop} (last : Bool) (hsel : Region.noSelect ops = true) (hqf : ∀ i,qt i = true → flag i = false) (l' : Array Bool) (p' q' : Bool) (n' : Nat)
    (hK : ∀ a w,(last = false → Old W w) → (p' = true → w = W) → N' a w → wpAnyF P ops (Norm N) W flag qt n' l' a w) :
    ∀ (s : List Nat) (l : Array Bool) (p q : Bool) (a : Act) (w : World),segB P ops flag qt last s l p q = some (l',p',q') →
      (p = true → w = W) → (q = true → Old W w) → l.size = ops.size →
      wpList P ops (Norm fun a' w' => fineSeg P ops s a' = true ∧ (last = false → Old W w') ∧ N' a' w') (s.filterMap (ops[·]?)) a w →
      wpAnyF P ops (Norm N) W flag qt (s.length + n') l a w
  | [],l,p,q,a,w,hs,hp,hq,_,h => by
    simp only [segB,Option.some.injEq,Prod.mk.injEq] at hs
    obtain ⟨rfl,rfl,rfl⟩ :=hs
    have h : fineSeg P ops [] a = true ∧ (last = false → Old W w) ∧ N' a w :=h
    simpa using hK a w h.2.1 hp h.2.2
  | i :: rest,l,p,q,a,w,hs,hp,hq,hsz,h => by
    cases ho : ops[i]? with
    | none => simp [segB,ho] at hs
    | some o =>
      have hlist : (i :: rest).filterMap (ops[·]?) = o :: rest.filterMap (ops[·]?) :=by simp [ho]
      rw [hlist] at h
      have hfine : ∀ a',fineSeg P ops (i :: rest) a' = true → fineSeg P ops rest a' = true :=fun a' hf => by
        simp only [fineSeg,List.all_cons,Bool.and_eq_true] at hf ⊢
        exact hf.2
      have hmono : ∀ a' w',wpList P ops (Norm fun a' w' => fineSeg P ops (i :: rest) a' = true ∧ (last = false → Old W w') ∧ N' a' w') (rest.filterMap (ops[·]?)) a' w' →
          wpList P ops (Norm fun a' w' => fineSeg P ops rest a' = true ∧ (last = false → Old W w') ∧ N' a' w') (rest.filterMap (ops[·]?)) a' w' :=by
        suffices hg : ∀ (L : List Oper) {M M' : Act → World → Prop} (_ : ∀ a w,M a w → M' a w) a' w',wpList P ops (Norm M) L a' w' → wpList P ops (Norm M') L a' w' from
          hg _ (fun a w hm => ⟨hfine a hm.1,hm.2⟩)
        intro L
        induction L with
        | nil => intro M M' hm a' w' hx;exact hm _ _ hx
        | cons o' L ih =>
          intro M M' hm a' w' hx
          simp only [wpList] at hx ⊢
          split
          · rename_i hw
            rw [if_pos hw] at hx
            rcases hx with hx | ⟨_,hx⟩
            · exact .inl (wp_strict (ih hm) hx)
            · exact absurd hx Norm.out
          · rename_i hw
            rw [if_neg hw] at hx
            exact ih hm _ _ hx
      have hlen : (i :: rest).length + n' = (rest.length + n') + 1 :=by simp;omega
      rw [hlen]
      simp only [segB,ho] at hs
      split at hs
      · rename_i hk
        split at hs
        case isFalse => cases hs
        rename_i hc
        simp only [Bool.and_eq_true,Bool.not_eq_true'] at hc
        obtain ⟨⟨⟨hrd,htk⟩,hfi⟩,hk1⟩ :=hc
        have hrd : i ∈ Region.ready .any ops l :=by simpa using hrd
        -- the value
        have hv : ∃ v,Gives P ops (fun w' => (kindOf P o == 2) = true → Old W w') o v a ∧
            wpList P ops (Norm fun a' w' => fineSeg P ops (i :: rest) a' = true ∧ (last = false → Old W w') ∧ N' a' w') (rest.filterMap (ops[·]?)) (a.put o.dst v) w :=by
          have h0 :=h
          simp only [wpList] at h
          split at h
          · rename_i hw
            rcases h with h | ⟨_,h⟩
            case inr => exact absurd h Norm.out
            have hst : ∀ n w1,(execOp a.eval o).run P w = .ok n w1 → ∃ v,n = .value v ∧ w1 = w ∧ ∀ w',((kindOf P o == 2) = true → Old W w') → (execOp a.eval o).run P w' = .ok (.value v) w' :=by
              intro n w1 hr
              by_cases hk2 : kindOf P o = 2
              · have hpW : w = W :=hp (by simp [hk2] at hk;exact hk)
                obtain ⟨⟨v,rfl⟩,rfl,h2⟩ :=exec_stab_load o a.eval hk2 w n w1 hr
                exact ⟨v,rfl,rfl,fun w' hS => h2 w' (by have :=hS (by simp [hk2]);rw [hpW];exact this)⟩
              · have hk01 : kindOf P o = 0 ∨ kindOf P o = 1 :=by
                  simp only [Bool.or_eq_true,beq_iff_eq,Bool.and_eq_true] at hk
                  rcases hk with (hk | hk) | hk
                  · exact .inl hk
                  · exact .inr hk
                  · exact absurd hk.1 hk2
                have hfa : fineAt P a.eval o = true :=by
                  rcases hk01 with h0' | h1'
                  · exact fineAt_kind0 h0'
                  · obtain ⟨a',w',⟨hf,_⟩,ht⟩ :=wpList_ends _ _ _ h0
                    simp only [h1',bne_self_eq_false,Bool.false_or,List.all_eq_true,Bool.and_eq_true] at hk1
                    have hsame : ∀ t ∈ o.looksAt ops,a'.tmps[t]? = a.tmps[t]? :=fun t htm => ht t fun o' ho' => by
                      have hk1t :=hk1 t htm
                      rcases List.mem_cons.1 ho' with rfl | ho'
                      · simpa using hk1t.1
                      · obtain ⟨j,hj,hoj⟩ :=List.mem_filterMap.1 ho'
                        have :=hk1t.2 j hj
                        rw [hoj] at this
                        simpa using this
                    have hh : (kindOf P o != 1 || !Region.wanted o (yielded ops a'.tmps) || fineAt P a'.eval o) = true :=by
                      simp only [fineSeg,List.all_cons,Bool.and_eq_true,ho] at hf
                      exact hf.1
                    rw [wanted_congr hsame,fineAt_congr hsame,hw] at hh
                    simpa [h1'] using hh
                obtain ⟨⟨v,rfl⟩,rfl,h2⟩ :=exec_stab (R :=fun _ _ => True) o a.eval hk01 hfa w n w1 hr
                exact ⟨v,rfl,rfl,fun w' _ => h2 w' trivial⟩
            unfold Oper.wp at h
            cases hr : (execOp a.eval o).run P w with
            | ok n w1 =>
              rw [hr] at h
              obtain ⟨v,rfl,rfl,h2⟩ :=hst n w1 hr
              exact ⟨v,.inl ⟨hw,h2⟩,h⟩
            | halt x w1 =>
              rw [hr] at h
              cases x <;> simp only [Oper.upon] at h
              case panic u => exact h.elim
          · rename_i hw
            exact ⟨undef,.inr ⟨by simpa using hw,rfl⟩,h⟩
        obtain ⟨v,hg,hrest⟩ :=hv
        have hnext :=seg_sound last hsel hqf l' p' q' n' hK rest (l.setIfInBounds i true) p q (a.put o.dst v) w hs hp hq (by simpa using hsz) (hmono _ _ hrest)
        have hall :=fun j (hj : j < ops.size) => (List.all_eq_true.1 htk) j (List.mem_range.2 hj)
        refine wpAnyF_first ho (Region.noSelect_spec hsel) l (fun j => (aheadB ops l i).getD j false) ?_ ?_ ?_ hfi _ l a w (fun k hk => .inl hk) rfl (fun k hk => hk) hrd hg ?_ hnext
        · intro j oj hoj hji hdeps
          have hj : j < ops.size :=(Array.getElem?_eq_some_iff.1 hoj).1
          have :=hall j hj
          simp only [Bool.or_eq_true,beq_iff_eq,Bool.and_eq_true] at this
          rcases this with h0 | ⟨h1,_⟩
          · exact absurd h0 hji
          · rcases h1 with (h1 | h1) | h1
            · exact .inl h1
            · exact .inr h1
            · exfalso
              simp only [Bool.not_eq_true',waitsB,hoj] at h1
              rw [← Bool.not_eq_true,Array.all_eq_true_iff_forall_mem] at h1
              exact h1 fun e he => by
                cases hb : Region.binds .any e
                · rfl
                · rcases hdeps e he hb with h5 | h5
                  · simp only [h5];rfl
                  · rw [h5];simp
        · intro j oj hoj hji hTj
          have hj : j < ops.size :=(Array.getElem?_eq_some_iff.1 hoj).1
          have :=hall j hj
          simp only [Bool.or_eq_true,beq_iff_eq,Bool.and_eq_true] at this
          rcases this with h0 | ⟨_,h1⟩
          · exact absurd h0 hji
          · rcases h1 with h1 | h1
            · rw [hTj] at h1;cases h1
            · rw [hoj] at h1;exact h1.1
        · intro j hTj hji
          by_cases hj : j < ops.size
          · have :=hall j hj
            simp only [Bool.or_eq_true,beq_iff_eq,Bool.and_eq_true] at this
            rcases this with h0 | ⟨_,h1⟩
            · exact absurd h0 hji
            · rcases h1 with h1 | h1
              · rw [hTj] at h1;cases h1
              · rcases h1.2 with (h2 | h2) | h2
                · exact .inr (.inr fun w hld => by simp [hld] at h2)
                · exact .inl h2
                · exact .inr (.inl ⟨fun w hw _ => hw,h2⟩)
          · exfalso
            have hsizeT : (aheadB ops l i).size = ops.size :=by
              unfold aheadB
              suffices hg : ∀ (L : List Nat) (T : Array Bool),(L.foldl (fun T j => T.push (j != i && !l.getD j true && waitsB ops (fun k => l.getD k false || T.getD k false) j)) T).size = T.size + L.length by
                rw [hg];simp
              intro L
              induction L with
              | nil => intro T;rfl
              | cons x L ih => intro T;rw [List.foldl_cons,ih];simp;omega
            simp [Array.getElem?_eq_none (show (aheadB ops l i).size ≤ j by omega)] at hTj
        · intro hld
          have hk2 : kindOf P o = 2 :=by simpa using hld
          have hpW : w = W :=hp (by simp [hk2] at hk;exact hk)
          rw [hpW]
          exact Old.refl W
      · rename_i hk
        split at hs
        case isFalse => cases hs
        rename_i hc
        simp only [Bool.and_eq_true,Bool.not_eq_true',beq_iff_eq,Bool.or_eq_true] at hc
        obtain ⟨⟨hrd,hqi⟩,hfl⟩ :=hc
        refine ⟨fun h0 => by (rw [hrd] at h0;cases h0),fun j hj => ?_⟩
        rw [hrd] at hj
        obtain rfl : j = i :=by simpa using hj
        have hgo : ∀ a' w',wpList P ops (Norm fun a' w' => fineSeg P ops (j :: rest) a' = true ∧ (last = false → Old W w') ∧ N' a' w') (rest.filterMap (ops[·]?)) a' w' →
            (flag j = true → Old W w') ∧ (qt j = true → w' = w) ∧ wpAnyF P ops (Norm N) W flag qt (rest.length + n') (l.setIfInBounds j true) a' w' :=by
          intro a' w' hx
          have hold : rest.isEmpty = true → last = false → Old W w' :=fun h1 h2 => by
            have : rest = [] :=by simpa using h1
            subst this
            have hx : fineSeg P ops [j] a' = true ∧ (last = false → Old W w') ∧ N' a' w' :=hx
            exact hx.2.1 h2
          refine ⟨fun hf => ?_,fun hq' => (by rw [hqi] at hq';cases hq'),?_⟩
          · rcases hfl with h1 | ⟨h1,h2⟩
            · rw [hf] at h1;cases h1
            · exact hold h1 h2
          · refine seg_sound last hsel hqf l' p' q' n' hK rest (l.setIfInBounds j true) false _ a' w' hs (fun h => by cases h) ?_ (by simpa using hsz) (hmono _ _ hx)
            intro h1
            simp only [Bool.and_eq_true,Bool.not_eq_true'] at h1
            exact hold h1.1 h1.2
        unfold wpOp
        simp only [ho]
        simp only [wpList] at h
        split
        · rename_i hw
          rw [if_pos hw] at h
          rcases h with h | ⟨_,h⟩
          · exact .inl (wp_strict hgo h)
          · exact absurd h Norm.out
        · rename_i hw
          rw [if_neg hw] at h
          exact ⟨(hgo _ _ h).1,fun _ => trivial,(hgo _ _ h).2.2⟩
theorem segB_size (last : Bool) : ∀ (s : List Nat) (l : Array Bool) (p q : Bool) (l' : Array Bool) (p' q' : Bool),segB P ops flag qt last s l p q = some (l',p',q') → l'.size = l.size
  | [],l,p,q,l',p',q',h => by
    simp only [segB,Option.some.injEq,Prod.mk.injEq] at h
    rw [h.1]
  | i :: rest,l,p,q,l',p',q',h => by
    cases ho : ops[i]? with
    | none => simp [segB,ho] at h
    | some o =>
      simp only [segB,ho] at h
      split at h <;> split at h
      · rw [segB_size last rest _ _ _ _ _ _ h];simp
      · cases h
      · rw [segB_size last rest _ _ _ _ _ _ h];simp
      · cases h
theorem segs_sound {N : Act → World → Prop} (hsel : Region.noSelect ops = true) (hqf : ∀ i,qt i = true → flag i = false) :
    ∀ (segs : List (List Nat)) (l : Array Bool) (p q : Bool) (a : Act) (w : World),segsB P ops flag qt segs l p q = true →
      (p = true → w = W) → Old W w → l.size = ops.size → wpSegs P ops W N segs a w → wpAnyF P ops (Norm N) W flag qt segs.flatten.length l a w
  | [],l,p,q,a,w,hs,hp,hq,hsz,h => by
    have hr : Region.ready .any ops l = [] :=by simpa [segsB] using hs
    exact ⟨hr,h⟩
  | [s],l,p,q,a,w,hs,hp,hq,hsz,h => by
    simp only [segsB] at hs
    cases hb : segB P ops flag qt true s l p q with
    | none => rw [hb] at hs;cases hs
    | some r =>
      obtain ⟨l',p',q'⟩ :=r
      rw [hb] at hs
      have hr : Region.ready .any ops l' = [] :=by simpa using hs
      have :=seg_sound (N :=N) (N' :=N) true hsel hqf l' p' q' 0 (fun a w _ _ hn => ⟨hr,hn⟩) s l p q a w hb hp (fun _ => hq) hsz
      simp only [List.flatten_cons,List.flatten_nil,List.append_nil]
      refine this ?_
      have h : wpList P ops (Norm fun a' w' => fineSeg P ops s a' = true ∧ N a' w') (s.filterMap (ops[·]?)) a w :=h
      simpa using h
  | s :: s2 :: ss,l,p,q,a,w,hs,hp,hq,hsz,h => by
    simp only [segsB] at hs
    cases hb : segB P ops flag qt false s l p true with
    | none => rw [hb] at hs;cases hs
    | some r =>
      obtain ⟨l',p',q'⟩ :=r
      rw [hb] at hs
      have hsz' : l'.size = ops.size :=(segB_size false s l p true l' p' q' hb).trans hsz
      have :=seg_sound (N :=N) (N' :=wpSegs P ops W N (s2 :: ss)) false hsel hqf l' p' q' (s2 :: ss).flatten.length
        (fun a w h1 h2 hn => segs_sound hsel hqf (s2 :: ss) l' p' true a w hs h2 (h1 rfl) hsz' hn) s l p true a w hb hp (fun _ => hq) hsz
      rw [List.flatten_cons,List.length_append]
      refine this ?_
      have h : wpList P ops (Norm fun a' w' => fineSeg P ops s a' = true ∧ Old W w' ∧ wpSegs P ops W N (s2 :: ss) a' w') (s.filterMap (ops[·]?)) a w :=h
      simpa using h
theorem wp_region_segs {Q : Exit → Act → World → Prop} {id : Nat} {a : Act} {w : World} (segs : List (List Nat)) (hm : P.follows .mixedOrders = true) (hc : regB P ops segs = true)
    (h : wpSegs P ops w.drew (fun a' w' => Q .normal a' w') segs a w.drew) : (Code.region id ops true).wp P Q a w :=by
  simp only [regB,Bool.and_eq_true,List.all_eq_true,Bool.not_eq_true',beq_iff_eq] at hc
  obtain ⟨⟨⟨hqf,hsel⟩,hlen⟩,hs⟩ :=hc
  have h1 :=segs_sound (W :=w.drew) hsel (fun i hi => hqf i (by simpa using hi)) segs _ true true a w.drew hs (fun _ => rfl) (Old.refl _) (by simp) h
  rw [hlen] at h1
  have h2 : (Code.region id ops true).wp P (Norm fun a' w' => Q .normal a' w') a w :=wp_region_any hm (wpAny_of_flag _ _ _ _ h1)
  exact Code.wp_mono (fun e a w hq => by cases e <;> first | exact hq | exact hq.elim) h2
end
def consO : Option Oper → List Oper → List Oper
  | some o,l => List.cons o l
  | none,l => l
def getAll (ops : List Oper) : List Nat → List Oper
  | [] => []
  | i :: is => consO ops[i]? (getAll ops is)
theorem consO_some (o : Oper) (l : List Oper) : consO (some o) l = List.cons o l :=rfl
theorem getAll_nil (ops : List Oper) : getAll ops [] = [] :=rfl
theorem getAll_cons (ops : List Oper) (i : Nat) (is : List Nat) : getAll ops (i :: is) = consO ops[i]? (getAll ops is) :=rfl
theorem lZ0 {α : Type} {a : α} {l : List α} : (a :: l)[0]? = some a := rfl
theorem lS0 {α : Type} {a : α} {l : List α} {i : Nat} : (a :: l)[i + 1]? = l[i]? := rfl
theorem coS (o : Oper) (l : List Oper) : consO (some o) l = List.cons o l := rfl
theorem gaN (ops : List Oper) : getAll ops [] = [] := rfl
theorem gaC (ops : List Oper) (i : Nat) (is : List Nat) : getAll ops (i :: is) = consO ops[i]? (getAll ops is) := rfl
theorem getAll_eq (ops : List Oper) : ∀ s : List Nat,getAll ops s = s.filterMap (ops.toArray[·]?)
  | [] => rfl
  | i :: is => by
    rw [getAll_cons,getAll_eq ops is,List.filterMap_cons]
    simp only [List.getElem?_toArray]
    cases ops[i]? <;> rfl
def wpSegsL (P : Program) (ops : List Oper) (W : World) (N : Act → World → Prop) : List (List Nat) → Act → World → Prop
  | [],a,w => N a w
  | [s],a,w => wpList P ops.toArray (Exit.then (fun a' w' => fineSeg P ops.toArray s a' = true ∧ N a' w') (fun _ _ _ => False)) (getAll ops s) a w
  | s :: s2 :: ss,a,w => wpList P ops.toArray (Exit.then (fun a' w' => fineSeg P ops.toArray s a' = true ∧ Old W w' ∧ wpSegsL P ops W N (s2 :: ss) a' w') (fun _ _ _ => False)) (getAll ops s) a w
theorem wpSegsL_eq (P : Program) (ops : List Oper) (W : World) (N : Act → World → Prop) : ∀ segs,wpSegsL P ops W N segs = wpSegs P ops.toArray W N segs
  | [] => rfl
  | [s] => by funext a w;simp only [wpSegsL,wpSegs];rw [getAll_eq]
  | s :: s2 :: ss => by
    funext a w
    show wpList P ops.toArray (Exit.then (fun a' w' => fineSeg P ops.toArray s a' = true ∧ Old W w' ∧ wpSegsL P ops W N (s2 :: ss) a' w') (fun _ _ _ => False)) (getAll ops s) a w = wpList P ops.toArray (Exit.then (fun a' w' => fineSeg P ops.toArray s a' = true ∧ Old W w' ∧ wpSegs P ops.toArray W N (s2 :: ss) a' w') (fun _ _ _ => False)) (s.filterMap (ops.toArray[·]?)) a w
    rw [getAll_eq,wpSegsL_eq P ops W N (s2 :: ss)]
theorem wp_region_lit_segs {P : Program} {Q : Exit → Act → World → Prop} {id : Nat} {l : List Oper} {a : Act} {w : World} (segs : List (List Nat)) (hm : P.follows .mixedOrders = true) (hc : regB P l.toArray segs = true)
    (h : wpSegsL P l w.drew (fun a' w' => Q .normal a' w') segs a w.drew) : (Code.region id l.toArray true).wp P Q a w :=wp_region_segs segs hm hc (by rw [wpSegsL_eq] at h;exact h)
theorem mixed : Tryz.prog.follows .mixedOrders = true :=by kernel_rfl
end Go.Proofs.YtfmmdamgcpiciaaGreatDoor
namespace Go.Proofs.YtfmmdamgcpiciaaGreatDoor
open Go Go.RowKit
abbrev ad (b o : Nat) : Addr :=⟨b,o,none⟩
def Row (k : IntKind) (w : World) (b o : Nat) (xs : List Nat) : Prop :=∀ (j x : Nat),xs[j]? = some x → w.cell? ⟨b,o + j,none⟩ = some (.int k (x : Int))
def Wr (w : World) (b o n : Nat) : Prop :=∀ j,j < n → (∃ v,w.cell? ⟨b,o + j,none⟩ = some v) ∧ w.frozen? ⟨b,o + j,none⟩ = false
structure Chg (w w' : World) (M : Nat → Nat → Prop) : Prop where
  os : w'.os = w.os
  tape : w'.tape = w.tape
  output : w'.output = w.output
  size : w.heap.size ≤ w'.heap.size
  cell : ∀ b o,b < w.heap.size → ¬ M b o → w'.cell? ⟨b,o,none⟩ = w.cell? ⟨b,o,none⟩
  frz : ∀ b o,b < w.heap.size → w'.frozen? ⟨b,o,none⟩ = w.frozen? ⟨b,o,none⟩
  dom : ∀ b o,b < w.heap.size → (w.cell? ⟨b,o,none⟩).isSome = true → (w'.cell? ⟨b,o,none⟩).isSome = true
  block : ∀ b,b < w.heap.size → (∀ o,¬ M b o) → w'.heap[b]? = w.heap[b]?
theorem lt_of_cell {w : World} {b o : Nat} {v : Value} (h : w.cell? ⟨b,o,none⟩ = some v) : b < w.heap.size :=by
  rcases Nat.lt_or_ge b w.heap.size with h' | h'
  · exact h'
  · simp [World.cell?,Array.getElem?_eq_none h'] at h
theorem Chg.refl (w : World) (M : Nat → Nat → Prop) : Chg w w M :=⟨rfl,rfl,rfl,Nat.le_refl _,fun _ _ _ _ => rfl,fun _ _ _ => rfl,fun _ _ _ h => h,fun _ _ _ => rfl⟩
theorem Chg.mono {w w' : World} {M M' : Nat → Nat → Prop} (h : Chg w w' M) (hm : ∀ b o,b < w.heap.size → M b o → M' b o) : Chg w w' M' :=
  ⟨h.os,h.tape,h.output,h.size,fun b o hb hn => h.cell b o hb (fun x => hn (hm b o hb x)),h.frz,h.dom,fun b hb hn => h.block b hb (fun o x => hn o (hm b o hb x))⟩
theorem Chg.trans {w w1 w2 : World} {M M' : Nat → Nat → Prop} (h : Chg w w1 M) (k : Chg w1 w2 M') (hm : ∀ b o,b < w.heap.size → M' b o → M b o) : Chg w w2 M :=
  ⟨k.os.trans h.os,k.tape.trans h.tape,k.output.trans h.output,Nat.le_trans h.size k.size,
   fun b o hb hn => (k.cell b o (Nat.lt_of_lt_of_le hb h.size) (fun x => hn (hm b o hb x))).trans (h.cell b o hb hn),
   fun b o hb => (k.frz b o (Nat.lt_of_lt_of_le hb h.size)).trans (h.frz b o hb),
   fun b o hb hs => k.dom b o (Nat.lt_of_lt_of_le hb h.size) (h.dom b o hb hs),
   fun b hb hn => (k.block b (Nat.lt_of_lt_of_le hb h.size) (fun o x => hn o (hm b o hb x))).trans (h.block b hb hn)⟩
theorem Chg.drew {w w' : World} {M : Nat → Nat → Prop} (h : Chg w w' M) : Chg w w'.drew M :=⟨h.os,h.tape,h.output,h.size,h.cell,h.frz,h.dom,h.block⟩
theorem Chg.drewN {w w' : World} {M : Nat → Nat → Prop} (h : Chg w w' M) (n : Nat) : Chg w (w'.drewN n) M :=⟨h.os,h.tape,h.output,h.size,h.cell,h.frz,h.dom,h.block⟩
theorem Chg.of_drew {w w' : World} {M : Nat → Nat → Prop} (h : Chg w.drew w' M) : Chg w w' M :=⟨h.os,h.tape,h.output,h.size,h.cell,h.frz,h.dom,h.block⟩
def None2 : Nat → Nat → Prop :=fun _ _ => False
abbrev Kept (w w' : World) : Prop :=Chg w w' None2
theorem Chg.old {w w' : World} (h : Kept w w') : Old w w' :=⟨h.os,h.tape,h.output,h.size,fun b hb => h.block b hb (fun _ x => x)⟩
theorem Chg.ofOld {w w' : World} (h : Old w w') (M : Nat → Nat → Prop) : Chg w w' M :=
  ⟨h.os,h.tape,h.output,h.size,fun b o hb _ => h.cell (p :=⟨b,o,none⟩) hb,fun b o hb => h.frozen (p :=⟨b,o,none⟩) hb,
   fun b o hb hs => by rw [show w'.cell? ⟨b,o,none⟩ = w.cell? ⟨b,o,none⟩ from h.cell (p :=⟨b,o,none⟩) hb];exact hs,fun b hb _ => h.block b hb⟩
theorem Chg.any {w w' : World} (h : Kept w w') (M : Nat → Nat → Prop) : Chg w w' M :=Chg.ofOld h.old M
theorem cell_setCell_ne {w : World} {b o b' o' : Nat} {v : Value} (h : ¬ (b = b' ∧ o = o')) : (w.setCell ⟨b',o',none⟩ v).cell? ⟨b,o,none⟩ = w.cell? ⟨b,o,none⟩ :=by
  unfold World.cell? World.setCell
  simp only [Array.getElem?_modify]
  by_cases hb : b' = b
  · subst hb
    cases hw : w.heap[b']? with
    | none => simp
    | some x =>
      cases x <;> simp
      rw [Array.getElem?_setIfInBounds_ne (fun e => h ⟨rfl,e.symm⟩)]
  · simp [hb]
theorem cell_setCell_eq {w : World} {b o : Nat} {v u : Value} (h : w.cell? ⟨b,o,none⟩ = some u) : (w.setCell ⟨b,o,none⟩ v).cell? ⟨b,o,none⟩ = some v :=by
  unfold World.cell? World.setCell at *
  simp only [Array.getElem?_modify]
  cases hw : w.heap[b]? with
  | none => simp [hw] at h
  | some x =>
    cases x <;> simp [hw] at h ⊢
    rw [Array.getElem?_setIfInBounds_self_of_lt (Array.getElem?_eq_some_iff.1 h).1]
theorem frozen_setCell (w : World) (b o b' o' : Nat) (v : Value) : (w.setCell ⟨b',o',none⟩ v).frozen? ⟨b,o,none⟩ = w.frozen? ⟨b,o,none⟩ :=by
  unfold World.frozen? World.setCell
  simp only [Array.getElem?_modify]
  by_cases hb : b' = b
  · subst hb
    cases hw : w.heap[b']? with
    | none => simp
    | some x => cases x <;> simp
  · simp [hb]
theorem Chg.setCell (w : World) (b o : Nat) (v : Value) (M : Nat → Nat → Prop) (hm : b < w.heap.size → M b o) : Chg w (w.setCell ⟨b,o,none⟩ v) M :=by
  refine ⟨rfl,rfl,rfl,by simp [World.setCell],fun b' o' hb hn => cell_setCell_ne fun e => hn (e.1 ▸ e.2 ▸ hm (e.1 ▸ hb)),fun b' o' _ => frozen_setCell _ _ _ _ _ _,fun b' o' _ hs => ?_,fun b' hb hn => ?_⟩
  · by_cases e : b' = b ∧ o' = o
    · obtain ⟨rfl,rfl⟩ :=e
      cases hc : w.cell? ⟨b',o',none⟩ with
      | none => rw [hc] at hs;cases hs
      | some u => rw [cell_setCell_eq hc];rfl
    · rw [cell_setCell_ne e];exact hs
  · exact Below.heap_setCell _ _ _ _ (fun e => hn o (by rw [e];exact hm (by rw [← show b' = b from e];exact hb)))
theorem Chg.alloc (w : World) (o : Obj) (M : Nat → Nat → Prop) : Chg w (w.alloc o) M :=by
  refine Chg.ofOld ?_ M
  exact (Below.refl _ _).alloc (Nat.le_refl _) o
theorem Row.chg {k : IntKind} {w w' : World} {M : Nat → Nat → Prop} {b o : Nat} {xs : List Nat} (h : Row k w b o xs) (hc : Chg w w' M) (hm : ∀ j,j < xs.length → ¬ M b (o + j)) : Row k w' b o xs :=fun j x hj => by
  have hx :=h j x hj
  have hl : j < xs.length :=(List.getElem?_eq_some_iff.1 hj).1
  rw [hc.cell b (o + j) (lt_of_cell hx) (hm j hl)];exact hx
theorem Wr.chg {w w' : World} {M : Nat → Nat → Prop} {b o n : Nat} (h : Wr w b o n) (hc : Chg w w' M) : Wr w' b o n :=fun j hj => by
  obtain ⟨⟨v,hv⟩,hf⟩ :=h j hj
  have hb :=lt_of_cell hv
  refine ⟨Option.isSome_iff_exists.1 (hc.dom b (o + j) hb (by simp [hv])),?_⟩
  rw [hc.frz b (o + j) hb];exact hf
theorem Row.sub {k : IntKind} {w : World} {b o : Nat} {xs : List Nat} (h : Row k w b o xs) (i n : Nat) : Row k w b (o + i) ((xs.drop i).take n) :=fun j x hj => by
  rw [List.getElem?_take] at hj
  split at hj
  · rw [List.getElem?_drop] at hj
    rw [Nat.add_assoc];exact h (i + j) x hj
  · cases hj
theorem Row.take {k : IntKind} {w : World} {b o : Nat} {xs : List Nat} (h : Row k w b o xs) (n : Nat) : Row k w b o (xs.take n) :=h.sub 0 n
theorem Row.drop {k : IntKind} {w : World} {b o : Nat} {xs : List Nat} (h : Row k w b o xs) (i : Nat) : Row k w b (o + i) (xs.drop i) :=fun j x hj => by
  rw [List.getElem?_drop] at hj
  rw [Nat.add_assoc];exact h (i + j) x hj
theorem Row.app {k : IntKind} {w : World} {b o : Nat} {xs ys : List Nat} (h : Row k w b o xs) (h' : Row k w b (o + xs.length) ys) : Row k w b o (xs ++ ys) :=fun j x hj => by
  rw [List.getElem?_append] at hj
  split at hj
  · exact h j x hj
  · have :=h' _ x hj
    rw [Nat.add_assoc,Nat.add_sub_cancel' (by omega)] at this;exact this
theorem Wr.sub {w : World} {b o n : Nat} (h : Wr w b o n) (i m : Nat) (hm : i + m ≤ n) : Wr w b (o + i) m :=fun j hj => by
  rw [Nat.add_assoc];exact h (i + j) (by omega)
theorem Row.cell {k : IntKind} {w : World} {b o : Nat} {xs : List Nat} (h : Row k w b o xs) (j : Nat) (hj : j < xs.length) : w.cell? ⟨b,o + j,none⟩ = some (.int k (xs[j] : Nat)) :=h j _ (List.getElem?_eq_getElem hj)
theorem Row.nil {k : IntKind} {w : World} {b o : Nat} : Row k w b o [] :=fun j x h => by cases h
def val (B : Nat) : List Nat → Nat
  | [] => 0
  | x :: xs => x + B * val B xs
abbrev W64 : Nat :=18446744073709551616
theorem val_append (B : Nat) (xs ys : List Nat) : val B (xs ++ ys) = val B xs + B ^ xs.length * val B ys :=by
  induction xs with
  | nil => simp [val]
  | cons x xs ih => simp only [List.cons_append,val,ih,List.length_cons,Nat.pow_succ];rw [Nat.mul_add,Nat.add_assoc,← Nat.mul_assoc,Nat.mul_comm B (B ^ xs.length)]
theorem val_lt {B : Nat} : ∀ {xs : List Nat},(∀ x ∈ xs,x < B) → val B xs < B ^ xs.length
  | [],_ => by simp [val]
  | x :: xs,h => by
    have h1 :=h x List.mem_cons_self
    have h2 :=val_lt (fun y hy => h y (List.mem_cons_of_mem _ hy))
    simp only [val,List.length_cons,Nat.pow_succ]
    have : B * val B xs + B ≤ B * B ^ xs.length :=by
      rw [← Nat.mul_succ];exact Nat.mul_le_mul_left B h2
    rw [Nat.mul_comm (B ^ xs.length)];omega
theorem val_take_succ {B : Nat} {xs : List Nat} {k : Nat} (h : k < xs.length) : val B (xs.take (k + 1)) = val B (xs.take k) + B ^ k * xs[k] :=by
  rw [List.take_succ_eq_append_getElem h,val_append]
  simp [val,Nat.min_eq_left (Nat.le_of_lt h)]
end Go.Proofs.YtfmmdamgcpiciaaGreatDoor
namespace Go.Proofs.YtfmmdamgcpiciaaGreatDoor
open Go Go.RowKit
theorem bits_Mul64 (x y : Nat) (hx : x < 18446744073709551616) (hy : y < 18446744073709551616) (w : World) :
    Calls Tryz.prog 211 #[.int .u64 x,.int .u64 y] w fun e w' => e = .returned (.tuple #[.int .u64 ((x * y / 18446744073709551616 : Nat) : Int),.int .u64 ((x * y % 18446744073709551616 : Nat) : Int)]) ∧ w' = w :=by
  obtain ⟨bd,bt,bw,hhi⟩ :=Lib.mul64_hi x y hx hy
  have ba :=Lib.half_mul_le (a :=x / 4294967296) (b :=y / 4294967296) (by omega) (by omega)
  have bb :=Lib.half_mul_le (a :=x / 4294967296) (b :=y % 4294967296) (by omega) (by omega)
  have bc :=Lib.half_mul_le (a :=x % 4294967296) (b :=y / 4294967296) (by omega) (by omega)
  have ba' : x / 4294967296 * (y / 4294967296) < 18446744073709551616 :=by omega
  have bb' : x / 4294967296 * (y % 4294967296) < 18446744073709551616 :=by omega
  have bc' : x % 4294967296 * (y / 4294967296) < 18446744073709551616 :=by omega
  have bh1 : x / 4294967296 * (y / 4294967296) + (x / 4294967296 * (y % 4294967296) + x % 4294967296 * (y % 4294967296) / 4294967296) / 4294967296 < 18446744073709551616 :=by omega
  have bh : x / 4294967296 * (y / 4294967296) + (x / 4294967296 * (y % 4294967296) + x % 4294967296 * (y % 4294967296) / 4294967296) / 4294967296 + ((x / 4294967296 * (y % 4294967296) + x % 4294967296 * (y % 4294967296) / 4294967296) % 4294967296 + x % 4294967296 * (y / 4294967296)) / 4294967296 < 18446744073709551616 :=by omega
  go_enter Tryz.func211,Tryz.ntmps211
  go_wp2
  simp only [Mul64.maskN x hx,Mul64.maskN y hy,Mul64.divN,Mul64.mulN,Mul64.addN,Mul64.wrapN _ bd,Mul64.wrapN _ bb',Mul64.wrapN _ bt,Mul64.maskN _ bt,Mul64.wrapN _ bc',Mul64.wrapN _ bw,Mul64.wrapN _ ba',Mul64.wrapN _ bh1,Mul64.wrapN _ bh,Mul64.wrapM (x * y)]
  rw [hhi]
  go_ret2
  exact ⟨rfl,rfl⟩
theorem bits_Mul (x y : Nat) (hx : x < 18446744073709551616) (hy : y < 18446744073709551616) (w : World) :
    Calls Tryz.prog 168 #[.int .u64 x,.int .u64 y] w fun e w' => e = .returned (.tuple #[.int .u64 ((x * y / 18446744073709551616 : Nat) : Int),.int .u64 ((x * y % 18446744073709551616 : Nat) : Int)]) ∧ w' = w :=by
  go_enter Tryz.func168,Tryz.ntmps168
  go_wp2_with (go_at_call 211;refine (bits_Mul64 x y hx hy w).mono ?_;rintro e w' ⟨rfl,hw⟩;rw [hw])
  go_ret2
  exact ⟨rfl,rfl⟩
theorem mulWW (x y : Nat) (hx : x < 18446744073709551616) (hy : y < 18446744073709551616) (w : World) :
    Calls Tryz.prog 141 #[.int .u64 x,.int .u64 y] w fun e w' => e = .returned (.tuple #[.int .u64 ((x * y / 18446744073709551616 : Nat) : Int),.int .u64 ((x * y % 18446744073709551616 : Nat) : Int)]) ∧ w' = w :=by
  go_enter Tryz.func141,Tryz.ntmps141
  go_wp2_with (go_at_call 168;refine (bits_Mul x y hx hy w).mono ?_;rintro e w' ⟨rfl,hw⟩;rw [hw])
  go_ret2
  exact ⟨rfl,rfl⟩
theorem callAdd64 (x y c : Nat) (hc : c ≤ 1) (w : World) : (callFunc 206 #[.int .u64 x,.int .u64 y,.int .u64 c]).run Tryz.prog w =
    .ok (.value (.tuple #[.int .u64 (((x + y + c) % 18446744073709551616 : Nat) : Int),.int .u64 (((x + y + c) / 18446744073709551616 : Nat) : Int)])) w :=by
  rw [run_callFunc_extern Tryz.func206 (by kernel_rfl) (by kernel_rfl) (by kernel_rfl) (e :=add64Entry) (by kernel_rfl),run_add64 (x : Int) y c (by omega) (by omega) (by omega) (by omega)]
  simp [Result.andThen]
def sub64Entry : Array Value → Sem Value :=fun args => do
  let (x, y, b) ← Extern.MathBitsCarry.three "Sub64" args
  pure (Extern.MathBitsCarry.pair ((x + Extern.MathBitsCarry.m64 - y - b) % Extern.MathBitsCarry.m64) (if x < y + b then 1 else 0))
theorem callSub64 (x y c : Nat) (hc : c ≤ 1) (w : World) : (callFunc 208 #[.int .u64 x,.int .u64 y,.int .u64 c]).run Tryz.prog w =
    .ok (.value (.tuple #[.int .u64 (((x + 18446744073709551616 - y - c) % 18446744073709551616 : Nat) : Int),.int .u64 ((if x < y + c then 1 else 0 : Nat) : Int)])) w :=by
  have key : (sub64Entry #[.int .u64 x,.int .u64 y,.int .u64 c]).run Tryz.prog w =
      .ok (Extern.MathBitsCarry.pair ((x + Extern.MathBitsCarry.m64 - y - c) % Extern.MathBitsCarry.m64) (if x < y + c then 1 else 0)) w :=by
    have : c = 0 ∨ c = 1 :=by omega
    rcases this with rfl | rfl <;> rfl
  rw [run_callFunc_extern Tryz.func208 (by kernel_rfl) (by kernel_rfl) (by kernel_rfl) (e :=sub64Entry) (by kernel_rfl),key]
  simp [Result.andThen,Extern.MathBitsCarry.pair,Extern.MathBitsCarry.m64]
theorem bits_Add (x y c : Nat) (hc : c ≤ 1) (w : World) :
    Calls Tryz.prog 163 #[.int .u64 x,.int .u64 y,.int .u64 c] w fun e w' => e = .returned (.tuple #[.int .u64 (((x + y + c) % 18446744073709551616 : Nat) : Int),.int .u64 (((x + y + c) / 18446744073709551616 : Nat) : Int)]) ∧ w' = w :=by
  have ha :=callAdd64 x y c hc
  generalize (((x + y + c) % 18446744073709551616 : Nat) : Int) = s at *
  generalize (((x + y + c) / 18446744073709551616 : Nat) : Int) = t at *
  go_enter Tryz.func163,Tryz.ntmps163
  go_wp2
  go_ret2
  exact ⟨rfl,rfl⟩
theorem bits_Sub (x y c : Nat) (hc : c ≤ 1) (w : World) :
    Calls Tryz.prog 165 #[.int .u64 x,.int .u64 y,.int .u64 c] w fun e w' => e = .returned (.tuple #[.int .u64 (((x + 18446744073709551616 - y - c) % 18446744073709551616 : Nat) : Int),.int .u64 ((if x < y + c then 1 else 0 : Nat) : Int)]) ∧ w' = w :=by
  have ha :=callSub64 x y c hc
  generalize (((x + 18446744073709551616 - y - c) % 18446744073709551616 : Nat) : Int) = s at *
  generalize ((if x < y + c then 1 else 0 : Nat) : Int) = t at *
  go_enter Tryz.func165,Tryz.ntmps165
  go_wp2
  go_ret2
  exact ⟨rfl,rfl⟩
theorem mulAdd_bound {x y c : Nat} (hx : x < W64) (hy : y < W64) (hc : c < W64) : x * y + c < W64 * W64 :=by
  have : x * y ≤ (W64 - 1) * (W64 - 1) :=Nat.mul_le_mul (by omega) (by omega)
  have h2 : (W64 - 1) * (W64 - 1) + W64 ≤ W64 * W64 :=by decide
  omega
theorem mulAdd_split (x y c : Nat) : x * y / W64 + (x * y % W64 + c) / W64 = (x * y + c) / W64 ∧ (x * y % W64 + c) % W64 = (x * y + c) % W64 :=by
  have : x * y + c = (x * y % W64 + c) + W64 * (x * y / W64) :=by have :=Nat.mod_add_div (x * y) W64;omega
  rw [this,Nat.add_mul_div_left _ _ (by decide),Nat.add_mul_mod_self_left]
  exact ⟨Nat.add_comm _ _,rfl⟩
theorem mulAddWWW (x y c : Nat) (hx : x < W64) (hy : y < W64) (hc : c < W64) (w : World) :
    Calls Tryz.prog 253 #[.int .u64 x,.int .u64 y,.int .u64 c] w fun e w' => e = .returned (.tuple #[.int .u64 (((x * y + c) / W64 : Nat) : Int),.int .u64 (((x * y + c) % W64 : Nat) : Int)]) ∧ w' = w :=by
  obtain ⟨h1,h2⟩ :=mulAdd_split x y c
  have hb :=mulAdd_bound hx hy hc
  have hq : (x * y + c) / W64 < W64 :=Nat.div_lt_of_lt_mul hb
  rw [← h1] at hq ⊢
  rw [← h2]
  have cm :=bits_Mul x y hx hy
  have ca :=bits_Add (x * y % W64) c 0 (by omega)
  have hl : x * y % W64 < W64 :=Nat.mod_lt _ (by decide)
  unfold W64 at *
  generalize hA : x * y / 18446744073709551616 = A at *
  generalize hB : x * y % 18446744073709551616 = B at *
  simp only [Nat.add_zero] at ca
  generalize hC : (B + c) / 18446744073709551616 = C at *
  generalize hD : (B + c) % 18446744073709551616 = D at *
  clear hA hB hC hD h1 h2 hb
  go_enter Tryz.func253,Tryz.ntmps253
  go_wp2_with (first | (go_at_call 168;refine (cm _).mono ?_;rintro e w' ⟨rfl,rfl⟩) | (go_at_call 163;refine (ca _).mono ?_;rintro e w' ⟨rfl,rfl⟩))
  go_ret2
  exact ⟨rfl,rfl⟩
end Go.Proofs.YtfmmdamgcpiciaaGreatDoor
namespace Go.Proofs.YtfmmdamgcpiciaaGreatDoor
open Go Go.RowKit
def In (b o n : Nat) : Nat → Nat → Prop :=fun b' o' => b' = b ∧ o ≤ o' ∧ o' < o + n
def Ahead (bx ox bz oz n : Nat) : Prop :=bx ≠ bz ∨ oz ≤ ox ∨ ox + n ≤ oz
def Lt (B : Nat) (xs : List Nat) : Prop :=∀ x ∈ xs,x < B
theorem Chg.inMono {w w' : World} {b o n m : Nat} (h : Chg w w' (In b o n)) (hn : n ≤ m) : Chg w w' (In b o m) :=
  h.mono fun b' o' _ ⟨h1,h2,h3⟩ => ⟨h1,h2,by omega⟩
theorem Chg.store {w w' : World} {b o k : Nat} (h : Chg w w' (In b o k)) (v : Value) : Chg w (w'.setCell ⟨b,o + k,none⟩ v) (In b o (k + 1)) :=
  (h.inMono (Nat.le_succ k)).trans (Chg.setCell w' b (o + k) v _ fun _ => ⟨rfl,by omega,by omega⟩) (fun _ _ _ h => h)
theorem Row.store {w : World} {b o : Nat} {zs : List Nat} (h : Row .u64 w b o zs) (z : Nat) (hw : ∃ u,w.cell? ⟨b,o + zs.length,none⟩ = some u) : Row .u64 (w.setCell ⟨b,o + zs.length,none⟩ (.int .u64 z)) b o (zs ++ [z]) :=by
  obtain ⟨u,hu⟩ :=hw
  refine Row.app ?_ ?_
  · intro j x hj
    rw [cell_setCell_ne (by rintro ⟨_,h2⟩;have :=(List.getElem?_eq_some_iff.1 hj).1;omega)];exact h j x hj
  · intro j x hj
    cases j with
    | zero => simp at hj;subst hj;exact cell_setCell_eq hu
    | succ j => simp at hj
theorem Lt.snoc {B : Nat} {xs : List Nat} {x : Nat} (h : Lt B xs) (hx : x < B) : Lt B (xs ++ [x]) :=fun y hy => by
  rcases List.mem_append.1 hy with h1 | h1
  · exact h y h1
  · rw [List.mem_singleton.1 h1];exact hx
theorem add_step (x y c : Nat) : (x + y + c) % W64 + W64 * ((x + y + c) / W64) = x + y + c :=Nat.mod_add_div _ _
theorem addVV_arith {zs xs ys : List Nat} {k c x y : Nat} (hz : zs.length = k) (h : val W64 zs + W64 ^ k * c = val W64 (xs.take k) + val W64 (ys.take k)) (hx : xs[k]? = some x) (hy : ys[k]? = some y) :
    val W64 (zs ++ [(x + y + c) % W64]) + W64 ^ (k + 1) * ((x + y + c) / W64) = val W64 (xs.take (k + 1)) + val W64 (ys.take (k + 1)) :=by
  obtain ⟨hx1,hx2⟩ :=List.getElem?_eq_some_iff.1 hx
  obtain ⟨hy1,hy2⟩ :=List.getElem?_eq_some_iff.1 hy
  rw [val_append,hz,val_take_succ hx1,val_take_succ hy1,hx2,hy2]
  have :=add_step x y c
  simp only [val,Nat.mul_zero,Nat.add_zero,Nat.pow_succ]
  generalize W64 ^ k = P at *
  generalize (x + y + c) / W64 = q at *
  generalize (x + y + c) % W64 = r at *
  have e : P * r + P * W64 * q = P * x + P * y + P * c :=by
    rw [Nat.mul_assoc,← Nat.mul_add,this];simp only [Nat.mul_add]
  omega
theorem carry_le {x y c : Nat} (hx : x < W64) (hy : y < W64) (hc : c ≤ 1) : (x + y + c) / W64 ≤ 1 :=by
  have : x + y + c < W64 * 2 :=by omega
  have :=Nat.div_lt_of_lt_mul this
  omega
theorem addVV_g (w : World) (az ax ay : Option Addr) (bz oz bx ox by' oy n cz cx cy : Nat) (xs ys : List Nat) (hn : n ≤ 9223372036854775807)
    (haz : 0 < n → az = some ⟨bz,oz,none⟩) (hax : 0 < n → ax = some ⟨bx,ox,none⟩) (hay : 0 < n → ay = some ⟨by',oy,none⟩)
    (hx : Row .u64 w bx ox xs) (hy : Row .u64 w by' oy ys) (hlx : xs.length = n) (hly : ys.length = n) (hbx : Lt W64 xs) (hby : Lt W64 ys) (hz : Wr w bz oz n)
    (fx : Ahead bx ox bz oz n) (fy : Ahead by' oy bz oz n) :
    Calls Tryz.prog 162 #[.slice az n cz,.slice ax n cx,.slice ay n cy] w fun e w' => ∃ zs c,e = .returned (.int .u64 (c : Nat)) ∧ zs.length = n ∧ Row .u64 w' bz oz zs ∧ Lt W64 zs ∧
      val W64 zs + W64 ^ n * c = val W64 xs + val W64 ys ∧ c ≤ 1 ∧ Chg w w' (In bz oz n) ∧ w'.heap.size = w.heap.size :=by
  go_enter Tryz.func162,Tryz.ntmps162
  go_wp2
  go_loopw [6,25] (fun c i wr => ∃ (k : Nat) (zs : List Nat) (cc : Nat),k ≤ n ∧ i = .int .i64 k ∧ c = .int .u64 cc ∧ cc ≤ 1 ∧ zs.length = k ∧ Row .u64 wr bz oz zs ∧ Lt W64 zs ∧
      val W64 zs + W64 ^ k * cc = val W64 (xs.take k) + val W64 (ys.take k) ∧ Chg w wr (In bz oz k) ∧ wr.heap.size = w.heap.size) (fun _ i _ => n - (intOf i).toNat)
  case atStart => exact ⟨0,[],0,Nat.zero_le _,rfl,rfl,by omega,rfl,Row.nil,(fun x h => by cases h),by simp [val],Chg.refl _ _,rfl⟩
  case round =>
    obtain ⟨k,zs,cc,hk,rfl,rfl,hcc,hlz,hrz,hltz,hval,hchg,hsz⟩ :=hrel
    by_cases hlt : k < n
    · obtain rfl :=haz (by omega)
      obtain rfl :=hax (by omega)
      obtain rfl :=hay (by omega)
      have gx : xs[k]? = some xs[k] :=List.getElem?_eq_getElem (by omega)
      have gy : ys[k]? = some ys[k] :=List.getElem?_eq_getElem (by omega)
      have bx1 : xs[k] < W64 :=hbx _ (List.getElem_mem _)
      have by1 : ys[k] < W64 :=hby _ (List.getElem_mem _)
      generalize xs[k] = x at gx bx1
      generalize ys[k] = y at gy by1
      have cx1 :=hx k x gx
      have cy1 :=hy k y gy
      have cx2 : wr.cell? ⟨bx,ox + k,none⟩ = some (.int .u64 x) :=by
        rw [hchg.cell bx (ox + k) (lt_of_cell cx1) (by rintro ⟨h1,h2,h3⟩;rcases fx with h | h | h <;> omega)];exact cx1
      have cy2 : wr.cell? ⟨by',oy + k,none⟩ = some (.int .u64 y) :=by
        rw [hchg.cell by' (oy + k) (lt_of_cell cy1) (by rintro ⟨h1,h2,h3⟩;rcases fy with h | h | h <;> omega)];exact cy1
      obtain ⟨⟨u,cz1⟩,fz1⟩ :=(hz.chg hchg) k hlt
      have ca :=bits_Add x y cc hcc
      have arith :=addVV_arith hlz hval gx gy
      have cle :=carry_le bx1 by1 hcc
      have mlt : (x + y + cc) % W64 < W64 :=Nat.mod_lt _ (by decide)
      unfold W64 at arith cle mlt
      generalize (x + y + cc) / 18446744073709551616 = q at *
      generalize (x + y + cc) % 18446744073709551616 = r at *
      go_wp2_with fail
      refine wp_region_lit_segs [[0,1,2,3,4,5,6,7,8,9,10,11,12,13,14]] mixed (by kernel_rfl) ?_
      simp only [wpSegsL,gaC,gaN,lZ0,lS0,coS]
      go_wp2_with (go_at_call 163;refine (ca _).mono ?_;rintro e w' ⟨rfl,hw⟩;rw [hw])
      refine ⟨by kernel_rfl,?_⟩
      go_wp2
      go_roundw
      case rel =>
        subst hlz
        exact ⟨_,zs ++ [r],q,hlt,rfl,rfl,cle,by simp,(hrz.store r ⟨u,cz1⟩),Lt.snoc hltz mlt,arith,(hchg.store _).drew,by rw [← hsz];simp [World.drew,World.setCell]⟩
      case measure => simp [intOf];omega
    · go_wp2
      go_ret
      have hk' : k = n :=by omega
      subst hk'
      rw [List.take_of_length_le (by omega),List.take_of_length_le (by omega)] at hval
      exact ⟨zs,cc,rfl,hlz,hrz,hltz,hval,hcc,hchg,hsz⟩
theorem sub_step {W x y c : Nat} (bx : x < W) (by' : y < W) (bc : c ≤ 1) : (x + W - y - c) % W + y + c = x + W * (if x < y + c then 1 else 0) :=by
  by_cases h : x < y + c
  · rw [if_pos h,Nat.mod_eq_of_lt (by omega)];omega
  · rw [if_neg h,show x + W - y - c = (x - y - c) + W by omega,Nat.add_mod_right,Nat.mod_eq_of_lt (by omega)];omega
theorem sub_combine {Z Y X P c r y x q W : Nat} (h : Z + Y = X + P * c) (hs : r + y + c = x + W * q) : Z + P * r + (Y + P * y) = X + P * x + P * W * q :=by
  have e : P * r + P * y + P * c = P * x + P * W * q :=by
    rw [Nat.mul_assoc,← Nat.mul_add,← Nat.mul_add,hs,Nat.mul_add]
  omega
theorem subVV_arith {W : Nat} {zs xs ys : List Nat} {k c x y : Nat} (hz : zs.length = k) (h : val W zs + val W (ys.take k) = val W (xs.take k) + W ^ k * c) (hx : xs[k]? = some x) (hy : ys[k]? = some y) (bx : x < W) (by' : y < W) (bc : c ≤ 1) :
    val W (zs ++ [(x + W - y - c) % W]) + val W (ys.take (k + 1)) = val W (xs.take (k + 1)) + W ^ (k + 1) * (if x < y + c then 1 else 0) :=by
  obtain ⟨hx1,hx2⟩ :=List.getElem?_eq_some_iff.1 hx
  obtain ⟨hy1,hy2⟩ :=List.getElem?_eq_some_iff.1 hy
  rw [val_append,hz,val_take_succ hx1,val_take_succ hy1,hx2,hy2,Nat.pow_succ]
  simp only [val,Nat.mul_zero,Nat.add_zero]
  exact sub_combine h (sub_step bx by' bc)
theorem subVV_g (w : World) (az ax ay : Option Addr) (bz oz bx ox by' oy n cz cx cy : Nat) (xs ys : List Nat) (hn : n ≤ 9223372036854775807)
    (haz : 0 < n → az = some ⟨bz,oz,none⟩) (hax : 0 < n → ax = some ⟨bx,ox,none⟩) (hay : 0 < n → ay = some ⟨by',oy,none⟩)
    (hx : Row .u64 w bx ox xs) (hy : Row .u64 w by' oy ys) (hlx : xs.length = n) (hly : ys.length = n) (hbx : Lt W64 xs) (hby : Lt W64 ys) (hz : Wr w bz oz n)
    (fx : Ahead bx ox bz oz n) (fy : Ahead by' oy bz oz n) :
    Calls Tryz.prog 164 #[.slice az n cz,.slice ax n cx,.slice ay n cy] w fun e w' => ∃ zs c,e = .returned (.int .u64 (c : Nat)) ∧ zs.length = n ∧ Row .u64 w' bz oz zs ∧ Lt W64 zs ∧
      val W64 zs + val W64 ys = val W64 xs + W64 ^ n * c ∧ c ≤ 1 ∧ Chg w w' (In bz oz n) ∧ w'.heap.size = w.heap.size :=by
  go_enter Tryz.func164,Tryz.ntmps164
  go_wp2
  go_loopw [6,25] (fun c i wr => ∃ (k : Nat) (zs : List Nat) (cc : Nat),k ≤ n ∧ i = .int .i64 k ∧ c = .int .u64 cc ∧ cc ≤ 1 ∧ zs.length = k ∧ Row .u64 wr bz oz zs ∧ Lt W64 zs ∧
      val W64 zs + val W64 (ys.take k) = val W64 (xs.take k) + W64 ^ k * cc ∧ Chg w wr (In bz oz k) ∧ wr.heap.size = w.heap.size) (fun _ i _ => n - (intOf i).toNat)
  case atStart => exact ⟨0,[],0,Nat.zero_le _,rfl,rfl,by omega,rfl,Row.nil,(fun x h => by cases h),by simp [val],Chg.refl _ _,rfl⟩
  case round =>
    obtain ⟨k,zs,cc,hk,rfl,rfl,hcc,hlz,hrz,hltz,hval,hchg,hsz⟩ :=hrel
    by_cases hlt : k < n
    · obtain rfl :=haz (by omega)
      obtain rfl :=hax (by omega)
      obtain rfl :=hay (by omega)
      have gx : xs[k]? = some xs[k] :=List.getElem?_eq_getElem (by omega)
      have gy : ys[k]? = some ys[k] :=List.getElem?_eq_getElem (by omega)
      have bx1 : xs[k] < W64 :=hbx _ (List.getElem_mem _)
      have by1 : ys[k] < W64 :=hby _ (List.getElem_mem _)
      generalize xs[k] = x at gx bx1
      generalize ys[k] = y at gy by1
      have cx1 :=hx k x gx
      have cy1 :=hy k y gy
      have cx2 : wr.cell? ⟨bx,ox + k,none⟩ = some (.int .u64 x) :=by
        rw [hchg.cell bx (ox + k) (lt_of_cell cx1) (by rintro ⟨h1,h2,h3⟩;rcases fx with h | h | h <;> omega)];exact cx1
      have cy2 : wr.cell? ⟨by',oy + k,none⟩ = some (.int .u64 y) :=by
        rw [hchg.cell by' (oy + k) (lt_of_cell cy1) (by rintro ⟨h1,h2,h3⟩;rcases fy with h | h | h <;> omega)];exact cy1
      obtain ⟨⟨u,cz1⟩,fz1⟩ :=(hz.chg hchg) k hlt
      have ca :=bits_Sub x y cc hcc
      have arith :=subVV_arith hlz hval gx gy bx1 by1 hcc
      have cle : (if x < y + cc then 1 else 0) ≤ 1 :=by split <;> omega
      have mlt : (x + W64 - y - cc) % W64 < W64 :=Nat.mod_lt _ (by decide)
      unfold W64 at arith cle mlt
      generalize (if x < y + cc then 1 else 0) = q at *
      generalize (x + 18446744073709551616 - y - cc) % 18446744073709551616 = r at *
      go_wp2_with fail
      refine wp_region_lit_segs [[0,1,2,3,4,5,6,7,8,9,10,11,12,13,14]] mixed (by kernel_rfl) ?_
      simp only [wpSegsL,gaC,gaN,lZ0,lS0,coS]
      go_wp2_with (go_at_call 165;refine (ca _).mono ?_;rintro e w' ⟨rfl,hw⟩;rw [hw])
      refine ⟨by kernel_rfl,?_⟩
      go_wp2
      go_roundw
      case rel =>
        subst hlz
        exact ⟨_,zs ++ [r],q,hlt,rfl,rfl,cle,by simp,(hrz.store r ⟨u,cz1⟩),Lt.snoc hltz mlt,arith,(hchg.store _).drew,by rw [← hsz];simp [World.drew,World.setCell]⟩
      case measure => simp [intOf];omega
    · go_wp2
      go_ret
      have hk' : k = n :=by omega
      subst hk'
      rw [List.take_of_length_le (by omega),List.take_of_length_le (by omega)] at hval
      exact ⟨zs,cc,rfl,hlz,hrz,hltz,hval,hcc,hchg,hsz⟩
theorem mulAdd_arith {zs xs : List Nat} {k c x m a : Nat} (hz : zs.length = k) (h : val W64 zs + W64 ^ k * c = val W64 (xs.take k) * m + a) (hx : xs[k]? = some x) :
    val W64 (zs ++ [(x * m + c) % W64]) + W64 ^ (k + 1) * ((x * m + c) / W64) = val W64 (xs.take (k + 1)) * m + a :=by
  obtain ⟨hx1,hx2⟩ :=List.getElem?_eq_some_iff.1 hx
  rw [val_append,hz,val_take_succ hx1,hx2]
  have hs : (x * m + c) % W64 + W64 * ((x * m + c) / W64) = x * m + c :=Nat.mod_add_div _ _
  simp only [val,Nat.mul_zero,Nat.add_zero,Nat.pow_succ]
  generalize W64 ^ k = P at *
  generalize (x * m + c) / W64 = q at *
  generalize (x * m + c) % W64 = r at *
  have e : P * r + P * W64 * q = P * x * m + P * c :=by
    rw [Nat.mul_assoc,← Nat.mul_add,hs,Nat.mul_add,Nat.mul_assoc]
  rw [Nat.add_mul]
  omega
theorem mulAddVWW_g (w : World) (az ax : Option Addr) (bz oz bx ox n cz cx m a : Nat) (xs : List Nat) (hn : n ≤ 9223372036854775807)
    (haz : 0 < n → az = some ⟨bz,oz,none⟩) (hax : 0 < n → ax = some ⟨bx,ox,none⟩)
    (hx : Row .u64 w bx ox xs) (hlx : xs.length = n) (hbx : Lt W64 xs) (hm : m < W64) (ha : a < W64) (hz : Wr w bz oz n)
    (fx : Ahead bx ox bz oz n) :
    Calls Tryz.prog 213 #[.slice az n cz,.slice ax n cx,.int .u64 m,.int .u64 a] w fun e w' => ∃ zs c,e = .returned (.int .u64 (c : Nat)) ∧ zs.length = n ∧ Row .u64 w' bz oz zs ∧ Lt W64 zs ∧
      val W64 zs + W64 ^ n * c = val W64 xs * m + a ∧ c < W64 ∧ Chg w w' (In bz oz n) ∧ w'.heap.size = w.heap.size :=by
  go_enter Tryz.func213,Tryz.ntmps213
  go_wp2
  go_loopw [8,19] (fun c i wr => ∃ (k : Nat) (zs : List Nat) (cc : Nat),k ≤ n ∧ i = .int .i64 k ∧ c = .int .u64 cc ∧ cc < W64 ∧ zs.length = k ∧ Row .u64 wr bz oz zs ∧ Lt W64 zs ∧
      val W64 zs + W64 ^ k * cc = val W64 (xs.take k) * m + a ∧ Chg w wr (In bz oz k) ∧ wr.heap.size = w.heap.size) (fun _ i _ => n - (intOf i).toNat)
  case atStart => exact ⟨0,[],a,Nat.zero_le _,rfl,rfl,ha,rfl,Row.nil,(fun x h => by cases h),by simp [val],Chg.refl _ _,rfl⟩
  case round =>
    obtain ⟨k,zs,cc,hk,rfl,rfl,hcc,hlz,hrz,hltz,hval,hchg,hsz⟩ :=hrel
    by_cases hlt : k < n
    · obtain rfl :=haz (by omega)
      obtain rfl :=hax (by omega)
      have gx : xs[k]? = some xs[k] :=List.getElem?_eq_getElem (by omega)
      have bx1 : xs[k] < W64 :=hbx _ (List.getElem_mem _)
      generalize xs[k] = x at gx bx1
      have cx1 :=hx k x gx
      have cx2 : wr.cell? ⟨bx,ox + k,none⟩ = some (.int .u64 x) :=by
        rw [hchg.cell bx (ox + k) (lt_of_cell cx1) (by rintro ⟨h1,h2,h3⟩;rcases fx with h | h | h <;> omega)];exact cx1
      obtain ⟨⟨u,cz1⟩,fz1⟩ :=(hz.chg hchg) k hlt
      have ca :=mulAddWWW x m cc bx1 hm hcc
      have arith :=mulAdd_arith hlz hval gx
      have cle : (x * m + cc) / W64 < W64 :=Nat.div_lt_of_lt_mul (mulAdd_bound bx1 hm hcc)
      have mlt : (x * m + cc) % W64 < W64 :=Nat.mod_lt _ (by decide)
      unfold W64 at arith cle mlt ca
      generalize (x * m + cc) / 18446744073709551616 = q at *
      generalize (x * m + cc) % 18446744073709551616 = r at *
      go_wp2_with (go_at_call 253;refine (ca _).mono ?_;rintro e w' ⟨rfl,hw⟩;rw [hw])
      go_roundw
      case rel =>
        subst hlz
        exact ⟨_,zs ++ [r],q,hlt,rfl,rfl,cle,by simp,(hrz.store r ⟨u,cz1⟩),Lt.snoc hltz mlt,arith,hchg.store _,by rw [← hsz];simp [World.setCell]⟩
      case measure => simp [intOf];omega
    · go_wp2
      go_ret
      have hk' : k = n :=by omega
      subst hk'
      rw [List.take_of_length_le (by omega)] at hval
      exact ⟨zs,cc,rfl,hlz,hrz,hltz,hval,hcc,hchg,hsz⟩
theorem addMul_arith {zs xs ys : List Nat} {k c x y m a : Nat} (hz : zs.length = k) (h : val W64 zs + W64 ^ k * c = val W64 (xs.take k) + val W64 (ys.take k) * m + a) (hx : xs[k]? = some x) (hy : ys[k]? = some y) :
    val W64 (zs ++ [((y * m + x) % W64 + c) % W64]) + W64 ^ (k + 1) * (((y * m + x) % W64 + c) / W64 + (y * m + x) / W64) = val W64 (xs.take (k + 1)) + val W64 (ys.take (k + 1)) * m + a :=by
  obtain ⟨hx1,hx2⟩ :=List.getElem?_eq_some_iff.1 hx
  obtain ⟨hy1,hy2⟩ :=List.getElem?_eq_some_iff.1 hy
  rw [val_append,hz,val_take_succ hx1,hx2,val_take_succ hy1,hy2]
  have hs : ((y * m + x) % W64 + c) % W64 + W64 * (((y * m + x) % W64 + c) / W64 + (y * m + x) / W64) = y * m + x + c :=by
    have h1 :=Nat.mod_add_div ((y * m + x) % W64 + c) W64
    have h2 :=Nat.mod_add_div (y * m + x) W64
    rw [Nat.mul_add]
    generalize W64 * (((y * m + x) % W64 + c) / W64) = A at *
    generalize W64 * ((y * m + x) / W64) = B at *
    omega
  simp only [val,Nat.mul_zero,Nat.add_zero,Nat.pow_succ]
  generalize W64 ^ k = P at *
  generalize ((y * m + x) % W64 + c) / W64 + (y * m + x) / W64 = q at *
  generalize ((y * m + x) % W64 + c) % W64 = r at *
  have e : P * r + P * W64 * q = P * y * m + P * x + P * c :=by
    rw [Nat.mul_assoc,← Nat.mul_add,hs,Nat.mul_add,Nat.mul_add,Nat.mul_assoc]
  rw [Nat.add_mul]
  omega
theorem addMul_carry {x y m c : Nat} (hx : x < W64) (hy : y < W64) (hm : m < W64) (hc : c < W64) : ((y * m + x) % W64 + c) / W64 + (y * m + x) / W64 < W64 :=by
  have h1 : y * m ≤ (W64 - 1) * (W64 - 1) :=Nat.mul_le_mul (by omega) (by omega)
  have h0 : (W64 - 1) * (W64 - 1) + (W64 - 1) + (W64 - 1) < W64 * W64 :=by decide
  have h2 : y * m + x + c < W64 * W64 :=by omega
  have h3 : (y * m + x + c) / W64 < W64 :=Nat.div_lt_of_lt_mul h2
  have h4 : ((y * m + x) % W64 + c) / W64 + (y * m + x) / W64 = (y * m + x + c) / W64 :=by
    have : y * m + x + c = ((y * m + x) % W64 + c) + W64 * ((y * m + x) / W64) :=by have :=Nat.mod_add_div (y * m + x) W64;omega
    rw [this,Nat.add_mul_div_left _ _ (by decide)]
  rw [h4];exact h3
theorem addMul_small {x y m c : Nat} (hc : c < W64) : ((y * m + x) % W64 + c) / W64 ≤ 1 :=by
  have h1 : (y * m + x) % W64 < W64 :=Nat.mod_lt _ (by decide)
  have :=Nat.div_lt_of_lt_mul (show (y * m + x) % W64 + c < W64 * 2 by omega)
  omega
theorem addMulVVWW_g (w : World) (az ax ay : Option Addr) (bz oz bx ox by' oy n cz cx cy m a : Nat) (xs ys : List Nat) (hn : n ≤ 9223372036854775807)
    (haz : 0 < n → az = some ⟨bz,oz,none⟩) (hax : 0 < n → ax = some ⟨bx,ox,none⟩) (hay : 0 < n → ay = some ⟨by',oy,none⟩)
    (hx : Row .u64 w bx ox xs) (hy : Row .u64 w by' oy ys) (hlx : xs.length = n) (hly : ys.length = n) (hbx : Lt W64 xs) (hby : Lt W64 ys) (hm : m < W64) (ha : a < W64) (hz : Wr w bz oz n)
    (fx : Ahead bx ox bz oz n) (fy : Ahead by' oy bz oz n) :
    Calls Tryz.prog 212 #[.slice az n cz,.slice ax n cx,.slice ay n cy,.int .u64 m,.int .u64 a] w fun e w' => ∃ zs c,e = .returned (.int .u64 (c : Nat)) ∧ zs.length = n ∧ Row .u64 w' bz oz zs ∧ Lt W64 zs ∧
      val W64 zs + W64 ^ n * c = val W64 xs + val W64 ys * m + a ∧ c < W64 ∧ Chg w w' (In bz oz n) ∧ w'.heap.size = w.heap.size :=by
  go_enter Tryz.func212,Tryz.ntmps212
  go_wp2
  go_loopw [10,32] (fun c i wr => ∃ (k : Nat) (zs : List Nat) (cc : Nat),k ≤ n ∧ i = .int .i64 k ∧ c = .int .u64 cc ∧ cc < W64 ∧ zs.length = k ∧ Row .u64 wr bz oz zs ∧ Lt W64 zs ∧
      val W64 zs + W64 ^ k * cc = val W64 (xs.take k) + val W64 (ys.take k) * m + a ∧ Chg w wr (In bz oz k) ∧ wr.heap.size = w.heap.size) (fun _ i _ => n - (intOf i).toNat)
  case atStart => exact ⟨0,[],a,Nat.zero_le _,rfl,rfl,ha,rfl,Row.nil,(fun x h => by cases h),by simp [val],Chg.refl _ _,rfl⟩
  case round =>
    obtain ⟨k,zs,cc,hk,rfl,rfl,hcc,hlz,hrz,hltz,hval,hchg,hsz⟩ :=hrel
    by_cases hlt : k < n
    · obtain rfl :=haz (by omega)
      obtain rfl :=hax (by omega)
      obtain rfl :=hay (by omega)
      have gx : xs[k]? = some xs[k] :=List.getElem?_eq_getElem (by omega)
      have gy : ys[k]? = some ys[k] :=List.getElem?_eq_getElem (by omega)
      have bx1 : xs[k] < W64 :=hbx _ (List.getElem_mem _)
      have by1 : ys[k] < W64 :=hby _ (List.getElem_mem _)
      generalize xs[k] = x at gx bx1
      generalize ys[k] = y at gy by1
      have cx1 :=hx k x gx
      have cy1 :=hy k y gy
      have cx2 : wr.cell? ⟨bx,ox + k,none⟩ = some (.int .u64 x) :=by
        rw [hchg.cell bx (ox + k) (lt_of_cell cx1) (by rintro ⟨h1,h2,h3⟩;rcases fx with h | h | h <;> omega)];exact cx1
      have cy2 : wr.cell? ⟨by',oy + k,none⟩ = some (.int .u64 y) :=by
        rw [hchg.cell by' (oy + k) (lt_of_cell cy1) (by rintro ⟨h1,h2,h3⟩;rcases fy with h | h | h <;> omega)];exact cy1
      obtain ⟨⟨u,cz1⟩,fz1⟩ :=(hz.chg hchg) k hlt
      have ca :=mulAddWWW y m x by1 hm bx1
      have cb :=bits_Add ((y * m + x) % W64) cc 0 (by omega)
      have arith :=addMul_arith (m :=m) (a :=a) hlz hval gx gy
      have cle :=addMul_carry bx1 by1 hm hcc
      have csm :=addMul_small (x :=x) (y :=y) (m :=m) hcc
      have mlt : ((y * m + x) % W64 + cc) % W64 < W64 :=Nat.mod_lt _ (by decide)
      simp only [Nat.add_zero] at cb
      unfold W64 at arith cle mlt ca cb csm
      generalize (y * m + x) / 18446744073709551616 = q at *
      generalize (y * m + x) % 18446744073709551616 = r at *
      generalize (r + cc) / 18446744073709551616 = q2 at *
      generalize (r + cc) % 18446744073709551616 = r2 at *
      go_wp2_with fail
      refine wp_region_lit_segs [[0,1,2,3,4,5,6,7,8,9,10,11,12,13,14]] mixed (by kernel_rfl) ?_
      simp only [wpSegsL,gaC,gaN,lZ0,lS0,coS]
      go_wp2_with (go_at_call 253;refine (ca _).mono ?_;rintro e w' ⟨rfl,hw⟩;rw [hw])
      refine ⟨by kernel_rfl,?_⟩
      go_wp2_with (go_at_call 163;refine (cb _).mono ?_;rintro e w' ⟨rfl,hw⟩;rw [hw])
      go_roundw
      case rel =>
        subst hlz
        exact ⟨_,zs ++ [r2],q2 + q,hlt,rfl,rfl,cle,by simp,(hrz.store r2 ⟨u,cz1⟩),Lt.snoc hltz mlt,arith,(hchg.store _).drew,by rw [← hsz];simp [World.drew,World.setCell]⟩
      case measure => simp [intOf];omega
    · go_wp2
      go_ret
      have hk' : k = n :=by omega
      subst hk'
      rw [List.take_of_length_le (by omega),List.take_of_length_le (by omega)] at hval
      exact ⟨zs,cc,rfl,hlz,hrz,hltz,hval,hcc,hchg,hsz⟩
end Go.Proofs.YtfmmdamgcpiciaaGreatDoor
namespace Go.Proofs.YtfmmdamgcpiciaaGreatDoor
open Go Go.RowKit
def NF (w : World) (b : Nat) : Prop :=∀ o,w.frozen? ⟨b,o,none⟩ = false
def SlOk (w : World) (s : Option Addr) (c : Nat) : Prop :=(s = none ∧ c = 0) ∨ ∃ b o,s = some ⟨b,o,none⟩ ∧ Wr w b o c ∧ NF w b ∧ b < w.heap.size
def Words (w : World) (s : Option Addr) (xs : List Nat) : Prop :=xs = [] ∨ ∃ b o,s = some ⟨b,o,none⟩ ∧ Row .u64 w b o xs
def Blk (s : Option Addr) : Nat → Nat → Prop :=fun b _ => ∃ o,s = some ⟨b,o,none⟩
def Sep (s t : Option Addr) : Prop :=s = t ∨ ∀ a b,s = some a → t = some b → a.block ≠ b.block
def Fr (w : World) (s : Option Addr) (c : Nat) (s' : Option Addr) (c' : Nat) : Prop :=(s' = s ∧ c' = c) ∨ ∃ b,s' = some ⟨b,0,none⟩ ∧ w.heap.size ≤ b
theorem NF.chg {w w' : World} {M : Nat → Nat → Prop} {b : Nat} (h : NF w b) (hb : b < w.heap.size) (hc : Chg w w' M) : NF w' b :=fun o => by rw [hc.frz b o hb];exact h o
theorem SlOk.chg {w w' : World} {M : Nat → Nat → Prop} {s : Option Addr} {c : Nat} (h : SlOk w s c) (hc : Chg w w' M) : SlOk w' s c :=by
  rcases h with h | ⟨b,o,h1,h2,h3,h4⟩
  · exact .inl h
  · exact .inr ⟨b,o,h1,h2.chg hc,h3.chg h4 hc,Nat.lt_of_lt_of_le h4 hc.size⟩
theorem Words.chg {w w' : World} {M : Nat → Nat → Prop} {s : Option Addr} {xs : List Nat} (h : Words w s xs) (hc : Chg w w' M) (hm : ∀ b o,s = some ⟨b,o,none⟩ → ∀ o',¬ M b o') : Words w' s xs :=by
  rcases h with h | ⟨b,o,h1,h2⟩
  · exact .inl h
  · exact .inr ⟨b,o,h1,h2.chg hc fun j _ => hm b o h1 _⟩
theorem Words.take {w : World} {s : Option Addr} {xs : List Nat} (h : Words w s xs) (n : Nat) : Words w s (xs.take n) :=by
  rcases h with rfl | ⟨b,o,h1,h2⟩
  · exact .inl (by simp)
  · exact .inr ⟨b,o,h1,h2.take n⟩
theorem Words.row {w : World} {b o : Nat} {xs : List Nat} (h : Words w (some ⟨b,o,none⟩) xs) : Row .u64 w b o xs :=by
  rcases h with rfl | ⟨b',o',h1,h2⟩
  · exact Row.nil
  · simp at h1;obtain ⟨rfl,rfl⟩ :=h1;exact h2
theorem Words.some {w : World} {s : Option Addr} {xs : List Nat} (h : Words w s xs) (hn : 0 < xs.length) : ∃ b o,s = .some ⟨b,o,none⟩ ∧ Row .u64 w b o xs :=by
  rcases h with rfl | h
  · simp at hn
  · exact h
theorem Lt.take {B : Nat} {xs : List Nat} (h : Lt B xs) (n : Nat) : Lt B (xs.take n) :=fun x hx => h x (List.mem_of_mem_take hx)
theorem Lt.drop {B : Nat} {xs : List Nat} (h : Lt B xs) (n : Nat) : Lt B (xs.drop n) :=fun x hx => h x (List.mem_of_mem_drop hx)
theorem Lt.app {B : Nat} {xs ys : List Nat} (h : Lt B xs) (k : Lt B ys) : Lt B (xs ++ ys) :=fun x hx => (List.mem_append.1 hx).elim (h x) (k x)
theorem addVV (z x y : Value) (w : World) (R : Ending → World → Prop) (h : Calls Tryz.prog 162 #[z,x,y] w fun e w' => ∃ v,e = .returned v ∧ R e w') : Calls Tryz.prog 135 #[z,x,y] w R :=by
  go_enter Tryz.func135,Tryz.ntmps135
  go_wp2_with (go_at_call 162;refine h.mono ?_;rintro e w' ⟨v,rfl,hR⟩)
  exact hR
theorem subVV (z x y : Value) (w : World) (R : Ending → World → Prop) (h : Calls Tryz.prog 164 #[z,x,y] w fun e w' => ∃ v,e = .returned v ∧ R e w') : Calls Tryz.prog 137 #[z,x,y] w R :=by
  go_enter Tryz.func137,Tryz.ntmps137
  go_wp2_with (go_at_call 164;refine h.mono ?_;rintro e w' ⟨v,rfl,hR⟩)
  exact hR
theorem mulAddVWW (z x y a : Value) (w : World) (R : Ending → World → Prop) (h : Calls Tryz.prog 213 #[z,x,y,a] w fun e w' => ∃ v,e = .returned v ∧ R e w') : Calls Tryz.prog 171 #[z,x,y,a] w R :=by
  go_enter Tryz.func171,Tryz.ntmps171
  go_wp2_with (go_at_call 213;refine h.mono ?_;rintro e w' ⟨v,rfl,hR⟩)
  exact hR
theorem addMulVVWW (z x y m a : Value) (w : World) (R : Ending → World → Prop) (h : Calls Tryz.prog 212 #[z,x,y,m,a] w fun e w' => ∃ v,e = .returned v ∧ R e w') : Calls Tryz.prog 169 #[z,x,y,m,a] w R :=by
  go_enter Tryz.func169,Tryz.ntmps169
  go_wp2_with (go_at_call 212;refine h.mono ?_;rintro e w' ⟨v,rfl,hR⟩)
  exact hR
theorem lshVU (z x s : Value) (w : World) (R : Ending → World → Prop) (h : Calls Tryz.prog 209 #[z,x,s] w fun e w' => ∃ v,e = .returned v ∧ R e w') : Calls Tryz.prog 167 #[z,x,s] w R :=by
  go_enter Tryz.func167,Tryz.ntmps167
  go_wp2_with (go_at_call 209;refine h.mono ?_;rintro e w' ⟨v,rfl,hR⟩)
  exact hR
theorem rshVU (z x s : Value) (w : World) (R : Ending → World → Prop) (h : Calls Tryz.prog 231 #[z,x,s] w fun e w' => ∃ v,e = .returned v ∧ R e w') : Calls Tryz.prog 189 #[z,x,s] w R :=by
  go_enter Tryz.func189,Tryz.ntmps189
  go_wp2_with (go_at_call 231;refine h.mono ?_;rintro e w' ⟨v,rfl,hR⟩)
  exact hR
abbrev Big : Nat :=1099511627776
theorem info109 : (Tryz.prog.info? 109).map (fun i => (i.zero,i.size,i.bytes)) = some (some (.int .u64 0),1,8) :=by kernel_rfl
theorem makeRun (w : World) (n c : Nat) (hn : n ≤ c) (hc : c ≤ 2 * Big) : (Instr.makeSlice 110 (.int .i64 n) (.int .i64 c)).run Tryz.prog w = .ok (.slice (some ⟨w.heap.size,0,none⟩) n c) (w.alloc (.cells (madeCells #[.int .u64 0] c) 109)) :=by
  unfold Big at hc
  obtain ⟨i0,hi,hz0,hz1,hz2⟩ :=info_parts info109
  have :=run_make (P :=Tryz.prog) w 110 109 i0 (.int .u64 0) Tryz.underlying110 hi hz0 .i64 .i64 (n : Int) (c : Int) (by omega) (by omega) (by rw [hz2];omega) (by omega)
  rw [this]
  simp [hz1,Value.cells]
theorem cell_made (w : World) (c j : Nat) (hj : j < c) : (w.alloc (.cells (madeCells #[.int .u64 0] c) 109)).cell? ⟨w.heap.size,j,none⟩ = some (.int .u64 0) :=by
  rw [World.cell?_alloc_at _ _ _ _ rfl]
  simp [madeCells,hj,Nat.mod_one]
theorem NF.made (w : World) (cs : Array Value) (t : TypeId) : NF (w.alloc (.cells cs t)) w.heap.size :=fun o => by
  exact World.frozen?_alloc_new w cs t o
theorem SlOk.made (w : World) (c : Nat) : SlOk (w.alloc (.cells (madeCells #[.int .u64 0] c) 109)) (some ⟨w.heap.size,0,none⟩) c :=
  .inr ⟨_,0,rfl,fun j hj => ⟨⟨_,by rw [Nat.zero_add];exact cell_made w c j hj⟩,NF.made w _ _ _⟩,NF.made w _ _,by simp⟩
theorem nat_make (w : World) (s : Option Addr) (n0 c n : Nat) (hc : SlOk w s c) (hn : n ≤ Big) (hcc : c ≤ 9223372036854775807) :
    Calls Tryz.prog 134 #[.slice s n0 c,.int .i64 n] w fun e w' => ∃ s' c',e = .returned (.slice s' n c') ∧ n ≤ c' ∧ c' ≤ max c (2 * Big) ∧ SlOk w' s' c' ∧ Fr w s c s' c' ∧ Kept w w' :=by
  unfold Big at *
  by_cases h : n ≤ c
  · go_enter Tryz.func134,Tryz.ntmps134
    go_wp2
    go_ret
    exact ⟨s,c,by simp,h,by omega,hc,.inl ⟨rfl,rfl⟩,Chg.refl _ _⟩
  · by_cases h1 : n = 1
    · subst h1
      have hm : (Instr.makeSlice 110 (.int .i64 1) (.int .i64 1)).run Tryz.prog w = .ok (.slice (some ⟨w.heap.size,0,none⟩) 1 1) (w.alloc (.cells (madeCells #[.int .u64 0] 1) 109)) :=makeRun w 1 1 (by omega) (by unfold Big;omega)
      go_enter Tryz.func134,Tryz.ntmps134
      go_wp2
      go_ret
      exact ⟨some ⟨w.heap.size,0,none⟩,1,by simp,by omega,by omega,SlOk.made w 1,.inr ⟨_,rfl,Nat.le_refl _⟩,Chg.alloc _ _ _⟩
    · have hm :=makeRun w n (n + 4) (by omega) (by unfold Big;omega)
      rw [show ((n + 4 : Nat) : Int) = (n : Int) + 4 from rfl] at hm
      go_enter Tryz.func134,Tryz.ntmps134
      go_wp2
      go_ret
      exact ⟨some ⟨w.heap.size,0,none⟩,n + 4,by simp,by omega,by omega,SlOk.made w (n + 4),.inr ⟨_,rfl,Nat.le_refl _⟩,Chg.alloc _ _ _⟩
def trimZ (xs : List Nat) : List Nat :=(xs.reverse.dropWhile (· == 0)).reverse
theorem trimZ_snoc (xs : List Nat) (x : Nat) : trimZ (xs ++ [x]) = if x = 0 then trimZ xs else xs ++ [x] :=by
  unfold trimZ
  rw [List.reverse_append]
  by_cases h : x = 0
  · simp [h]
  · simp [h]
theorem trimZ_spec (B : Nat) (xs : List Nat) : val B (trimZ xs) = val B xs ∧ (trimZ xs).length ≤ xs.length ∧ trimZ xs = xs.take (trimZ xs).length :=by
  suffices h : ∀ n,∀ xs : List Nat,xs.length = n → val B (trimZ xs) = val B xs ∧ (trimZ xs).length ≤ xs.length ∧ trimZ xs = xs.take (trimZ xs).length from h _ xs rfl
  intro n
  induction n with
  | zero => intro xs h;obtain rfl :=List.length_eq_zero_iff.1 h;simp [trimZ,val]
  | succ n ih =>
    intro xs h
    rcases List.eq_nil_or_concat xs with rfl | ⟨ys,y,rfl⟩
    · simp at h
    · simp only [List.concat_eq_append] at *
      have hy : ys.length = n :=by simpa using h
      rw [trimZ_snoc]
      split
      · rename_i h0
        obtain ⟨h1,h2,h3⟩ :=ih ys hy
        subst h0
        refine ⟨by rw [h1,val_append];simp [val],by simp;omega,?_⟩
        rw [List.take_append_of_le_length h2];exact h3
      · refine ⟨rfl,Nat.le_refl _,?_⟩
        rw [List.take_of_length_le (Nat.le_refl _)]
def Nz (xs : List Nat) : Prop :=∀ x,xs.getLast? = some x → x ≠ 0
theorem Nz.trimZ (xs : List Nat) : Nz (trimZ xs) :=by
  suffices h : ∀ n,∀ xs : List Nat,xs.length = n → Nz (YtfmmdamgcpiciaaGreatDoor.trimZ xs) from h _ xs rfl
  intro n
  induction n with
  | zero => intro xs h;obtain rfl :=List.length_eq_zero_iff.1 h;intro x hx;simp [YtfmmdamgcpiciaaGreatDoor.trimZ] at hx
  | succ n ih =>
    intro xs h
    rcases List.eq_nil_or_concat xs with rfl | ⟨ys,y,rfl⟩
    · simp at h
    · simp only [List.concat_eq_append] at *
      have hy : ys.length = n :=by simpa using h
      rw [trimZ_snoc]
      split
      · exact ih ys hy
      · rename_i h0
        intro x hx
        simp at hx
        omega
theorem nat_norm (w : World) (s : Option Addr) (n c : Nat) (xs : List Nat) (hx : Words w s xs) (hl : xs.length = n) (hn : n ≤ 9223372036854775807) (hnc : n ≤ c) :
    Calls Tryz.prog 106 #[.slice s n c] w fun e w' => e = .returned (.slice s (trimZ xs).length c) ∧ w' = w :=by
  go_enter Tryz.func106,Tryz.ntmps106
  go_wp2
  go_loop [3] (fun i => ∃ k : Nat,k ≤ n ∧ i = .int .i64 k ∧ trimZ (xs.take k) = trimZ xs) (fun i => (intOf i).toNat)
  case atStart => exact ⟨n,Nat.le_refl _,rfl,by rw [List.take_of_length_le (by omega)]⟩
  case round =>
    obtain ⟨k,hk,rfl,ht⟩ :=hrel
    by_cases h0 : 0 < k
    · obtain ⟨k,rfl⟩ : ∃ m,k = m + 1 :=⟨k - 1,by omega⟩
      obtain ⟨b,o,rfl,hr⟩ :=hx.some (by omega)
      have gx : xs[k]? = some xs[k] :=List.getElem?_eq_getElem (by omega)
      have hc :=hr k _ gx
      have e1 : (((k + 1 : Nat) : Int) - 1) = (k : Int) :=by omega
      rw [List.take_succ_eq_append_getElem (by omega),trimZ_snoc] at ht
      generalize xs[k] = x at *
      go_wp2
      · have hx0 : x = 0 :=by simp_all
        rw [if_pos hx0] at ht
        go_round
        case rel => exact ⟨k,by omega,by go_num,ht⟩
        case measure => simp [intOf]
      · have hx0 : ¬ x = 0 :=by simp_all
        rw [if_neg hx0] at ht
        go_ret
        refine ⟨?_,rfl⟩
        rw [← ht]
        simp
        omega
    · go_wp2
      go_ret
      obtain rfl : k = 0 :=by omega
      simp at ht
      have : trimZ xs = [] :=ht.symm
      rw [this]
      exact ⟨rfl,rfl⟩
end Go.Proofs.YtfmmdamgcpiciaaGreatDoor
namespace Go.Proofs.YtfmmdamgcpiciaaGreatDoor
open Go Go.RowKit
theorem Chg.setCells (b : Nat) : ∀ (vs : List Value) (o : Nat) (w : World),Chg w (w.setCells b o vs) (In b o vs.length)
  | [],o,w => Chg.refl _ _
  | v :: vs,o,w => by
    refine (Chg.setCell w b o v _ fun _ => ⟨rfl,Nat.le_refl _,by simp⟩).trans (Chg.setCells b vs (o + 1) (w.setCell ⟨b,o,none⟩ v)) ?_
    rintro b' o' _ ⟨h1,h2,h3⟩
    exact ⟨h1,by omega,by simp only [List.length_cons];omega⟩
theorem Row.setCells {w : World} {b o : Nat} (xs : List Nat) (hw : Wr w b o xs.length) : Row .u64 (w.setCells b o (xs.map fun (x : Nat) => Value.int .u64 x)) b o xs :=fun j x hj => by
  obtain ⟨hl,hx⟩ :=List.getElem?_eq_some_iff.1 hj
  have :=World.cell?_setCells_in b (xs.map fun (x : Nat) => Value.int .u64 x) o w (fun j hj => by
    obtain ⟨⟨v,hv⟩,_⟩ :=hw j (by simpa using hj)
    simp [hv]) j (by simpa using hl)
  rw [this];simp [hx]
theorem SlOk.pos {w : World} {s : Option Addr} {c : Nat} (h : SlOk w s c) (hc : 0 < c) : ∃ b o,s = some ⟨b,o,none⟩ ∧ Wr w b o c ∧ NF w b ∧ b < w.heap.size :=by
  rcases h with ⟨_,h⟩ | h
  · omega
  · exact h
theorem copyRun (w : World) (b o bx ox n c cx : Nat) (xs : List Nat) (hx : Row .u64 w bx ox xs) (hl : xs.length = n) (hw : Wr w b o n) :
    (Builtin.copy_ #[110,110] 3 #[.slice (some ⟨b,o,none⟩) n c,.slice (some ⟨bx,ox,none⟩) n cx]).run Tryz.prog w = .ok (.int .i64 n) (w.setCells b o (xs.map fun (x : Nat) => Value.int .u64 x)) :=by
  have :=run_copy_cells (P :=Tryz.prog) w 110 110 3 109 b o n c ⟨bx,ox,none⟩ n cx (xs.map fun (x : Nat) => Value.int .u64 x) Tryz.underlying110 (by kernel_rfl) (by simp [hl])
    (fun j v hj => by
      rw [List.getElem?_map] at hj
      cases hxj : xs[j]? with
      | none => rw [hxj] at hj;cases hj
      | some x =>
        rw [hxj] at hj
        simp only [Option.map_some,Option.some.injEq] at hj
        subst hj
        have :=hx j x hxj
        unfold Addr.add
        split
        · rename_i h0;subst h0;exact this
        · exact this)
    (fun j hj => by obtain ⟨⟨v,hv⟩,_⟩ :=hw j (by simpa [hl] using hj);simp [hv])
    (fun j hj => (hw j (by simpa [hl] using hj)).2)
    (fun v hv => by obtain ⟨x,_,rfl⟩ :=List.mem_map.1 hv;rfl)
  rw [this];simp [goInt,hl]
theorem nat_set (w : World) (s sx : Option Addr) (n0 c n cx : Nat) (xs : List Nat) (hc : SlOk w s c) (hcc : c ≤ (8388607 * Big + 1099511627775)) (hx : Words w sx xs) (hl : xs.length = n) (hn : n ≤ Big) :
    Calls Tryz.prog 126 #[.slice s n0 c,.slice sx n cx] w fun e w' => ∃ s' c',e = .returned (.slice s' n c') ∧ n ≤ c' ∧ c' ≤ (8388607 * Big + 1099511627775) ∧ SlOk w' s' c' ∧ Fr w s c s' c' ∧ Words w' s' xs ∧ Chg w w' (Blk s) :=by
  unfold Big at *
  have hm :=nat_make w s n0 c n hc (by unfold Big;omega) (by omega)
  by_cases h0 : n = 0
  · subst h0
    obtain rfl :=List.length_eq_zero_iff.1 hl
    have hcp :=fun w s' c' => run_copy_none (P :=Tryz.prog) w 110 110 3 109 s' sx 0 c' 0 cx Tryz.underlying110 (by kernel_rfl) rfl
    go_enter Tryz.func126,Tryz.ntmps126
    go_wp2_with (go_at_call 134;refine hm.mono ?_;rintro e w1 ⟨s',c',rfl,h1,h2,h3,h4,h5⟩)
    go_ret
    exact ⟨s',c',rfl,h1,by unfold Big at h2;omega,h3,h4,.inl rfl,h5.any _⟩
  · obtain ⟨bx,ox,rfl,hr⟩ :=hx.some (by omega)
    go_enter Tryz.func126,Tryz.ntmps126
    go_wp2_with (go_at_call 134;refine hm.mono ?_;rintro e w1 ⟨s',c',rfl,h1,h2,h3,h4,h5⟩;obtain ⟨b',o',rfl,hw,hf,hb⟩ :=h3.pos (by omega);have hcp :=copyRun w1 b' o' bx ox n c' cx xs (hr.chg h5 fun _ _ h => h) hl (fun j hj => hw j (by omega)))
    go_ret
    have hlen : (xs.map fun (x : Nat) => Value.int .u64 x).length = n :=by simp [hl]
    have hch :=Chg.setCells b' (xs.map fun (x : Nat) => Value.int .u64 x) o' w1
    refine ⟨some ⟨b',o',none⟩,c',rfl,h1,by unfold Big at h2;omega,h3.chg hch,h4,.inr ⟨b',o',rfl,Row.setCells xs (fun j hj => hw j (by omega))⟩,?_⟩
    refine (h5.any _).trans hch ?_
    rintro b o hlt ⟨rfl,_,_⟩
    rcases h4 with ⟨h4,_⟩ | ⟨b2,h4,h6⟩
    · exact ⟨o',h4.symm⟩
    · first | (simp at h4;omega) | simp at h4
end Go.Proofs.YtfmmdamgcpiciaaGreatDoor
namespace Go.Proofs.YtfmmdamgcpiciaaGreatDoor
open Go Go.RowKit
def dl (n : Nat) : List Nat :=if h : n = 0 then [] else (n % 10) :: dl (n / 10)
termination_by n
decreasing_by omega
theorem dl_zero : dl 0 = [] :=by unfold dl;simp
theorem dl_pos {n : Nat} (h : n ≠ 0) : dl n = (n % 10) :: dl (n / 10) :=by rw [dl];simp [h]
def pad : Nat → Nat → List Nat
  | 0,_ => []
  | k + 1,n => (n % 10) :: pad k (n / 10)
theorem pad_length : ∀ k n,(pad k n).length = k
  | 0,_ => rfl
  | k + 1,n => by simp [pad,pad_length k]
theorem dl_split : ∀ (k n v : Nat),n < 10 ^ k → 0 < v → dl (n + 10 ^ k * v) = pad k n ++ dl v
  | 0,n,v,hn,hv => by
    have : n = 0 :=by simpa using hn
    subst this;simp [pad]
  | k + 1,n,v,hn,hv => by
    have hp : 0 < 10 ^ k :=Nat.pow_pos (by decide)
    have h1 : 10 ^ (k + 1) * v = 10 * (10 ^ k * v) :=by rw [Nat.pow_succ];rw [Nat.mul_comm (10 ^ k) 10,Nat.mul_assoc]
    have hkv : 0 < 10 ^ k * v :=Nat.mul_pos hp hv
    have hne : n + 10 ^ (k + 1) * v ≠ 0 :=by omega
    rw [dl_pos hne,h1]
    have h2 : (n + 10 * (10 ^ k * v)) % 10 = n % 10 :=by omega
    have h3 : (n + 10 * (10 ^ k * v)) / 10 = n / 10 + 10 ^ k * v :=by omega
    rw [h2,h3,dl_split k (n / 10) v (by rw [Nat.pow_succ] at hn;omega) hv]
    rfl
theorem pad_add : ∀ (j k n : Nat),pad (j + k) n = pad j n ++ pad k (n / 10 ^ j)
  | 0,k,n => by simp [pad]
  | j + 1,k,n => by
    rw [Nat.add_right_comm,pad,pad,pad_add j k (n / 10),Nat.div_div_eq_div_mul,Nat.pow_succ,Nat.mul_comm 10]
    rfl
theorem dl_lt {n : Nat} : ∀ d ∈ dl n,d < 10 :=by
  induction n using Nat.strongRecOn with
  | ind n ih =>
    intro d hd
    by_cases h : n = 0
    · subst h;rw [dl_zero] at hd;cases hd
    · rw [dl_pos h] at hd
      rcases List.mem_cons.1 hd with rfl | hd
      · omega
      · exact ih (n / 10) (by omega) d hd
theorem val_dl (n : Nat) : val 10 (dl n) = n :=by
  induction n using Nat.strongRecOn with
  | ind n ih =>
    by_cases h : n = 0
    · subst h;rw [dl_zero];rfl
    · rw [dl_pos h,val,ih (n / 10) (by omega)]
      omega
theorem dl_top : ∀ (n : Nat),∀ d,(dl n).getLast? = some d → d ≠ 0 :=by
  intro n
  induction n using Nat.strongRecOn with
  | ind n ih =>
    intro d hd
    by_cases h : n = 0
    · subst h;rw [dl_zero] at hd;cases hd
    · rw [dl_pos h] at hd
      by_cases h9 : n / 10 = 0
      · rw [h9,dl_zero] at hd
        simp at hd
        omega
      · have hne : dl (n / 10) ≠ [] :=by rw [dl_pos h9];simp
        rw [List.getLast?_cons_of_ne_nil hne] at hd
        exact ih (n / 10) (by omega) d hd
theorem dl_length_le : ∀ (k n : Nat),n < 10 ^ k → (dl n).length ≤ k
  | 0,n,h => by
    have : n = 0 :=by simpa using h
    subst this;rw [dl_zero];simp
  | k + 1,n,h => by
    by_cases hn : n = 0
    · subst hn;rw [dl_zero];simp
    · rw [dl_pos hn,List.length_cons]
      have :=dl_length_le k (n / 10) (by rw [Nat.pow_succ] at h;omega)
      omega
def digT (n : Nat) : List Nat :=if n = 0 then [48] else (dl n).reverse.map (48 + ·)
def txt (X : Int) : List Nat :=if X < 0 then 45 :: digT X.natAbs else digT X.natAbs
def readD (l : List Nat) : Nat :=l.foldl (fun n c => n * 10 + (c - 48)) 0
theorem readD_snoc (l : List Nat) (c : Nat) : readD (l ++ [c]) = readD l * 10 + (c - 48) :=by simp [readD]
theorem readD_rev : ∀ (l : List Nat),(∀ d ∈ l,d < 10) → readD (l.reverse.map (48 + ·)) = val 10 l
  | [],_ => rfl
  | d :: l,h => by
    rw [List.reverse_cons,List.map_append,List.map_cons,List.map_nil,readD_snoc,readD_rev l fun x hx => h x (List.mem_cons_of_mem _ hx),val]
    omega
theorem readD_digs (n : Nat) : readD (digT n) = n :=by
  unfold digT
  split
  · rename_i h;subst h;rfl
  · rw [readD_rev _ fun d hd => dl_lt d hd,val_dl]
theorem digT_range (n : Nat) : ∀ c ∈ digT n,48 ≤ c ∧ c ≤ 57 :=by
  unfold digT
  split
  · intro c hc
    simp at hc
    omega
  · intro c hc
    obtain ⟨d,hd,rfl⟩ :=List.mem_map.1 hc
    have :=dl_lt d (List.mem_reverse.1 hd)
    omega
theorem digT_ne (n : Nat) : digT n ≠ [] :=by
  unfold digT
  split
  · simp
  · rename_i h
    rw [dl_pos h];simp
theorem digT_head (n : Nat) (h : n ≠ 0) : ∃ c l,digT n = c :: l ∧ c ≠ 48 :=by
  have hne :=digT_ne n
  unfold digT at hne ⊢
  rw [if_neg h] at hne ⊢
  have hd : dl n ≠ [] :=by rw [dl_pos h];simp
  have h1 : (dl n).reverse = (dl n).getLast hd :: (dl n).dropLast.reverse :=by
    conv => lhs;rw [← List.dropLast_concat_getLast hd]
    simp
  rw [h1,List.map_cons]
  refine ⟨_,_,rfl,?_⟩
  have :=dl_top n _ (List.getLast?_eq_some_getLast hd)
  omega
theorem digT_length (n : Nat) (k : Nat) (hk : 0 < k) (h : n < 10 ^ k) : (digT n).length ≤ k :=by
  unfold digT
  split
  · simp;omega
  · simpa using dl_length_le k n h
end Go.Proofs.YtfmmdamgcpiciaaGreatDoor
namespace Go.Proofs.YtfmmdamgcpiciaaGreatDoor
open Go Go.RowKit
theorem shape_of_cell {w : World} {b o : Nat} {v : Value} (h : w.cell? ⟨b,o,none⟩ = some v) : ∃ e n,w.shape? b = some (e,n) :=by
  unfold World.cell? at h
  unfold World.shape?
  cases hw : w.heap[b]? with
  | none => simp [hw] at h
  | some x => cases x <;> simp [hw] at h ⊢
theorem run_sameAddr (P : Program) (w : World) (b1 o1 b2 o2 : Nat) {v1 v2 : Value} (h1 : w.cell? ⟨b1,o1,none⟩ = some v1) (h2 : w.cell? ⟨b2,o2,none⟩ = some v2) (n1 : NF w b1) (n2 : NF w b2) :
    (sameAddr ⟨b1,o1,none⟩ ⟨b2,o2,none⟩).run P w = .ok (decide (b1 = b2 ∧ o1 = o2)) w :=by
  obtain ⟨e1,k1,s1⟩ :=shape_of_cell h1
  obtain ⟨e2,k2,s2⟩ :=shape_of_cell h2
  by_cases hb : b1 = b2
  · subst hb
    simp [sameAddr]
    by_cases ho : o1 = o2 <;> simp [ho]
  · have f1 :=n1 o1
    have f2 :=n2 o2
    have g1 :=n1 k1
    have g2 :=n2 k2
    simp [sameAddr,hb,frozen,noView,viewAt,shape,mayBeOne,stringish,Sem.run,Sem.run_bind,f1,f2,s1,s2,g1,g2,Result.andThen]
theorem run_equalIn_ptr (d : Nat) (P : Program) (w : World) (t e : TypeId) (ht : P.underlying t = some (.pointer e)) (i : TypeInfo) (hi : P.info? e = some i) (hz : i.size ≠ 0) (a b : Addr) (r : Bool) (hs : (sameAddr a b).run P w = .ok r w) :
    (Op.equalIn (d + 1) t (.pointer (some a)) (.pointer (some b))).run P w = .ok r w :=by
  simp [Op.equalIn,run_underlying ht,sizeOf,typeInfo,hi,hz,hs]
theorem run_ptr (P : Program) (w : World) (t e : TypeId) (ht : P.underlying t = some (.pointer e)) (i : TypeInfo) (hi : P.info? e = some i) (hz : i.size ≠ 0) (b1 o1 b2 o2 : Nat) {v1 v2 : Value} (h1 : w.cell? ⟨b1,o1,none⟩ = some v1) (h2 : w.cell? ⟨b2,o2,none⟩ = some v2) (n1 : NF w b1) (n2 : NF w b2) :
    (binOp .eql t (.pointer (some ⟨b1,o1,none⟩)) (.pointer (some ⟨b2,o2,none⟩))).run P w = .ok (.bool (decide (b1 = b2 ∧ o1 = o2))) w ∧
    (binOp .neq t (.pointer (some ⟨b1,o1,none⟩)) (.pointer (some ⟨b2,o2,none⟩))).run P w = .ok (.bool (!decide (b1 = b2 ∧ o1 = o2))) w :=by
  have hs :=run_sameAddr P w b1 o1 b2 o2 h1 h2 n1 n2
  have he : (Op.equal t (.pointer (some ⟨b1,o1,none⟩)) (.pointer (some ⟨b2,o2,none⟩))).run P w = .ok (decide (b1 = b2 ∧ o1 = o2)) w :=by
    exact run_equalIn_ptr 9999 P w t e ht i hi hz _ _ _ hs
  constructor
  · simp only [binOp];simp [he]
  · simp only [binOp];simp [he]
theorem info109' : ∃ i,Tryz.prog.info? 109 = some i ∧ i.size ≠ 0 :=by
  obtain ⟨i0,hi,_,hz1,_⟩ :=info_parts info109
  exact ⟨i0,hi,by omega⟩
theorem ptrRun (w : World) (b1 o1 b2 o2 : Nat) {v1 v2 : Value} (h1 : w.cell? ⟨b1,o1,none⟩ = some v1) (h2 : w.cell? ⟨b2,o2,none⟩ = some v2) (n1 : NF w b1) (n2 : NF w b2) :
    (binOp .eql 175 (.pointer (some ⟨b1,o1,none⟩)) (.pointer (some ⟨b2,o2,none⟩))).run Tryz.prog w = .ok (.bool (decide (b1 = b2 ∧ o1 = o2))) w ∧
    (binOp .neq 175 (.pointer (some ⟨b1,o1,none⟩)) (.pointer (some ⟨b2,o2,none⟩))).run Tryz.prog w = .ok (.bool (!decide (b1 = b2 ∧ o1 = o2))) w :=by
  obtain ⟨i,hi,hz⟩ :=info109'
  exact run_ptr Tryz.prog w 175 109 Tryz.underlying175 i hi hz b1 o1 b2 o2 h1 h2 n1 n2
theorem alias_no1 (w : World) (s s' : Option Addr) (n n' c' : Nat) :
    Calls Tryz.prog 142 #[.slice s n 0,.slice s' n' c'] w fun e w' => e = .returned (.bool false) ∧ w' = w.drew :=by
  go_enter Tryz.func142,Tryz.ntmps142
  go_wp2_with fail
  refine wp_region_lit_segs [[0,1,2,3,4,5,6,7,8,9,10,11,12,13,14,15,16,17,18,19,20,21,22,23,24,25,26,27]] mixed (by kernel_rfl) ?_
  simp only [wpSegsL,gaC,gaN,lZ0,lS0,coS]
  go_wp2
  refine ⟨by kernel_rfl,?_⟩
  go_wp2
  go_ret
  exact ⟨rfl,rfl⟩
theorem alias_no2 (w : World) (s s' : Option Addr) (n c n' : Nat) (hc : (0 : Int) < c) :
    Calls Tryz.prog 142 #[.slice s n c,.slice s' n' 0] w fun e w' => e = .returned (.bool false) ∧ w' = w.drew :=by
  go_enter Tryz.func142,Tryz.ntmps142
  go_wp2_with fail
  refine wp_region_lit_segs [[0,1,2,3,4,5,6,7,8,9,10,11,12,13,14,15,16,17,18,19,20,21,22,23,24,25,26,27]] mixed (by kernel_rfl) ?_
  simp only [wpSegsL,gaC,gaN,lZ0,lS0,coS]
  go_wp2
  refine ⟨by kernel_rfl,?_⟩
  go_wp2
  go_ret
  exact ⟨rfl,rfl⟩
theorem alias_no (w : World) (s s' : Option Addr) (n c n' c' : Nat) (h : c = 0 ∨ c' = 0) :
    Calls Tryz.prog 142 #[.slice s n c,.slice s' n' c'] w fun e w' => e = .returned (.bool false) ∧ w' = w.drew :=by
  by_cases hc : c = 0
  · subst hc;exact alias_no1 w s s' n n' c'
  · obtain rfl :=h.resolve_left hc
    exact alias_no2 w s s' n c n' (by omega)
theorem alias_two (w : World) (b1 o1 b2 o2 : Nat) (n c n' c' : Nat) (hc : 0 < c) (hc' : 0 < c') (h63 : c ≤ (8388607 * Big + 1099511627775)) (h63' : c' ≤ (8388607 * Big + 1099511627775)) (h1 : Wr w b1 o1 c) (h2 : Wr w b2 o2 c') (n1 : NF w b1) (n2 : NF w b2) :
    Calls Tryz.prog 142 #[.slice (some ⟨b1,o1,none⟩) n c,.slice (some ⟨b2,o2,none⟩) n' c'] w fun e w' => e = .returned (.bool (decide (b1 = b2 ∧ o1 + c = o2 + c'))) ∧ w' = w.drew :=by
  obtain ⟨c,rfl⟩ : ∃ m,c = m + 1 :=⟨c - 1,by omega⟩
  obtain ⟨c',rfl⟩ : ∃ m,c' = m + 1 :=⟨c' - 1,by omega⟩
  obtain ⟨⟨v1,e1⟩,_⟩ :=h1 c (by omega)
  obtain ⟨⟨v2,e2⟩,_⟩ :=h2 c' (by omega)
  have hp :=(ptrRun w.drew b1 (o1 + c) b2 (o2 + c') e1 e2 n1 n2).1
  have h0 : (0 : Int) < (c + 1 : Nat) :=by omega
  have h0' : (0 : Int) < (c' + 1 : Nat) :=by omega
  unfold Big at *
  clear e1 e2 h1 h2 n1 n2
  go_enter Tryz.func142,Tryz.ntmps142
  go_wp2_with fail
  refine wp_region_lit_segs [[0,1,2,3,4,5,6,7,8,9,10,11,12,13,14,15,16,17,18,19,20,21,22,23,24,25,26,27]] mixed (by kernel_rfl) ?_
  simp only [wpSegsL,gaC,gaN,lZ0,lS0,coS]
  go_wp2
  refine ⟨by kernel_rfl,?_⟩
  go_wp2
  go_ret
  refine ⟨?_,rfl⟩
  have e : (decide (b1 = b2) && decide (o1 + c = o2 + c')) = decide (b1 = b2 ∧ o1 + (c + 1) = o2 + (c' + 1)) :=by
    rw [Bool.eq_iff_iff];simp;omega
  rw [← e];rfl
end Go.Proofs.YtfmmdamgcpiciaaGreatDoor
