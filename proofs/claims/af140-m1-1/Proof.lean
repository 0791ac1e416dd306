import JvmDerived
import JvmDerived.Pilot.@@N@@Statement
import JvmDerived.Pilot.@@N@@Code
set_option linter.unusedVariables false
set_option linter.unusedSimpArgs false
@@BLOCK:TracedD.lean.txt@@
namespace Jvm.Pilot.@@N@@
namespace OwnKit
open Jvm Jvm.ClassFile Sem Op Lib Jvm.Free Jvm.Stand Jvm.LawKit Jvm.RoadKit Bundle
/-! ## OwnKit: a walk in lawnew's family, its bookkeeping in one word (Sd), its steps in continuation style (Go). General text: no program in sight. -/
section OwnBase
variable {p : Program} {l : Launch} {e : Env} {R : Room} {s : State} {m : MethodId} {args : Array Value} {below : List Frame} {meth : Method} {c : Code} {T : State} {locs : List Loc} {cells slots : Nat} {Z : State} {a0 : Array Value} {h h' : Heap} {EL : List (String × Nat)} {own : String} {w kn : Bool} {S : Addr → Prop} {A : Outcome → State → Prop} {Ls : Array Slot} {st : List Value} {pc : Nat}
/-- how the tables at hand may differ from the invocation's own -/
def Mo (w : Bool) (s : State) (vm0 : Vm) (n : Nat) : Prop := match w with
  | false => s.WarmedH vm0
  | true => ∃ k0, s.Since vm0 k0 ∧ k0 ≤ n
theorem Mo.mono {vm0 : Vm} {n n' : Nat} (H : Mo w s vm0 n) (q : n ≤ n') : Mo w s vm0 n' := by
  cases w with
  | false => exact H
  | true => obtain ⟨k, a, b⟩ := H; exact ⟨k, a, Nat.le_trans b q⟩
theorem Mo.start (w : Bool) (s : State) (n : Nat) (q : s.heap.size ≤ n) : Mo w s s.vm n := by
  cases w with
  | false => exact State.WarmedH.refl s
  | true => exact ⟨s.heap.size, (State.WarmedH.refl s).since _, q⟩
theorem Mo.narrow {vm0 vm1 : Vm} {n : Nat} (H : Mo w s vm0 n) (q : (s.setVm vm0).WarmedH vm1) : Mo w s vm1 n := by
  cases w with
  | false => exact State.WarmedH.trans (t := s.setVm vm0) H q
  | true => obtain ⟨k, a, b⟩ := H; exact ⟨k, a.trans (q.since k) (Nat.le_refl _), b⟩
theorem Mo.since {vm0 vm1 : Vm} {n n1 : Nat} (H : Mo true s vm0 n) (q : (s.setVm vm0).Since vm1 n1) (r : n ≤ n1) : Mo true s vm1 n1 := by
  obtain ⟨k, a, b⟩ := H; exact ⟨n1, a.trans q (Nat.le_trans b r), Nat.le_refl _⟩
/-- where a stack trace may be filled in: the methods of the tables and the frames beneath are known -/
def Kn (kn : Bool) (vm : Vm) (below : List Frame) : Prop := match kn with
  | false => True
  | true => vm.MethodsKnown ∧ vm.FramesKnown below
def EndM (w : Bool) (U : State) (o : Outcome) (U' : State) (L : List Loc) (k n : Nat) : Prop := match w with
  | false => FrameEnd U o U' L k n
  | true => ReturnedEndW U o U' L k n
/-- the promise of a body -/
def Pst (w : Bool) (Z : State) (EL : List (String × Nat)) (kc ks : Nat) (Q : Option Value → Heap → (Addr → Prop) → Prop) (s : State) (o : Outcome) (t : State) : Prop :=
  ∃ v L, o = .returned v ∧ Q v t.heap (Safe Z EL t.vm t.heap) ∧ Fr Z.heap.size L ∧ Old Z Z.heap.size t.heap ∧ CHr Z EL s.vm s.heap t.vm t.heap ∧ EndM w s o t L kc ks
/-- a contract: the callee y, at the heap h with the arguments as' -/
def Ct (w kn : Bool) (Z : State) (EL : List (String × Nat)) (l : Launch) (y : MethodName) (bytes : ByteArray) (maxL : Nat) (ret : Option FieldType) (rm : Room) (as' : Array Value) (h : Heap) (sf : List Addr) (Q : Option Value → Heap → (Addr → Prop) → Prop) (ws : List Jvm.Cond := []) : Prop :=
  MetFree l y (head1 (Jvm.Cond.code y bytes maxL ret :: ws) rm) (fun a U => a = as' ∧ Z.Warmed39 U.vm ∧ U.heap = h ∧ CHv Z EL U.vm h ∧ ∀ x ∈ sf, Safe Z EL U.vm h x)
    (fun _ _ bl U _ => Kn kn U.vm bl) (fun _ U o U' => Pst w Z EL rm.cells rm.slots Q U o U')
/-- what doesn't move in a walk -/
def Bs (kn : Bool) (Z : State) (a0 : Array Value) (EL : List (String × Nat)) (p : Program) (s : State) (below : List Frame) (meth : Method) : Prop := p.tables.exec = Jvm.exec ∧ EW Z a0 EL ∧ Kn kn s.vm below ∧ meth.locks = false ∧ Old Z Z.heap.size s.heap
/-- the walk stands at T, whose heap is h; S: the places that no constant of EL lies at -/
def Sd (w kn : Bool) (Z : State) (a0 : Array Value) (EL : List (String × Nat)) (p : Program) (l : Launch) (e : Env) (R : Room) (s : State) (m : MethodId) (args : Array Value) (below : List Frame) (meth : Method) (c : Code) (own : String) (T : State) (h : Heap) (S : Addr → Prop) (cells slots : Nat) : Prop :=
  Bs kn Z a0 EL p s below meth ∧ ∃ (vm0 : Vm) (locs : List Loc), Stand p l e R (s.setVm vm0) m args below meth c T locs cells slots ∧ T.heap = h ∧ Z.Warmed39 vm0 ∧
    vm0.findClass own = some m.cls ∧ Mo w s vm0 h.size ∧ Fr Z.heap.size locs ∧ Old Z Z.heap.size h ∧ CHr Z EL s.vm s.heap vm0 h ∧ S = Safe Z EL vm0 h
/-- the goal of a walk -/
def Go (p : Program) (e : Env) (below : List Frame) (A : Outcome → State → Prop) (a : State) : Prop := ∃ t o, Steps p.tables e below a t ∧ t.status = .running ∧ Ended t below o ∧ A o t
theorem Go.step {a b : State} (k : ∀ t, Steps p.tables e below b t → Steps p.tables e below a t) (g : Go p e below A b) : Go p e below A a := by
  obtain ⟨t, o, q, r⟩ := g; exact ⟨t, o, k t q, r⟩
theorem Go.tr {a b : State} (k : Steps p.tables e below a b) (g : Go p e below A b) : Go p e below A a := by
  obtain ⟨t, o, q, r⟩ := g; exact ⟨t, o, k.trans q, r⟩
theorem Sd.hx (X : Sd w kn Z a0 EL p l e R s m args below meth c own T h S cells slots) : p.tables.exec = Jvm.exec := X.1.1
theorem Sd.here (X : Sd w kn Z a0 EL p l e R s m args below meth c own T h S cells slots) : At T m c below := by obtain ⟨-, _, _, X, -⟩ := X; exact X.here
theorem Sd.old (X : Sd w kn Z a0 EL p l e R s m args below meth c own T h S cells slots) : Old Z Z.heap.size h := by obtain ⟨-, _, _, -, -, -, -, -, -, q, -⟩ := X; exact q
theorem Sd.more (X : Sd w kn Z a0 EL p l e R s m args below meth c own T h S cells slots) {cells' slots' : Nat} (q : cells ≤ cells') (r : slots ≤ slots') : Sd w kn Z a0 EL p l e R s m args below meth c own T h S cells' slots' := by
  obtain ⟨q1, vm0, locs, X, q2⟩ := X; exact ⟨q1, vm0, locs, X.more q r, q2⟩
/-- S: what is known of it -/
theorem Sd.safeExa (X : Sd w kn Z a0 EL p l e R s m args below meth c own T h S cells slots) {x : Addr} {C : String} (E : Exa Z h x C) (h1 : C ≠ "java/lang/String") (h2 : C ≠ "[B") : S x := by
  obtain ⟨-, vm0, _, -, -, hZ, -, -, -, -, -, rfl⟩ := X; exact Safe.exa hZ.alike E h1 h2
theorem Sd.safeArr (X : Sd w kn Z a0 EL p l e R s m args below meth c own T h S cells slots) {x : Addr} {k : ClassId} {ty : FieldType} {z : Int32} {vs : List Value} {dv : Value} (E : Arv Z h x k ty z vs dv) (ht : ty ≠ .byte) : S x := by
  obtain ⟨-, vm0, _, -, -, hZ, -, -, -, -, -, rfl⟩ := X; exact Safe.arv hZ.alike E ht
theorem Sd.safeNil (X : Sd w kn Z a0 [] p l e R s m args below meth c own T h S cells slots) (x : Addr) : S x := by
  obtain ⟨-, vm0, _, -, -, -, -, -, -, -, -, rfl⟩ := X; rintro ⟨_, q, -⟩; cases q
end OwnBase
section OwnPlain
/-! ### plain instructions, a block at a time -/
def oI : Option Slot → Option Int32 | some (.val (.int v)) => some v | _ => none
theorem oI_eq {o : Option Slot} {v : Int32} (h : oI o = some v) : o = some (.val (.int v)) := by unfold oI at h; split at h <;> first | (cases h; rfl) | cases h
def oJ : Option Slot → Option Int64 | some (.val (.long v)) => some v | _ => none
theorem oJ_eq {o : Option Slot} {v : Int64} (h : oJ o = some v) : o = some (.val (.long v)) := by unfold oJ at h; split at h <;> first | (cases h; rfl) | cases h
def oR : Option Slot → Option Value | some (.val (.ref v)) => some (.ref v) | some (.val .null) => some .null | _ => none
theorem oR_eq {o : Option Slot} {v : Value} (h : oR o = some v) : o = some (.val v) ∧ v.isRef = true := by unfold oR at h; split at h <;> first | (cases h; exact ⟨rfl, rfl⟩) | cases h
/-- one plain instruction at pc: the next pc, locals, stack -/
def px (i : Instr) (pc : Nat) (L : Array Slot) (S : List Value) : Option (Nat × Array Slot × List Value) := match i with
  | .iload k => (oI L[k]?).map fun v => (pc + 2, L, .int v :: S)
  | .iload_n k => (oI L[k.val]?).map fun v => (pc + 1, L, .int v :: S)
  | .aload k => (oR L[k]?).map fun v => (pc + 2, L, v :: S)
  | .aload_n k => (oR L[k.val]?).map fun v => (pc + 1, L, v :: S)
  | .lload k => (oJ L[k]?).map fun v => (pc + 2, L, .long v :: S)
  | .lload_n k => (oJ L[k.val]?).map fun v => (pc + 1, L, .long v :: S)
  | .istore k => (match S with | .int v :: r => (storeLocals L k (.int v)).map fun L' => (pc + 2, L', r) | _ => none)
  | .istore_n k => (match S with | .int v :: r => (storeLocals L k.val (.int v)).map fun L' => (pc + 1, L', r) | _ => none)
  | .astore k => (match S with | .ref v :: r => (storeLocals L k (.ref v)).map fun L' => (pc + 2, L', r) | .null :: r => (storeLocals L k .null).map fun L' => (pc + 2, L', r) | _ => none)
  | .astore_n k => (match S with | .ref v :: r => (storeLocals L k.val (.ref v)).map fun L' => (pc + 1, L', r) | .null :: r => (storeLocals L k.val .null).map fun L' => (pc + 1, L', r) | _ => none)
  | .lstore k => (match S with | .long v :: r => (storeLocals L k (.long v)).map fun L' => (pc + 2, L', r) | _ => none)
  | .lstore_n k => (match S with | .long v :: r => (storeLocals L k.val (.long v)).map fun L' => (pc + 1, L', r) | _ => none)
  | .iconst i => some (pc + 1, L, .int (Int32.ofInt i) :: S)
  | .bipush i => some (pc + 2, L, .int ((Int8.ofInt i).toInt32) :: S)
  | .sipush i => some (pc + 3, L, .int ((Int16.ofInt i).toInt32) :: S)
  | .lconst k => some (pc + 1, L, .long (Int64.ofNat k) :: S)
  | .aconst_null => some (pc + 1, L, .null :: S)
  | .iadd => (match S with | .int y :: .int x :: r => some (pc + 1, L, .int (x + y) :: r) | _ => none)
  | .isub => (match S with | .int y :: .int x :: r => some (pc + 1, L, .int (x - y) :: r) | _ => none)
  | .imul => (match S with | .int y :: .int x :: r => some (pc + 1, L, .int (x * y) :: r) | _ => none)
  | .iand => (match S with | .int y :: .int x :: r => some (pc + 1, L, .int (x &&& y) :: r) | _ => none)
  | .ior => (match S with | .int y :: .int x :: r => some (pc + 1, L, .int (x ||| y) :: r) | _ => none)
  | .ixor => (match S with | .int y :: .int x :: r => some (pc + 1, L, .int (x ^^^ y) :: r) | _ => none)
  | .ishl => (match S with | .int y :: .int x :: r => some (pc + 1, L, .int (x <<< (y &&& 31)) :: r) | _ => none)
  | .ishr => (match S with | .int y :: .int x :: r => some (pc + 1, L, .int (x >>> (y &&& 31)) :: r) | _ => none)
  | .iushr => (match S with | .int y :: .int x :: r => some (pc + 1, L, .int (XT.ushr x y) :: r) | _ => none)
  | .ladd => (match S with | .long y :: .long x :: r => some (pc + 1, L, .long (x + y) :: r) | _ => none)
  | .lsub => (match S with | .long y :: .long x :: r => some (pc + 1, L, .long (x - y) :: r) | _ => none)
  | .land => (match S with | .long y :: .long x :: r => some (pc + 1, L, .long (x &&& y) :: r) | _ => none)
  | .lor => (match S with | .long y :: .long x :: r => some (pc + 1, L, .long (x ||| y) :: r) | _ => none)
  | .lshl => (match S with | .int y :: .long x :: r => some (pc + 1, L, .long (x <<< (y.toInt64 &&& 63)) :: r) | _ => none)
  | .lcmp => (match S with | .long y :: .long x :: r => some (pc + 1, L, .int (XT.cmpL x y) :: r) | _ => none)
  | .i2c => (match S with | .int x :: r => some (pc + 1, L, .int (x.toUInt32.toUInt16.toUInt32.toInt32) :: r) | _ => none)
  | .i2b => (match S with | .int x :: r => some (pc + 1, L, .int (x.toInt8.toInt32) :: r) | _ => none)
  | .i2l => (match S with | .int x :: r => some (pc + 1, L, .long (x.toInt64) :: r) | _ => none)
  | .l2i => (match S with | .long x :: r => some (pc + 1, L, .int (x.toInt32) :: r) | _ => none)
  | .ineg => (match S with | .int x :: r => some (pc + 1, L, .int (-x) :: r) | _ => none)
  | .iinc k i => (oI L[k]?).bind fun v => (storeLocals L k (.int (v + Int32.ofInt i))).map fun L' => (pc + 3, L', S)
  | .dup => (match S with | .int x :: r => some (pc + 1, L, .int x :: .int x :: r) | .ref x :: r => some (pc + 1, L, .ref x :: .ref x :: r) | _ => none)
  | .dup_x1 => (match S with | .int x :: .ref y :: r => some (pc + 1, L, .int x :: .ref y :: .int x :: r) | .ref x :: .ref y :: r => some (pc + 1, L, .ref x :: .ref y :: .ref x :: r) | _ => none)
  | .dup2 => (match S with | .int x :: .ref y :: r => some (pc + 1, L, .int x :: .ref y :: .int x :: .ref y :: r) | _ => none)
  | .pop => (match S with | .int _ :: r => some (pc + 1, L, r) | .ref _ :: r => some (pc + 1, L, r) | .null :: r => some (pc + 1, L, r) | _ => none)
  | .goto o => if 0 ≤ (pc : Int) + o then some (((pc : Int) + o).toNat, L, S) else none
  | _ => none
/-- its length -/
def ln : Instr → Nat
  | .iload _ => 2 | .aload _ => 2 | .lload _ => 2 | .istore _ => 2 | .astore _ => 2 | .lstore _ => 2 | .bipush _ => 2 | .sipush _ => 3 | .iinc _ _ => 3 | .goto _ => 3 | _ => 1
def nx (i : Instr) (pc : Nat) : Nat := match i with | .goto o => ((pc : Int) + o).toNat | _ => pc + ln i
/-- the bytes at pc read as these instructions, one behind the other -/
def decs (code : ByteArray) : Nat → List Instr → Bool
  | _, [] => true
  | pc, i :: r => decide (decode code pc = .ok (i, ln i)) && decs code (nx i pc) r
def pxl : List Instr → Nat → Array Slot → List Value → Option (Nat × Array Slot × List Value)
  | [], pc, L, S => some (pc, L, S)
  | i :: r, pc, L, S => match px i pc L S with
    | some (pc', L', S') => pxl r pc' L' S'
    | none => none
variable {p : Program} {e : Env} {below : List Frame} {T : State} {m : MethodId} {c : Code} {A : Outcome → State → Prop}
theorem px_sound {t : State} (h : At T m c below) (hx : p.tables.exec = Jvm.exec) {i : Instr} {pc pc' : Nat} {L L' : Array Slot} {S S' : List Value} (hd : decode c.code pc = .ok (i, ln i)) (hp : px i pc L S = some (pc', L', S'))
    (hr : Steps p.tables e below (T.setTop (mkF m pc' L' S')) t) : Steps p.tables e below (T.setTop (mkF m pc L S)) t := by
  cases i
  case iload k =>
    simp only [px] at hp
    obtain ⟨v, q, e⟩ := Option.map_eq_some_iff.mp hp; cases e; exact XS.iload h hx rfl hd (oI_eq q) hr
  case iload_n k =>
    simp only [px] at hp
    obtain ⟨v, q, e⟩ := Option.map_eq_some_iff.mp hp; cases e; exact XS.iloadN h hx rfl hd (oI_eq q) hr
  case aload k =>
    simp only [px] at hp
    obtain ⟨v, q, e⟩ := Option.map_eq_some_iff.mp hp; cases e; exact XS.aload h hx rfl hd (oR_eq q).1 (oR_eq q).2 hr
  case aload_n k =>
    simp only [px] at hp
    obtain ⟨v, q, e⟩ := Option.map_eq_some_iff.mp hp; cases e; exact XS.aloadN h hx rfl hd (oR_eq q).1 (oR_eq q).2 hr
  case lload k =>
    simp only [px] at hp
    obtain ⟨v, q, e⟩ := Option.map_eq_some_iff.mp hp; cases e; exact XT.lload h hx rfl hd (oJ_eq q) hr
  case lload_n k =>
    simp only [px] at hp
    obtain ⟨v, q, e⟩ := Option.map_eq_some_iff.mp hp; cases e; exact XT.lloadN h hx rfl hd (oJ_eq q) hr
  case istore k =>
    simp only [px] at hp
    split at hp
    · obtain ⟨v, q, e⟩ := Option.map_eq_some_iff.mp hp; cases e; exact XS.istore h hx rfl hd rfl q hr
    · cases hp
  case istore_n k =>
    simp only [px] at hp
    split at hp
    · obtain ⟨v, q, e⟩ := Option.map_eq_some_iff.mp hp; cases e; exact XS.istoreN h hx rfl hd rfl q hr
    · cases hp
  case astore k =>
    simp only [px] at hp
    split at hp
    · obtain ⟨v, q, e⟩ := Option.map_eq_some_iff.mp hp; cases e; exact XS.astore h hx rfl hd rfl rfl q hr
    · obtain ⟨v, q, e⟩ := Option.map_eq_some_iff.mp hp; cases e; exact XS.astore h hx rfl hd rfl rfl q hr
    · cases hp
  case astore_n k =>
    simp only [px] at hp
    split at hp
    · obtain ⟨v, q, e⟩ := Option.map_eq_some_iff.mp hp; cases e; exact XS.astoreN h hx rfl hd rfl rfl q hr
    · obtain ⟨v, q, e⟩ := Option.map_eq_some_iff.mp hp; cases e; exact XS.astoreN h hx rfl hd rfl rfl q hr
    · cases hp
  case lstore k =>
    simp only [px] at hp
    split at hp
    · obtain ⟨v, q, e⟩ := Option.map_eq_some_iff.mp hp; cases e; exact XT.lstore h hx rfl hd rfl q hr
    · cases hp
  case lstore_n k =>
    simp only [px] at hp
    split at hp
    · obtain ⟨v, q, e⟩ := Option.map_eq_some_iff.mp hp; cases e; exact XT.lstoreN h hx rfl hd rfl q hr
    · cases hp
  case iconst i =>
    simp only [px] at hp
    cases hp; exact XS.iconst h hx rfl hd hr
  case bipush i =>
    simp only [px] at hp
    cases hp; exact XS.bipush h hx rfl hd hr
  case sipush i =>
    simp only [px] at hp
    cases hp; exact XS.sipush h hx rfl hd hr
  case lconst k =>
    simp only [px] at hp
    cases hp; exact XT.lconst h hx rfl hd hr
  case aconst_null =>
    simp only [px] at hp
    cases hp; exact XS.aconstNull h hx rfl hd hr
  case iadd =>
    simp only [px] at hp
    split at hp
    · cases hp; exact XS.iadd h hx rfl hd rfl hr
    · cases hp
  case isub =>
    simp only [px] at hp
    split at hp
    · cases hp; exact XS.isub h hx rfl hd rfl hr
    · cases hp
  case imul =>
    simp only [px] at hp
    split at hp
    · cases hp; exact XS.imul h hx rfl hd rfl hr
    · cases hp
  case iand =>
    simp only [px] at hp
    split at hp
    · cases hp; exact XS.iand h hx rfl hd rfl hr
    · cases hp
  case ior =>
    simp only [px] at hp
    split at hp
    · cases hp; exact XT.ior h hx rfl hd rfl hr
    · cases hp
  case ixor =>
    simp only [px] at hp
    split at hp
    · cases hp; exact XT.ixor h hx rfl hd rfl hr
    · cases hp
  case ishl =>
    simp only [px] at hp
    split at hp
    · cases hp; exact XT.ishl h hx rfl hd rfl hr
    · cases hp
  case ishr =>
    simp only [px] at hp
    split at hp
    · cases hp; exact XT.ishr h hx rfl hd rfl hr
    · cases hp
  case iushr =>
    simp only [px] at hp
    split at hp
    · cases hp; exact XT.iushr h hx rfl hd rfl hr
    · cases hp
  case ladd =>
    simp only [px] at hp
    split at hp
    · cases hp; exact XT.ladd h hx rfl hd rfl hr
    · cases hp
  case lsub =>
    simp only [px] at hp
    split at hp
    · cases hp; exact XT.lsub h hx rfl hd rfl hr
    · cases hp
  case land =>
    simp only [px] at hp
    split at hp
    · cases hp; exact XT.land h hx rfl hd rfl hr
    · cases hp
  case lor =>
    simp only [px] at hp
    split at hp
    · cases hp; exact XT.lor h hx rfl hd rfl hr
    · cases hp
  case lshl =>
    simp only [px] at hp
    split at hp
    · cases hp; exact XT.lshl h hx rfl hd rfl hr
    · cases hp
  case lcmp =>
    simp only [px] at hp
    split at hp
    · cases hp; exact XT.lcmp h hx rfl hd rfl hr
    · cases hp
  case i2c =>
    simp only [px] at hp
    split at hp
    · cases hp; exact XT.i2c h hx rfl hd rfl hr
    · cases hp
  case i2b =>
    simp only [px] at hp
    split at hp
    · cases hp; exact XT.i2b h hx rfl hd rfl hr
    · cases hp
  case i2l =>
    simp only [px] at hp
    split at hp
    · cases hp; exact XT.i2l h hx rfl hd rfl hr
    · cases hp
  case l2i =>
    simp only [px] at hp
    split at hp
    · cases hp; exact XT.l2i h hx rfl hd rfl hr
    · cases hp
  case ineg =>
    simp only [px] at hp
    split at hp
    · cases hp; exact XS.ineg h hx rfl hd rfl hr
    · cases hp
  case iinc k i =>
    simp only [px] at hp
    obtain ⟨v, q, e⟩ := Option.bind_eq_some_iff.mp hp; obtain ⟨L2, q2, e2⟩ := Option.map_eq_some_iff.mp e; cases e2; exact XS.iinc h hx rfl hd (oI_eq q) q2 hr
  case dup =>
    simp only [px] at hp
    split at hp
    · cases hp; exact XS.dup h hx rfl hd rfl rfl hr
    · cases hp; exact XS.dup h hx rfl hd rfl rfl hr
    · cases hp
  case dup_x1 =>
    simp only [px] at hp
    split at hp
    · cases hp; exact XT.dupX1 h hx rfl hd rfl rfl rfl hr
    · cases hp; exact XT.dupX1 h hx rfl hd rfl rfl rfl hr
    · cases hp
  case dup2 =>
    simp only [px] at hp
    split at hp
    · cases hp; exact XT.dup2 h hx rfl hd rfl rfl rfl hr
    · cases hp
  case pop =>
    simp only [px] at hp
    split at hp
    · cases hp; exact XT.pop h hx rfl hd rfl rfl hr
    · cases hp; exact XT.pop h hx rfl hd rfl rfl hr
    · cases hp; exact XT.pop h hx rfl hd rfl rfl hr
    · cases hp
  case goto o =>
    simp only [px] at hp
    split at hp
    · rename_i q; cases hp; exact XS.goto h hx rfl rfl hd q rfl hr
    · cases hp
  all_goals cases hp
theorem px_next {i : Instr} {pc pc' : Nat} {L L' : Array Slot} {S S' : List Value} (hp : px i pc L S = some (pc', L', S')) : pc' = nx i pc := by
  cases i
  case iload k =>
    simp only [px] at hp
    obtain ⟨v, q, e⟩ := Option.map_eq_some_iff.mp hp; cases e; rfl
  case iload_n k =>
    simp only [px] at hp
    obtain ⟨v, q, e⟩ := Option.map_eq_some_iff.mp hp; cases e; rfl
  case aload k =>
    simp only [px] at hp
    obtain ⟨v, q, e⟩ := Option.map_eq_some_iff.mp hp; cases e; rfl
  case aload_n k =>
    simp only [px] at hp
    obtain ⟨v, q, e⟩ := Option.map_eq_some_iff.mp hp; cases e; rfl
  case lload k =>
    simp only [px] at hp
    obtain ⟨v, q, e⟩ := Option.map_eq_some_iff.mp hp; cases e; rfl
  case lload_n k =>
    simp only [px] at hp
    obtain ⟨v, q, e⟩ := Option.map_eq_some_iff.mp hp; cases e; rfl
  case istore k =>
    simp only [px] at hp
    split at hp
    · obtain ⟨v, q, e⟩ := Option.map_eq_some_iff.mp hp; cases e; rfl
    · cases hp
  case istore_n k =>
    simp only [px] at hp
    split at hp
    · obtain ⟨v, q, e⟩ := Option.map_eq_some_iff.mp hp; cases e; rfl
    · cases hp
  case astore k =>
    simp only [px] at hp
    split at hp
    · obtain ⟨v, q, e⟩ := Option.map_eq_some_iff.mp hp; cases e; rfl
    · obtain ⟨v, q, e⟩ := Option.map_eq_some_iff.mp hp; cases e; rfl
    · cases hp
  case astore_n k =>
    simp only [px] at hp
    split at hp
    · obtain ⟨v, q, e⟩ := Option.map_eq_some_iff.mp hp; cases e; rfl
    · obtain ⟨v, q, e⟩ := Option.map_eq_some_iff.mp hp; cases e; rfl
    · cases hp
  case lstore k =>
    simp only [px] at hp
    split at hp
    · obtain ⟨v, q, e⟩ := Option.map_eq_some_iff.mp hp; cases e; rfl
    · cases hp
  case lstore_n k =>
    simp only [px] at hp
    split at hp
    · obtain ⟨v, q, e⟩ := Option.map_eq_some_iff.mp hp; cases e; rfl
    · cases hp
  case iconst i =>
    simp only [px] at hp
    cases hp; rfl
  case bipush i =>
    simp only [px] at hp
    cases hp; rfl
  case sipush i =>
    simp only [px] at hp
    cases hp; rfl
  case lconst k =>
    simp only [px] at hp
    cases hp; rfl
  case aconst_null =>
    simp only [px] at hp
    cases hp; rfl
  case iadd =>
    simp only [px] at hp
    split at hp
    · cases hp; rfl
    · cases hp
  case isub =>
    simp only [px] at hp
    split at hp
    · cases hp; rfl
    · cases hp
  case imul =>
    simp only [px] at hp
    split at hp
    · cases hp; rfl
    · cases hp
  case iand =>
    simp only [px] at hp
    split at hp
    · cases hp; rfl
    · cases hp
  case ior =>
    simp only [px] at hp
    split at hp
    · cases hp; rfl
    · cases hp
  case ixor =>
    simp only [px] at hp
    split at hp
    · cases hp; rfl
    · cases hp
  case ishl =>
    simp only [px] at hp
    split at hp
    · cases hp; rfl
    · cases hp
  case ishr =>
    simp only [px] at hp
    split at hp
    · cases hp; rfl
    · cases hp
  case iushr =>
    simp only [px] at hp
    split at hp
    · cases hp; rfl
    · cases hp
  case ladd =>
    simp only [px] at hp
    split at hp
    · cases hp; rfl
    · cases hp
  case lsub =>
    simp only [px] at hp
    split at hp
    · cases hp; rfl
    · cases hp
  case land =>
    simp only [px] at hp
    split at hp
    · cases hp; rfl
    · cases hp
  case lor =>
    simp only [px] at hp
    split at hp
    · cases hp; rfl
    · cases hp
  case lshl =>
    simp only [px] at hp
    split at hp
    · cases hp; rfl
    · cases hp
  case lcmp =>
    simp only [px] at hp
    split at hp
    · cases hp; rfl
    · cases hp
  case i2c =>
    simp only [px] at hp
    split at hp
    · cases hp; rfl
    · cases hp
  case i2b =>
    simp only [px] at hp
    split at hp
    · cases hp; rfl
    · cases hp
  case i2l =>
    simp only [px] at hp
    split at hp
    · cases hp; rfl
    · cases hp
  case l2i =>
    simp only [px] at hp
    split at hp
    · cases hp; rfl
    · cases hp
  case ineg =>
    simp only [px] at hp
    split at hp
    · cases hp; rfl
    · cases hp
  case iinc k i =>
    simp only [px] at hp
    obtain ⟨v, q, e⟩ := Option.bind_eq_some_iff.mp hp; obtain ⟨L2, q2, e2⟩ := Option.map_eq_some_iff.mp e; cases e2; rfl
  case dup =>
    simp only [px] at hp
    split at hp
    · cases hp; rfl
    · cases hp; rfl
    · cases hp
  case dup_x1 =>
    simp only [px] at hp
    split at hp
    · cases hp; rfl
    · cases hp; rfl
    · cases hp
  case dup2 =>
    simp only [px] at hp
    split at hp
    · cases hp; rfl
    · cases hp
  case pop =>
    simp only [px] at hp
    split at hp
    · cases hp; rfl
    · cases hp; rfl
    · cases hp; rfl
    · cases hp
  case goto o =>
    simp only [px] at hp
    split at hp
    · rename_i q; cases hp; rfl
    · cases hp
  all_goals cases hp
theorem pxl_sound (h : At T m c below) (hx : p.tables.exec = Jvm.exec) {code : ByteArray} (hby : c.code = code) : ∀ {is : List Instr} {pc pc' : Nat} {L L' : Array Slot} {S S' : List Value}, decs code pc is = true → pxl is pc L S = some (pc', L', S') →
    Go p e below A (T.setTop (mkF m pc' L' S')) → Go p e below A (T.setTop (mkF m pc L S))
  | [], pc, pc', L, L', S, S', _, hp, g => by cases hp; exact g
  | i :: r, pc, pc', L, L', S, S', hd, hp, g => by
    simp only [decs, Bool.and_eq_true, decide_eq_true_eq] at hd
    simp only [pxl] at hp
    split at hp
    · rename_i pc1 L1 S1 q
      refine Go.step (fun t k => px_sound h hx (by rw [hby]; exact hd.1) q k) (pxl_sound h hx hby (is := r) ?_ hp g)
      rw [px_next q]; exact hd.2
    · cases hp
end OwnPlain
section OwnLaws
variable {p : Program} {l : Launch} {e : Env} {R : Room} {s : State} {m : MethodId} {args : Array Value} {below : List Frame} {meth : Method} {c : Code} {T : State} {locs : List Loc} {cells slots : Nat} {Z : State} {a0 : Array Value} {h h' : Heap} {EL : List (String × Nat)} {own : String} {w kn : Bool} {S : Addr → Prop} {A : Outcome → State → Prop} {Ls : Array Slot} {st : List Value} {pc : Nat} {code : ByteArray}
theorem Mo.alike {vm0 : Vm} {n : Nat} (H : Mo w s vm0 n) : s.vm.Alike vm0 := by
  cases w with
  | false => exact State.WarmedH.alike H
  | true => obtain ⟨k, a, -⟩ := H; exact a.1.alike
theorem Kn.mv {vm vm' : Vm} (h : vm.Alike vm') (H : Kn kn vm below) : Kn kn vm' below := by
  cases kn with
  | false => trivial
  | true => exact ⟨H.1.alikeC h, H.2.alikeC h⟩
/-- a block of plain instructions -/
theorem blk (X : Sd w kn Z a0 EL p l e R s m args below meth c own T h S cells slots) (hby : c.code = code) {is : List Instr} (hd : decs code pc is = true) {pc' : Nat} {Ls' : Array Slot} {st' : List Value} (hp : pxl is pc Ls st = some (pc', Ls', st'))
    (g : Go p e below A (T.setTop (mkF m pc' Ls' st'))) : Go p e below A (T.setTop (mkF m pc Ls st)) := pxl_sound X.here X.hx hby hd hp g
/-! branches -/
theorem brI (X : Sd w kn Z a0 EL p l e R s m args below meth c own T h S cells slots) (hby : c.code = code) {cd : ClassFile.Cond} {o : Int} (hd : decode code pc = .ok (.if_icmp cd o, 3)) {x y : Int32} {pc1 : Nat} (hp : 0 ≤ (pc : Int) + o ∧ ((pc : Int) + o).toNat = pc1)
    (kt : if_icmp.holds cd x y = true → Go p e below A (T.setTop (mkF m pc1 Ls st))) (kf : if_icmp.holds cd x y = false → Go p e below A (T.setTop (mkF m (pc + 3) Ls st))) : Go p e below A (T.setTop (mkF m pc Ls (.int y :: .int x :: st))) := by
  cases q : if_icmp.holds cd x y with
  | true => exact Go.step (fun t k => XS.icmpYes X.here X.hx rfl rfl (hb hby hd) rfl q hp.1 hp.2 k) (kt q)
  | false => exact Go.step (fun t k => XS.icmpNo X.here X.hx rfl (hb hby hd) rfl q k) (kf q)
theorem br0 (X : Sd w kn Z a0 EL p l e R s m args below meth c own T h S cells slots) (hby : c.code = code) {cd : ClassFile.Cond} {o : Int} (hd : decode code pc = .ok (.ifCond cd o, 3)) {x : Int32} {pc1 : Nat} (hp : 0 ≤ (pc : Int) + o ∧ ((pc : Int) + o).toNat = pc1)
    (kt : if_icmp.holds cd x 0 = true → Go p e below A (T.setTop (mkF m pc1 Ls st))) (kf : if_icmp.holds cd x 0 = false → Go p e below A (T.setTop (mkF m (pc + 3) Ls st))) : Go p e below A (T.setTop (mkF m pc Ls (.int x :: st))) := by
  cases q : if_icmp.holds cd x 0 with
  | true => exact Go.step (fun t k => XS.ifYes X.here X.hx rfl rfl (hb hby hd) rfl ((if0 cd x).trans q) hp.1 hp.2 k) (kt q)
  | false => exact Go.step (fun t k => XS.ifNo X.here X.hx rfl (hb hby hd) rfl ((if0 cd x).trans q) k) (kf q)
theorem brA (X : Sd w kn Z a0 EL p l e R s m args below meth c own T h S cells slots) (hby : c.code = code) {cd : ClassFile.ACond} {o : Int} (hd : decode code pc = .ok (.if_acmp cd o, 3)) {x y : Value} (hx1 : x.isRef = true) (hy1 : y.isRef = true) {pc1 : Nat} (hp : 0 ≤ (pc : Int) + o ∧ ((pc : Int) + o).toNat = pc1)
    (kt : XT.acmp cd x y = true → Go p e below A (T.setTop (mkF m pc1 Ls st))) (kf : XT.acmp cd x y = false → Go p e below A (T.setTop (mkF m (pc + 3) Ls st))) : Go p e below A (T.setTop (mkF m pc Ls (y :: x :: st))) := by
  cases q : XT.acmp cd x y with
  | true => exact Go.step (fun t k => XT.acmpYes X.here X.hx rfl rfl (hb hby hd) rfl hx1 hy1 q hp.1 hp.2 k) (kt q)
  | false => exact Go.step (fun t k => XT.acmpNo X.here X.hx rfl (hb hby hd) rfl hx1 hy1 q k) (kf q)
theorem nnR (X : Sd w kn Z a0 EL p l e R s m args below meth c own T h S cells slots) (hby : c.code = code) {o : Int} (hd : decode code pc = .ok (.ifnonnull o, 3)) {x : Addr} {pc1 : Nat} (hp : 0 ≤ (pc : Int) + o ∧ ((pc : Int) + o).toNat = pc1)
    (kt : Go p e below A (T.setTop (mkF m pc1 Ls st))) : Go p e below A (T.setTop (mkF m pc Ls (.ref x :: st))) := Go.step (fun t k => XT.ifnonnullYes X.here X.hx rfl rfl (hb hby hd) rfl hp.1 hp.2 k) kt
theorem nnN (X : Sd w kn Z a0 EL p l e R s m args below meth c own T h S cells slots) (hby : c.code = code) {o : Int} (hd : decode code pc = .ok (.ifnonnull o, 3))
    (kf : Go p e below A (T.setTop (mkF m (pc + 3) Ls st))) : Go p e below A (T.setTop (mkF m pc Ls (.null :: st))) := Go.step (fun t k => XT.ifnonnullNo X.here X.hx rfl (hb hby hd) rfl k) kf
theorem nuN (X : Sd w kn Z a0 EL p l e R s m args below meth c own T h S cells slots) (hby : c.code = code) {o : Int} (hd : decode code pc = .ok (.ifnull o, 3)) {pc1 : Nat} (hp : 0 ≤ (pc : Int) + o ∧ ((pc : Int) + o).toNat = pc1)
    (kt : Go p e below A (T.setTop (mkF m pc1 Ls st))) : Go p e below A (T.setTop (mkF m pc Ls (.null :: st))) := Go.step (fun t k => XS.ifnullYes X.here X.hx rfl rfl (hb hby hd) rfl hp.1 hp.2 k) kt
theorem nuR (X : Sd w kn Z a0 EL p l e R s m args below meth c own T h S cells slots) (hby : c.code = code) {o : Int} (hd : decode code pc = .ok (.ifnull o, 3)) {x : Addr}
    (kf : Go p e below A (T.setTop (mkF m (pc + 3) Ls st))) : Go p e below A (T.setTop (mkF m pc Ls (.ref x :: st))) := Go.step (fun t k => XS.ifnullNo X.here X.hx rfl (hb hby hd) rfl k) kf
/-! the end -/
theorem leaveM {kc ks : Nat} {Q : Option Value → Heap → (Addr → Prop) → Prop} {v : Option Value} (X : Sd w kn Z a0 EL p l e R s m args below meth c own T h S cells slots) (hv : meth.sig.returnType = none → v = none) (q : ∀ S', (∀ x, S x → S' x) → Q v h S') (hc : cells ≤ kc) (hs : slots ≤ ks) :
    ∃ fs, (∀ (f : JFrame) (acts : List Action), f.method = m → f.locked = none → f.entered = [] → (doReturn e (T.setTop f) acts v).1 = T.setFrames fs) ∧ (T.setFrames fs).status = .running ∧ Ended (T.setFrames fs) below (.returned v) ∧ Pst w Z EL kc ks Q s (.returned v) (T.setFrames fs) := by
  obtain ⟨⟨hx, hEL, -, hlk, -⟩, vm0, locs, X, eT, hZ, hown, hMo, N, hO, hC, rfl⟩ := X
  subst eT
  have A := CHv.at X hZ hEL hC.1
  have q' : Q v T.heap (Safe Z EL T.vm T.heap) := q _ fun x hx => by
    by_cases hlt : x < T.heap.size
    · exact A.safe hlt hx
    · exact Safe.new (Nat.le_of_not_lt hlt)
  cases w with
  | false =>
    obtain ⟨fs, hr, hrun, hended, hW, hsame⟩ := X.leave hv
    exact ⟨fs, hr, hrun, hended, v, locs, rfl, q', N, hO, hC.trans A, ⟨v, rfl⟩, State.WarmedH.trans (t := s.setVm vm0) hMo hW, (hsame.setVm s.vm).mono hc hs⟩
  | true =>
    obtain ⟨k0, hS, hk⟩ := hMo
    obtain ⟨fs, hr, hrun, hended, hE⟩ := X.leaveW hS hk hv
    exact ⟨fs, hr, hrun, hended, v, locs, rfl, q', N, hO, hC.trans A, hE.1, hE.2.1, hE.2.2.1, hE.2.2.2.mono hc hs⟩
theorem retI' {kc ks : Nat} {Q : Option Value → Heap → (Addr → Prop) → Prop} {z : Int32} {t : FieldType} (X : Sd w kn Z a0 EL p l e R s m args below meth c own T h S cells slots) (hby : c.code = code) (hret : meth.sig.returnType = some t) (hd : decode code pc = .ok (.ireturn, 1)) (hn : narrow t (.int z) = .int z)
    (q : ∀ S', (∀ x, S x → S' x) → Q (some (.int z)) h S') (ht : t = .int ∨ t = .boolean ∨ t = .byte ∨ t = .char ∨ t = .short := by decide) (hc : cells ≤ kc := by decide) (hs : slots ≤ ks := by decide) : Go p e below (Pst w Z EL kc ks Q s) (T.setTop (mkF m pc Ls (.int z :: st))) := by
  obtain ⟨fs, hr, hrun, hended, hP⟩ := leaveM (v := some (.int z)) X (fun h => by rw [hret] at h; cases h) q hc hs
  obtain ⟨⟨hx, -⟩, vm0, locs, X, -⟩ := X
  exact ⟨_, _, retOut X hx hret hn (Or.inl ⟨rfl, ht, z, rfl⟩) (hb hby hd) hr, hrun, hended, hP⟩
theorem retA' {kc ks : Nat} {Q : Option Value → Heap → (Addr → Prop) → Prop} {v : Value} {t : FieldType} (X : Sd w kn Z a0 EL p l e R s m args below meth c own T h S cells slots) (hby : c.code = code) (hret : meth.sig.returnType = some t) (hd : decode code pc = .ok (.areturn, 1)) (hv : v.isRef = true)
    (q : ∀ S', (∀ x, S x → S' x) → Q (some v) h S') (ht : t.isReference = true := by rfl) (hc : cells ≤ kc := by decide) (hs : slots ≤ ks := by decide) : Go p e below (Pst w Z EL kc ks Q s) (T.setTop (mkF m pc Ls (v :: st))) := by
  obtain ⟨fs, hr, hrun, hended, hP⟩ := leaveM (v := some v) X (fun h => by rw [hret] at h; cases h) q hc hs
  obtain ⟨⟨hx, -⟩, vm0, locs, X, -⟩ := X
  have hn : narrow t v = v := by
    rcases ref_cases hv with rfl | ⟨a, rfl⟩ <;> cases t <;> rfl
  exact ⟨_, _, retOut X hx hret hn (Or.inr (Or.inr (Or.inr (Or.inr ⟨rfl, ht, hv⟩)))) (hb hby hd) hr, hrun, hended, hP⟩
theorem retV' {kc ks : Nat} {Q : Option Value → Heap → (Addr → Prop) → Prop} (X : Sd w kn Z a0 EL p l e R s m args below meth c own T h S cells slots) (hby : c.code = code) (hret : meth.sig.returnType = none) (hd : decode code pc = .ok (.return_, 1))
    (q : ∀ S', (∀ x, S x → S' x) → Q none h S') (hc : cells ≤ kc := by decide) (hs : slots ≤ ks := by decide) : Go p e below (Pst w Z EL kc ks Q s) (T.setTop (mkF m pc Ls [])) := by
  obtain ⟨fs, hr, hrun, hended, hP⟩ := leaveM (v := none) X (fun _ => rfl) q hc hs
  obtain ⟨⟨hx, -⟩, vm0, locs, X, -⟩ := X
  exact ⟨_, _, X.returnOut hx hret (hb hby hd) hr, hrun, hended, hP⟩
/-! the beginning -/
theorem ctOf {y : MethodName} {bytes : ByteArray} {maxL : Nat} {ret : Option FieldType} {rm : Room} {as' : Array Value} {sf : List Addr} {Q : Option Value → Heap → (Addr → Prop) → Prop} (pn : plainFor y = true) (hO : Old Z Z.heap.size h) (hEL : EW Z a0 EL)
    (body : ∀ p e s m below meth c s₁ S, Sd w kn Z a0 EL p l e rm s m as' below meth c y.cls s₁ h S 0 0 → c.code = bytes → c.maxLocals = maxL → meth.sig.returnType = ret → meth.name = y.name → (∀ x ∈ sf, S x) →
      Go p e below (Pst w Z EL rm.cells rm.slots Q s) (s₁.setTop (entryFrame m as' maxL))) {ws : List Jvm.Cond} : Ct w kn Z EL l y bytes maxL ret rm as' h sf Q ws := by
  refine MetFree.of_bodySF pn hisR ?_
  intro p e s m args below meth c s₁ Bd hml0 hP hK
  obtain ⟨rfl, hZ, rfl, hC, hsf⟩ := hP
  have X0 : Stand p l e rm s m args below meth c s₁ [] 0 0 := Stand.of_body Bd
  have e0 : s₁.heap = s.heap := by rw [Bd.state]; rfl
  exact body p e s m below meth c s₁ (Safe Z EL s.vm s.heap) ⟨⟨Bd.exec, hEL, hK, BodyLoose.notSynchronized Bd, hO⟩, s.vm, [], X0, e0, hZ, findClass_of_methodNamed Bd.named, Mo.start w s _ (Nat.le_refl _), Fr.nil _, hO, CHr.refl hC, rfl⟩
    Bd.bytes hml0 Bd.returns (name_of_methodNamed Bd.named Bd.method).1 hsf
theorem Go.entry {g g' : JFrame} (q : g = g') (k : Go p e below A (T.setTop g')) : Go p e below A (T.setTop g) := q ▸ k
/-! the heap's instructions -/
theorem gNew (X : Sd w kn Z a0 EL p l e R s m args below meth c own T h S cells slots) (hby : c.code = code) {C : String} {index n : Nat} (w1 : (Jvm.Cond.classLink own index C).before a0 Z = true) (w2 : (Jvm.Cond.instantiable C n).before a0 Z = true) (w3 : (Jvm.Cond.initialized C).before a0 Z = true)
    (hd : decode code pc = .ok (.new index, 3)) (hc : cells + 1 ≤ R.cells) (hl : slots + n ≤ R.slots)
    (k : ∀ T' h' S', Sd w kn Z a0 EL p l e R s m args below meth c own T' h' S' (cells + 1) (slots + n) → Ext h h' → Exa Z h' h.size C → (∀ {O nm d : String} {ty : FieldType}, Laid Z a0 C O nm d → parseFieldDescriptor d = some ty → Fld Z h' h.size O nm d (defaultValue ty)) →
      (∃ cell : Cell, h'[h.size]? = some cell ∧ cell.vm = .none ∧ cell.monitor = {}) → (∀ x, S x → S' x) → S' h.size → Go p e below A (T'.setTop (mkF m (pc + 3) Ls (.ref h.size :: st)))) : Go p e below A (T.setTop (mkF m pc Ls st)) := by
  obtain ⟨q1, vm0, locs, X, eT, hZ, hown, hMo, N, hO, hC, rfl⟩ := X
  obtain ⟨T', h', X', e', E, A', D, M, stp⟩ := newO X q1.1 hZ hown w1 w2 w3 eT (g := mkF m pc Ls st) rfl (hb hby hd) hc hl
  exact Go.step stp (k T' h' (Safe Z EL vm0 h') ⟨q1, vm0, locs, X', e', hZ, hown, hMo.mono E.1, N, hO.ext E, hC.trans (CHr.ext E hC.1), rfl⟩ E A' D M (fun x hs => hs.ext E hC.1) fun B => by
    obtain ⟨cell, q⟩ := ((hC.1.step fun _ _ _ q => E.2 _ _ q).2 _ B).there
    exact absurd (Array.getElem?_eq_some_iff.mp q).1 (Nat.lt_irrefl _))
theorem gGetF (X : Sd w kn Z a0 EL p l e R s m args below meth c own T h S cells slots) (hby : c.code = code) {R0 O n d : String} {index : Nat} (w1 : (Jvm.Cond.fieldLink own index R0 n d).before a0 Z = true) (via : Via Z R0 O n d) {a : Addr} {v : Value} (F : Fld Z h a O n d v)
    (hd : decode code pc = .ok (.getfield index, 3)) (k : ∀ T', Sd w kn Z a0 EL p l e R s m args below meth c own T' h S cells slots → Go p e below A (T'.setTop (mkF m (pc + 3) Ls (v :: st)))) : Go p e below A (T.setTop (mkF m pc Ls (.ref a :: st))) := by
  obtain ⟨q1, vm0, locs, X, eT, hZ, r⟩ := X
  obtain ⟨T', X', e', stp⟩ := getF X q1.1 hZ r.1 (host := "") (Or.inl w1) via eT F (g := mkF m pc Ls (.ref a :: st)) rfl rfl (hb hby hd)
  exact Go.step stp (k T' ⟨q1, vm0, locs, X', e', hZ, r⟩)
theorem gGetS (X : Sd w kn Z a0 EL p l e R s m args below meth c own T h S cells slots) (hby : c.code = code) {R0 O n d : String} {index : Nat} (w1 : (Jvm.Cond.fieldLink own index R0 n d).before a0 Z = true) (via : Via Z R0 O n d) {v : Value} (F : Sta Z Z.heap O n d v)
    (hd : decode code pc = .ok (.getstatic index, 3)) (k : ∀ T', Sd w kn Z a0 EL p l e R s m args below meth c own T' h S cells slots → Go p e below A (T'.setTop (mkF m (pc + 3) Ls (v :: st)))) : Go p e below A (T.setTop (mkF m pc Ls st)) := by
  have hO := X.old
  obtain ⟨q1, vm0, locs, X, eT, hZ, r⟩ := X
  obtain ⟨T', X', e', stp⟩ := getS X q1.1 hZ r.1 (host := "") w1 via eT (F.ext hO.2) (g := mkF m pc Ls st) rfl (hb hby hd)
  exact Go.step stp (k T' ⟨q1, vm0, locs, X', e', hZ, r⟩)
theorem gPutF (X : Sd w kn Z a0 EL p l e R s m args below meth c own T h S cells slots) (hby : c.code = code) {R0 O n d C : String} {index kk : Nat} {ty : FieldType} (w1 : (Jvm.Cond.fieldLink own index R0 n d).before a0 Z = true) (via : Via Z R0 O n d) {a : Addr} {v old : Value} (F : Fld Z h a O n d old) (E : Exa Z h a C)
    (L : (Jvm.Cond.lays C O n d).before a0 Z = true ∨ ((Jvm.Cond.laysFinal C O n d).before a0 Z = true ∧ own = O ∧ meth.name = "<init>")) (wi : (Jvm.Cond.instantiable C kk).before a0 Z = true) (hty : parseFieldDescriptor d = some ty) (hn : narrow ty v = v) (hf : fits ty v = true) (hna : Z.heap.size ≤ a) (hs : S a)
    (hd : decode code pc = .ok (.putfield index, 3)) (k : ∀ T' h' S', Sd w kn Z a0 EL p l e R s m args below meth c own T' h' S' cells slots → Wr h h' a (Jvm.RoadKit.slotOf Z O n d) v → (∀ x, S x → S' x) → Go p e below A (T'.setTop (mkF m (pc + 3) Ls st))) : Go p e below A (T.setTop (mkF m pc Ls (v :: .ref a :: st))) := by
  obtain ⟨q1, vm0, locs, X, eT, hZ, hown, hMo, N, hO, hC, rfl⟩ := X
  obtain ⟨T', h', X', e', W, stp⟩ := putF X q1.1 hZ hown (host := "") (Or.inl w1) via eT F E L wi hty hn hf (g := mkF m pc Ls (v :: .ref a :: st)) rfl rfl (hb hby hd)
  exact Go.step stp (k T' h' (Safe Z EL vm0 h') ⟨q1, vm0, _, X', e', hZ, hown, hMo.mono (Nat.le_of_eq W.size.symm), Fr.snoc X' N hna, hO.wr W hna, hC.trans (CHr.wr W hs hC.1), rfl⟩ W (fun x hx => Safe.wr W hs hC.1 hx))
theorem gInitO (X : Sd w kn Z a0 EL p l e R s m args below meth c own T h S cells slots) (hby : c.code = code) {idx : Nat} (w1 : (Jvm.Cond.methodLink own idx Lib.objectInit).before a0 Z = true) (w2 : (Jvm.Cond.instanceMethod Lib.objectInit).before a0 Z = true) (w3 : (Jvm.Cond.code Lib.objectInit ⟨#[0xb1]⟩ 1 none).before a0 Z = true)
    (hsz : Ls.size = c.maxLocals) {a : Addr} (hd : decode code pc = .ok (.invokespecial idx, 3)) (hf : 1 ≤ R.frames) (hl : (st.map fun v => v.category).sum + 12 ≤ R.locals)
    (k : ∀ T', Sd w kn Z a0 EL p l e R s m args below meth c own T' h S cells slots → Go p e below A (T'.setTop (mkF m (pc + 3) Ls st))) : Go p e below A (T.setTop (mkF m pc Ls (.ref a :: st))) := by
  obtain ⟨q1, vm0, locs, X, eT, hZ, r⟩ := X
  obtain ⟨T', X', e', stp⟩ := initO X q1.1 hZ r.1 w1 w2 w3 eT (g := mkF m pc Ls (.ref a :: st)) rfl hsz rfl (hb hby hd) hf (W := (st.map fun v => v.category).sum) (by show 2 * 0 + _ ≤ _; omega) hl
  exact Go.step stp (k T' ⟨q1, vm0, locs, X', e', hZ, r⟩)
end OwnLaws
section OwnArrays
variable {p : Program} {l : Launch} {e : Env} {R : Room} {s : State} {m : MethodId} {args : Array Value} {below : List Frame} {meth : Method} {c : Code} {T : State} {locs : List Loc} {cells slots : Nat} {Z : State} {a0 : Array Value} {h h' : Heap} {EL : List (String × Nat)} {own : String} {w kn : Bool} {S : Addr → Prop} {A : Outcome → State → Prop} {Ls : Array Slot} {st : List Value} {pc : Nat} {code : ByteArray} {a b : Addr} {ty : FieldType} {xs : List Int32}
theorem n32 {n : Nat} (hn : n < 2147483648) : (Int32.ofNat n).toInt = n := Int32.toInt_ofNat_small hn
theorem c32 {n : Nat} (hn : n < 2147483648) : (Int32.ofNat n).toNatClampNeg = n := by simp only [Int32.toNatClampNeg, n32 hn]; omega
theorem nn32 {n : Nat} (hn : n < 2147483648) : ¬ Int32.ofNat n < 0 := by
  rw [Int32.lt_iff_toInt_lt, n32 hn]; simp
/-- an array of ints (chars, bytes ..) whose components are all known -/
def Ari (Z : State) (h : Heap) (a : Addr) (ty : FieldType) (xs : List Int32) : Prop := xs.length < 2147483648 ∧ ∃ k, Arv Z h a k ty (Int32.ofNat xs.length) (xs.map Value.int) (.int 0)
theorem Ari.ext (E : Ext h h') (F : Ari Z h a ty xs) : Ari Z h' a ty xs := by obtain ⟨q, k, F⟩ := F; exact ⟨q, k, F.ext E⟩
theorem Ari.keep {ws : List Addr} (F : Ari Z h a ty xs) (K : Keep h h' ws) (q : a ∉ ws) : Ari Z h' a ty xs := by obtain ⟨r, k, F⟩ := F; exact ⟨r, k, F.keep K q⟩
theorem Ari.other {sl : Nat} {v : Value} (F : Ari Z h a ty xs) (W : Wr h h' b sl v) (q : a ≠ b) : Ari Z h' a ty xs := by obtain ⟨r, k, F⟩ := F; exact ⟨r, k, F.other W q⟩
theorem Ari.lt (F : Ari Z h a ty xs) : a < h.size := by obtain ⟨-, k, F⟩ := F; exact F.lt
theorem Ari.len (F : Ari Z h a ty xs) : xs.length < 2147483648 := F.1
theorem Ari.fits (F : Ari Z h a ty xs) {i : Nat} (hi : i < xs.length) : fits ty (.int (xs.getD i 0)) = true := by
  obtain ⟨q, k, cl, A, r1, r2, r3, H, G⟩ := F
  have := G i (by rw [r2, c32 q]; exact hi)
  simpa [List.getD_eq_getElem?_getD, hi] using this
theorem Sd.safeAri (X : Sd w kn Z a0 EL p l e R s m args below meth c own T h S cells slots) (F : Ari Z h a ty xs) (ht : ty ≠ .byte) : S a := by obtain ⟨-, k, F⟩ := F; exact X.safeArr F ht
theorem nar_fits {x : Int32} (ht : ty = .int ∨ ty = .char ∨ ty = .byte ∨ ty = .boolean) (hf : Jvm.fits ty (.int x) = true) : nar ty x = x := by
  rcases ht with rfl | rfl | rfl | rfl
  · rfl
  · have q := rng_char hf
    apply Int32.toInt_inj.mp
    have r := c_i2c x
    simp only [nar]
    simp only [Int32.lt_iff_toInt_lt, Int32.reduceToInt] at q
    omega
  · have q := rng_byte hf
    apply Int32.toInt_inj.mp
    have r := c_i2b x
    simp only [nar]
    simp only [Int32.lt_iff_toInt_lt, Int32.reduceToInt] at q
    omega
  · simp only [Jvm.fits, Bool.or_eq_true, beq_iff_eq] at hf
    rcases hf with rfl | rfl <;> rfl
theorem gLen (X : Sd w kn Z a0 EL p l e R s m args below meth c own T h S cells slots) (hby : c.code = code) (F : Ari Z h a ty xs) (hd : decode code pc = .ok (.arraylength, 1)) (k : Go p e below A (T.setTop (mkF m (pc + 1) Ls (.int (Int32.ofNat xs.length) :: st)))) :
    Go p e below A (T.setTop (mkF m pc Ls (.ref a :: st))) := by
  obtain ⟨q1, vm0, locs, X, eT, hZ, -⟩ := X
  obtain ⟨q, kk, cl, F, r1, r2, r3, H, G⟩ := F
  refine Go.step (fun t k => X.arraylength q1.1 (by rw [eT]; exact F.1) (State.isArrayOf_alike (T := s.setVm vm0) hZ.alike F.2.1) (g := mkF m pc Ls (.ref a :: st)) rfl rfl (hb hby hd) t k) ?_
  rw [len_of r2 r3]; exact k
theorem gLd (X : Sd w kn Z a0 EL p l e R s m args below meth c own T h S cells slots) (hby : c.code = code) (F : Ari Z h a ty xs) {ins : Instr} (hi : (ins = .iaload ∧ ty = .int) ∨ (ins = .caload ∧ ty = .char) ∨ (ins = .baload ∧ ty = .byte)) (hd : decode code pc = .ok (ins, 1)) {j : Int32} {i : Nat} (hj : j = Int32.ofNat i) (hl : i < xs.length)
    (k : Go p e below A (T.setTop (mkF m (pc + 1) Ls (.int (xs.getD i 0) :: st)))) : Go p e below A (T.setTop (mkF m pc Ls (.int j :: .ref a :: st))) := by
  obtain ⟨q1, vm0, locs, X, eT, hZ, -⟩ := X
  obtain ⟨q, kk, cl, F, r1, r2, r3, H, G⟩ := F
  subst hj
  have hi31 : i < 2147483648 := Nat.lt_trans hl q
  have hin : ¬ (Int32.ofNat i < 0 ∨ cl.slots.size ≤ (Int32.ofNat i).toNatClampNeg) := by
    rw [r2, c32 q, c32 hi31]; exact fun z => z.elim (nn32 hi31) (by omega)
  have hat : cl.slots[(Int32.ofNat i).toNatClampNeg]? = some (.int (xs.getD i 0)) := Has.at H hin (by rw [c32 hi31]; simp [List.getD_eq_getElem?_getD, hl])
  have hT := State.isArrayOf_alike (T := s.setVm vm0) hZ.alike F.2.1
  have hc : T.heap[a]? = some cl := by rw [eT]; exact F.1
  rcases hi with ⟨rfl, rfl⟩ | ⟨rfl, rfl⟩ | ⟨rfl, rfl⟩
  · exact Go.step (fun t k => X.iaload q1.1 hc hT F.2.2 hin hat (g := mkF m pc Ls _) rfl rfl (hb hby hd) t k) k
  · exact Go.step (fun t k => X.caload q1.1 hc hT F.2.2 hin hat (g := mkF m pc Ls _) rfl rfl (hb hby hd) t k) k
  · exact Go.step (fun t k => X.baloadBytes q1.1 hc hT F.2.2 hin hat (g := mkF m pc Ls _) rfl rfl (hb hby hd) t k) k
theorem gSt (X : Sd w kn Z a0 EL p l e R s m args below meth c own T h S cells slots) (hby : c.code = code) (F : Ari Z h a ty xs) {ins : Instr} (hi : (ins = .iastore ∧ ty = .int) ∨ (ins = .castore ∧ ty = .char) ∨ (ins = .bastore ∧ ty = .byte)) (hd : decode code pc = .ok (ins, 1)) {j x : Int32} {i : Nat} (hj : j = Int32.ofNat i) (hl : i < xs.length)
    (hf : Jvm.fits ty (.int (nar ty x)) = true) (hna : Z.heap.size ≤ a) (hs : S a)
    (k : ∀ T' h' S', Sd w kn Z a0 EL p l e R s m args below meth c own T' h' S' cells slots → Wr h h' a i (.int (nar ty x)) → Ari Z h' a ty (xs.set i (nar ty x)) → (∀ x, S x → S' x) → Go p e below A (T'.setTop (mkF m (pc + 1) Ls st))) :
    Go p e below A (T.setTop (mkF m pc Ls (.int x :: .int j :: .ref a :: st))) := by
  obtain ⟨q1, vm0, locs, X, eT, hZ, hown, hMo, N, hO, hC, rfl⟩ := X
  obtain ⟨q, kk, cl, F, r1, r2, r3, H, G⟩ := F
  subst hj
  have hi31 : i < 2147483648 := Nat.lt_trans hl q
  have hin : ¬ (Int32.ofNat i < 0 ∨ cl.slots.size ≤ (Int32.ofNat i).toNatClampNeg) := by
    rw [r2, c32 q, c32 hi31]; exact fun z => z.elim (nn32 hi31) (by omega)
  have go : ∀ T' h', Stand p l e R (s.setVm vm0) m args below meth c T' (locs ++ [⟨a, (Int32.ofNat i).toNatClampNeg⟩]) cells slots → T'.heap = h' → Wr h h' a (Int32.ofNat i).toNatClampNeg (.int (nar ty x)) →
      (∀ target, Steps p.tables e below (T'.setTop (mkF m (pc + 1) Ls st)) target → Steps p.tables e below (T.setTop (mkF m pc Ls (.int x :: .int (Int32.ofNat i) :: .ref a :: st))) target) → Go p e below A (T.setTop (mkF m pc Ls (.int x :: .int (Int32.ofNat i) :: .ref a :: st))) := by
    intro T' h' X' e' W stp
    refine Go.step stp (k T' h' (Safe Z EL vm0 h') ⟨q1, vm0, _, X', e', hZ, hown, hMo.mono (Nat.le_of_eq W.size.symm), Fr.snoc X' N hna, hO.wr W hna, hC.trans (CHr.wr W hs hC.1), rfl⟩ (by rw [c32 hi31] at W; exact W) ⟨by simpa using q, kk, ?_⟩ (fun x hx => Safe.wr W hs hC.1 hx))
    have := Arv.set (v := .int (nar ty x)) F r1 r2 r3 H G hf W i (c32 hi31) (by simpa using hl)
    rw [List.length_set, List.map_set]
    exact this
  rcases hi with ⟨rfl, rfl⟩ | ⟨rfl, rfl⟩ | ⟨rfl, rfl⟩
  · obtain ⟨T', h', X', e', W, stp⟩ := stI X q1.1 hZ eT F hin (g := mkF m pc Ls _) rfl rfl (hb hby hd)
    exact go T' h' X' e' W stp
  · obtain ⟨T', h', X', e', W, stp⟩ := stC X q1.1 hZ eT F hin (g := mkF m pc Ls _) rfl rfl (hb hby hd)
    exact go T' h' X' e' W stp
  · obtain ⟨T', h', X', e', W, stp⟩ := stB X q1.1 hZ eT F hin (g := mkF m pc Ls _) rfl rfl (hb hby hd)
    exact go T' h' X' e' W stp
theorem gNewA (X : Sd w kn Z a0 EL p l e R s m args below meth c own T h S cells slots) (hby : c.code = code) {aty : ArrayType} (w1 : (Jvm.Cond.arrayClass (newarray.typeOf aty)).before a0 Z = true) (hd : decode code pc = .ok (.newarray aty, 2)) (hdv : defaultValue (newarray.typeOf aty) = .int 0) {n : Int32} {N cap : Nat} (hn : n = Int32.ofNat N) (hN : N ≤ cap) (hb8 : cap * 8 ≤ 536870912)
    (hc : cells + 1 ≤ R.cells) (hl : slots + cap ≤ R.slots)
    (k : ∀ T' h' S', Sd w kn Z a0 EL p l e R s m args below meth c own T' h' S' (cells + 1) (slots + cap) → Ext h h' → Ari Z h' h.size (newarray.typeOf aty) (List.replicate N 0) → (∀ x, S x → S' x) → S' h.size → Go p e below A (T'.setTop (mkF m (pc + 2) Ls (.ref h.size :: st)))) :
    Go p e below A (T.setTop (mkF m pc Ls (.int n :: st))) := by
  obtain ⟨q1, vm0, locs, X, eT, hZ, hown, hMo, N0, hO, hC, rfl⟩ := X
  subst hn
  have hN31 : N < 2147483648 := by omega
  obtain ⟨T', h', kA, X', e', E, A', stp⟩ := newP X q1.1 hZ w1 eT (g := mkF m pc Ls _) rfl (hb hby hd) rfl (nn32 hN31) (cap := cap) (by rw [c32 hN31]; exact hN) hb8 hc hl
  refine Go.step stp (k T' h' (Safe Z EL vm0 h') ⟨q1, vm0, locs, X', e', hZ, hown, hMo.mono E.1, N0, hO.ext E, hC.trans (CHr.ext E hC.1), rfl⟩ E ⟨by simpa using hN31, kA, ?_⟩ (fun x hs => hs.ext E hC.1) fun B => by
    obtain ⟨cell, q⟩ := ((hC.1.step fun _ _ _ q => E.2 _ _ q).2 _ B).there
    exact absurd (Array.getElem?_eq_some_iff.mp q).1 (Nat.lt_irrefl _))
  have V := Arv.new A' (nn32 hN31)
  rw [hdv] at V
  have := V.pad (vs' := [] ++ List.replicate N (.int 0)) (pad_rep [] (.int 0) N)
  rw [List.nil_append] at this
  simpa using this
end OwnArrays
section OwnCalls
variable {p : Program} {l : Launch} {e : Env} {R : Room} {s : State} {m : MethodId} {args : Array Value} {below : List Frame} {meth : Method} {c : Code} {T : State} {locs : List Loc} {cells slots : Nat} {Z : State} {a0 : Array Value} {h h' : Heap} {EL : List (String × Nat)} {own : String} {w kn : Bool} {S : Addr → Prop} {A : Outcome → State → Prop} {Ls : Array Slot} {st stk : List Value} {pc : Nat} {code : ByteArray}
  {y : MethodName} {bytes : ByteArray} {maxL : Nat} {ret : Option FieldType} {rm : Room} {as' : Array Value} {sf : List Addr} {Q : Option Value → Heap → (Addr → Prop) → Prop} {vm0 : Vm} {len W : Nat}
/-- what comes back of a call by its contract -/
def Bck (Z : State) (EL : List (String × Nat)) (rm : Room) (Q : Option Value → Heap → (Addr → Prop) → Prop) (vm0 : Vm) (h : Heap) (A : Pt) (v : Option Value) (B : Pt) : Prop := ∃ L, Q v B.U.heap (Safe Z EL B.U.vm B.U.heap) ∧ Fr Z.heap.size L ∧ Old Z Z.heap.size B.U.heap ∧ B.locs = A.locs ++ L ∧ B.cells = A.cells + rm.cells ∧ B.slots = A.slots + rm.slots ∧ CHr Z EL vm0 h B.U.vm B.U.heap
theorem Ct.backW (K : Ct true kn Z EL l y bytes maxL ret rm as' h sf Q) (hZ : Z.Warmed39 vm0) (wc : (Jvm.Cond.code y bytes maxL ret).before a0 Z = true) (wz : (Jvm.Cond.initialized y.cls).before a0 Z = true) (hf : rm.frames + 1 ≤ R.frames) (hl : W + (maxL + 11) + rm.locals ≤ R.locals) (hEL : EW Z a0 EL) (H : CHv Z EL vm0 h) (hsf : ∀ x ∈ sf, Safe Z EL vm0 h x) (hKn : Kn kn vm0 below) :
    BackS l R p e below (s.setVm vm0) args y len W (fun A a => a = as' ∧ A.U.heap = h ∧ A.cells + rm.cells ≤ R.cells ∧ A.slots + rm.slots ≤ R.slots) (fun A _ v B => Bck Z EL rm Q vm0 h A v B) :=
  BackS.of_freeWG (bytes := bytes) (maxL := maxL) (ret := ret) (E := fun _ first o t L k n => k = rm.cells ∧ n = rm.slots ∧ (∃ v, o = .returned v ∧ Q v t.heap (Safe Z EL t.vm t.heap)) ∧ Fr Z.heap.size L ∧ Old Z Z.heap.size t.heap ∧ CHr Z EL first.vm first.heap t.vm t.heap) K hf hl
    (fun m meth c A a Y hp => have hU : Z.Warmed39 A.U.vm := wtrans (s := s.setVm vm0) hZ Y.warmed
      ⟨by show (Jvm.Cond.and _ .tt).before a A.U = true; rw [Cond.before_and, mv hU wc]; rfl, mv hU wc, mv hU wz, hp.2.2.1, hp.2.2.2⟩)
    (fun m meth c A a g mk Y hp => ⟨hp.1, wtrans (s := s.setVm vm0) hZ Y.warmed, hp.2.1, (CHv.at Y hZ hEL H).1, fun x hx => by
      by_cases hlt : x < h.size
      · exact (CHv.at Y hZ hEL H).safe hlt (hsf x hx)
      · exact Safe.new (Nat.le_of_not_lt hlt)⟩)
    (fun m meth c A a g mk Y _ hg => by
      cases kn with
      | false => trivial
      | true => exact known_frames Y hg hKn.1 hKn.2)
    (fun _ _ _ _ ⟨v, L, h1, h2, h3, h4, h5, h6⟩ => ⟨L, _, _, h6, rfl, rfl, ⟨v, h1, h2⟩, h3, h4, h5⟩)
    (fun m meth c A a g mk v t L k n Y hp _ _ ⟨e1, e2, ⟨v', e3, e4⟩, e5, e6, e7⟩ => by
      cases e3; subst e1 e2
      refine ⟨L, e4, e5, e6, rfl, rfl, rfl, (CHv.at Y hZ hEL H).trans ?_⟩
      rw [← hp.2.1]; exact e7)
theorem Ct.backN (K : Ct false kn Z EL l y bytes maxL ret rm as' h sf Q) (hZ : Z.Warmed39 vm0) (wc : (Jvm.Cond.code y bytes maxL ret).before a0 Z = true) (wz : (Jvm.Cond.initialized y.cls).before a0 Z = true) (hf : rm.frames + 1 ≤ R.frames) (hl : W + (maxL + 11) + rm.locals ≤ R.locals) (hEL : EW Z a0 EL) (H : CHv Z EL vm0 h) (hsf : ∀ x ∈ sf, Safe Z EL vm0 h x) (hKn : Kn kn vm0 below) :
    Back l R p e below (s.setVm vm0) args y len W (fun A a => a = as' ∧ A.U.heap = h ∧ A.cells + rm.cells ≤ R.cells ∧ A.slots + rm.slots ≤ R.slots) (fun A _ v B => Bck Z EL rm Q vm0 h A v B) :=
  Back.of_freeG (bytes := bytes) (maxL := maxL) (ret := ret) (E := fun _ first o t L k n => k = rm.cells ∧ n = rm.slots ∧ (∃ v, o = .returned v ∧ Q v t.heap (Safe Z EL t.vm t.heap)) ∧ Fr Z.heap.size L ∧ Old Z Z.heap.size t.heap ∧ CHr Z EL first.vm first.heap t.vm t.heap) K hf hl
    (fun m meth c A a Y hp => have hU : Z.Warmed39 A.U.vm := wtrans (s := s.setVm vm0) hZ Y.warmed
      ⟨by show (Jvm.Cond.and _ .tt).before a A.U = true; rw [Cond.before_and, mv hU wc]; rfl, mv hU wc, mv hU wz, hp.2.2.1, hp.2.2.2⟩)
    (fun m meth c A a g mk Y hp => ⟨hp.1, wtrans (s := s.setVm vm0) hZ Y.warmed, hp.2.1, (CHv.at Y hZ hEL H).1, fun x hx => by
      by_cases hlt : x < h.size
      · exact (CHv.at Y hZ hEL H).safe hlt (hsf x hx)
      · exact Safe.new (Nat.le_of_not_lt hlt)⟩)
    (fun m meth c A a g mk Y _ hg => by
      cases kn with
      | false => trivial
      | true => exact known_frames Y hg hKn.1 hKn.2)
    (fun _ _ _ _ ⟨v, L, h1, h2, h3, h4, h5, h6⟩ => ⟨L, _, _, h6, rfl, rfl, ⟨v, h1, h2⟩, h3, h4, h5⟩)
    (fun m meth c A a g mk v t L k n Y hp _ _ ⟨e1, e2, ⟨v', e3, e4⟩, e5, e6, e7⟩ => by
      cases e3; subst e1 e2
      refine ⟨L, e4, e5, e6, rfl, rfl, rfl, (CHv.at Y hZ hEL H).trans ?_⟩
      rw [← hp.2.1]; exact e7)
/-- the walk behind a call, wide and narrow -/
theorem doneW {T' : State} {B : Pt} {v : Option Value} {A0 : Pt} (q1 : Bs kn Z a0 EL p s below meth) (hZ : Z.Warmed39 vm0) (hown : vm0.findClass own = some m.cls) (hMo : Mo true s vm0 h.size) (N : Fr Z.heap.size A0.locs) (hC : CHr Z EL s.vm s.heap vm0 h)
    (X' : Stand p l e R ((s.setVm vm0).setVm B.U.vm) m args below meth c B.U B.locs B.cells B.slots) (hS : (s.setVm vm0).Since B.U.vm B.U.heap.size) (hB : Bck Z EL rm Q vm0 h A0 v B) :
    Sd true kn Z a0 EL p l e R s m args below meth c own B.U B.U.heap (Safe Z EL B.U.vm B.U.heap) (A0.cells + rm.cells) (A0.slots + rm.slots) ∧ Q v B.U.heap (Safe Z EL B.U.vm B.U.heap) ∧ (∀ x, x < h.size → Safe Z EL vm0 h x → Safe Z EL B.U.vm B.U.heap x) ∧ h.size ≤ B.U.heap.size := by
  obtain ⟨L, hQ, hN, hO', l1, l2, l3, hC'⟩ := hB
  rw [l1, l2, l3] at X'
  exact ⟨⟨q1, _, _, X', rfl, State.Warmed39.trans (t := s.setVm vm0) hZ hS.1, by rw [hS.1.alike.findClass]; exact hown, hMo.since hS hC'.2.1, Fr.app N hN, hO', hC.trans hC', rfl⟩, hQ, fun x hx hs => hC'.safe hx hs, hC'.2.1⟩
theorem doneN {B : Pt} {v : Option Value} {A0 : Pt} (q1 : Bs kn Z a0 EL p s below meth) (hZ : Z.Warmed39 vm0) (hown : vm0.findClass own = some m.cls) (hMo : Mo w s vm0 h.size) (N : Fr Z.heap.size A0.locs) (hC : CHr Z EL s.vm s.heap vm0 h)
    (X' : Stand p l e R (s.setVm vm0) m args below meth c B.U B.locs B.cells B.slots) (hB : Bck Z EL rm Q vm0 h A0 v B) :
    Sd w kn Z a0 EL p l e R s m args below meth c own B.U B.U.heap (Safe Z EL B.U.vm B.U.heap) (A0.cells + rm.cells) (A0.slots + rm.slots) ∧ Q v B.U.heap (Safe Z EL B.U.vm B.U.heap) ∧ (∀ x, x < h.size → Safe Z EL vm0 h x → Safe Z EL B.U.vm B.U.heap x) ∧ h.size ≤ B.U.heap.size := by
  obtain ⟨L, hQ, hN, hO', l1, l2, l3, hC'⟩ := hB
  have hW := X'.warmed
  have X2 := X'.retabled X'.warmed.wide
  rw [l1, l2, l3] at X2
  exact ⟨⟨q1, _, _, X2, rfl, State.Warmed39.trans (t := s.setVm vm0) hZ hW.wide, by rw [hW.alike.findClass]; exact hown, (hMo.narrow hW).mono hC'.2.1, Fr.app N hN, hO', hC.trans hC', rfl⟩, hQ, fun x hx hs => hC'.safe hx hs, hC'.2.1⟩
theorem gStatic (X : Sd w kn Z a0 EL p l e R s m args below meth c own T h S cells slots) (hby : c.code = code) {index : Nat} {argsL : List Value} (K : Ct w kn Z EL l y bytes maxL ret rm argsL.toArray h sf Q)
    (w1 : (Jvm.Cond.methodLink own index y).before a0 Z = true) (w2 : (Jvm.Cond.static y).before a0 Z = true) (w3 : (Jvm.Cond.initialized y.cls).before a0 Z = true) (w4 : (Jvm.Cond.code y bytes maxL ret).before a0 Z = true) {ps : List FieldType} {r : Option FieldType} (hdesc : parseMethodDescriptor y.desc = some ⟨ps, r⟩) (hlen : argsL.length = ps.length)
    (hd : decode code pc = .ok (.invokestatic index, 3)) (hstk : stk = argsL.reverse ++ st) (hsz : Ls.size = c.maxLocals) (hsf : ∀ x ∈ sf, S x) (hfr : rm.frames + 1 ≤ R.frames) (hlo : (st.map fun v => v.category).sum + (maxL + 11) + rm.locals ≤ R.locals) (hc : cells + rm.cells ≤ R.cells) (hs : slots + rm.slots ≤ R.slots)
    (k : ∀ v T' h' S', Sd w kn Z a0 EL p l e R s m args below meth c own T' h' S' (cells + rm.cells) (slots + rm.slots) → Q v h' S' → (∀ x, x < h.size → S x → S' x) → h.size ≤ h'.size → Go p e below A (T'.setTop (mkF m (pc + 3) Ls (v.toList ++ st))))
    (hy : y.cls ≠ "java/lang/invoke/MethodHandle" ∧ y.cls ≠ "java/lang/invoke/VarHandle" := by decide) : Go p e below A (T.setTop (mkF m pc Ls stk)) := by
  obtain ⟨q1, vm0, locs, X, eT, hZ, hown, hMo, N, hO, hC, rfl⟩ := X
  have hKn := q1.2.2.1.mv hMo.alike
  cases w with
  | false =>
    obtain ⟨v, vm1, B, -, X', hB, stp⟩ := Jvm.LawKit.callS X q1.1 hown (mvT (s := s.setVm vm0) hZ w1) (mvT (s := s.setVm vm0) hZ w2) (mvT (s := s.setVm vm0) hZ w3) (mvT (s := s.setVm vm0) hZ w4) hy (K.backN (W := (st.map fun v => v.category).sum) hZ w4 w3 hfr hlo q1.2.1 hC.1 hsf hKn) (g := mkF m pc Ls stk) rfl hsz (argsL := argsL) (rest := st) (lenOf hdesc hlen) hstk (by show 2 * 0 + _ ≤ _; omega) (hb hby hd) (fun _ _ => ⟨rfl, eT, hc, hs⟩)
    obtain ⟨X1, hQ, hS, hz⟩ := doneN (A0 := ⟨T.setVm vm1, locs, cells, slots⟩) q1 hZ hown hMo N hC X' hB
    exact Go.step stp (k v _ _ _ X1 hQ hS hz)
  | true =>
    obtain ⟨v, vm1, B, -, X', hSi, -, hB, stp⟩ := callSS X q1.1 hown (mvT (s := s.setVm vm0) hZ w1) (mvT (s := s.setVm vm0) hZ w2) (mvT (s := s.setVm vm0) hZ w3) (mvT (s := s.setVm vm0) hZ w4) hy (K.backW (W := (st.map fun v => v.category).sum) hZ w4 w3 hfr hlo q1.2.1 hC.1 hsf hKn) (g := mkF m pc Ls stk) rfl hsz (argsL := argsL) (rest := st) (lenOf hdesc hlen) hstk (by show 2 * 0 + _ ≤ _; omega) (hb hby hd) (fun _ _ => ⟨rfl, eT, hc, hs⟩)
    obtain ⟨X1, hQ, hS, hz⟩ := doneW (T' := T) (A0 := ⟨T.setVm vm1, locs, cells, slots⟩) q1 hZ hown hMo N hC X' hSi hB
    exact Go.tr stp (k v _ _ _ X1 hQ hS hz)
theorem gInit (X : Sd w kn Z a0 EL p l e R s m args below meth c own T h S cells slots) (hby : c.code = code) {index : Nat} {a : Addr} {argsL : List Value} (K : Ct w kn Z EL l y bytes maxL none rm (.ref a :: argsL).toArray h sf Q) (hy1 : y.name = "<init>")
    (w1 : (Jvm.Cond.methodLink own index y).before a0 Z = true) (w2 : (Jvm.Cond.instanceMethod y).before a0 Z = true) (w3 : (Jvm.Cond.initialized y.cls).before a0 Z = true) (w4 : (Jvm.Cond.code y bytes maxL none).before a0 Z = true) {ps : List FieldType} {r : Option FieldType} (hdesc : parseMethodDescriptor y.desc = some ⟨ps, r⟩) (hlen : argsL.length = ps.length)
    (hd : decode code pc = .ok (.invokespecial index, 3)) (hstk : stk = argsL.reverse ++ .ref a :: st) (hsz : Ls.size = c.maxLocals) (hsf : ∀ x ∈ sf, S x) (hfr : rm.frames + 1 ≤ R.frames) (hlo : (st.map fun v => v.category).sum + (maxL + 11) + rm.locals ≤ R.locals) (hc : cells + rm.cells ≤ R.cells) (hs : slots + rm.slots ≤ R.slots)
    (k : ∀ v T' h' S', Sd w kn Z a0 EL p l e R s m args below meth c own T' h' S' (cells + rm.cells) (slots + rm.slots) → Q v h' S' → (∀ x, x < h.size → S x → S' x) → h.size ≤ h'.size → Go p e below A (T'.setTop (mkF m (pc + 3) Ls (v.toList ++ st))))
    (hy : y.cls ≠ "java/lang/invoke/MethodHandle" ∧ y.cls ≠ "java/lang/invoke/VarHandle" := by decide) : Go p e below A (T.setTop (mkF m pc Ls stk)) := by
  obtain ⟨q1, vm0, locs, X, eT, hZ, hown, hMo, N, hO, hC, rfl⟩ := X
  have hKn := q1.2.2.1.mv hMo.alike
  cases w with
  | false =>
    obtain ⟨v, vm1, B, -, X', hB, stp⟩ := X.specialBack q1.1 hy1 hown (mvT (s := s.setVm vm0) hZ w1) (mvT (s := s.setVm vm0) hZ w2) (mvT (s := s.setVm vm0) hZ w4) hy (K.backN (W := (st.map fun v => v.category).sum) hZ w4 w3 hfr hlo q1.2.1 hC.1 hsf hKn) (g := mkF m pc Ls stk) rfl hsz (Steps.refl _) (a := a) (argsL := argsL) (rest := st) (lenOf hdesc hlen) hstk (by show 2 * 0 + _ ≤ _; omega) (hb hby hd) (fun _ _ => ⟨rfl, eT, hc, hs⟩)
    obtain ⟨X1, hQ, hS, hz⟩ := doneN (A0 := ⟨T.setVm vm1, locs, cells, slots⟩) q1 hZ hown hMo N hC X' hB
    exact Go.tr stp (k v _ _ _ X1 hQ hS hz)
  | true =>
    obtain ⟨v, vm1, B, -, X', hSi, -, hB, stp⟩ := X.specialBackS q1.1 hy1 hown (mvT (s := s.setVm vm0) hZ w1) (mvT (s := s.setVm vm0) hZ w2) (mvT (s := s.setVm vm0) hZ w4) hy (K.backW (W := (st.map fun v => v.category).sum) hZ w4 w3 hfr hlo q1.2.1 hC.1 hsf hKn) (g := mkF m pc Ls stk) rfl hsz (Steps.refl _) (a := a) (argsL := argsL) (rest := st) (lenOf hdesc hlen) hstk (by show 2 * 0 + _ ≤ _; omega) (hb hby hd) (fun _ _ => ⟨rfl, eT, hc, hs⟩)
    obtain ⟨X1, hQ, hS, hz⟩ := doneW (T' := T) (A0 := ⟨T.setVm vm1, locs, cells, slots⟩) q1 hZ hown hMo N hC X' hSi hB
    exact Go.tr stp (k v _ _ _ X1 hQ hS hz)
/-- invokevirtual of y, which it also selects -/
theorem gVirt (X : Sd w kn Z a0 EL p l e R s m args below meth c own T h S cells slots) (hby : c.code = code) {index : Nat} {a : Addr} {C : String} {argsL : List Value} (K : Ct w kn Z EL l y bytes maxL ret rm (.ref a :: argsL).toArray h sf Q) (E : Exa Z h a C)
    (w1 : (Jvm.Cond.methodLink own index y).before a0 Z = true) (w2 : (Jvm.Cond.declares y).before a0 Z = true) (w5 : (Jvm.Cond.selects C y y).before a0 Z = true) (w6 : (Jvm.Cond.instanceMethod y).before a0 Z = true) (w3 : (Jvm.Cond.initialized y.cls).before a0 Z = true) (w4 : (Jvm.Cond.code y bytes maxL ret).before a0 Z = true) {ps : List FieldType} {r : Option FieldType} (hdesc : parseMethodDescriptor y.desc = some ⟨ps, r⟩) (hlen : argsL.length = ps.length)
    (hd : decode code pc = .ok (.invokevirtual index, 3)) (hstk : stk = argsL.reverse ++ .ref a :: st) (hsz : Ls.size = c.maxLocals) (hsf : ∀ x ∈ sf, S x) (hfr : rm.frames + 1 ≤ R.frames) (hlo : (st.map fun v => v.category).sum + (maxL + 11) + rm.locals ≤ R.locals) (hc : cells + rm.cells ≤ R.cells) (hs : slots + rm.slots ≤ R.slots)
    (k : ∀ v T' h' S', Sd w kn Z a0 EL p l e R s m args below meth c own T' h' S' (cells + rm.cells) (slots + rm.slots) → Q v h' S' → (∀ x, x < h.size → S x → S' x) → h.size ≤ h'.size → Go p e below A (T'.setTop (mkF m (pc + 3) Ls (v.toList ++ st))))
    (hy : y.cls ≠ "java/lang/invoke/MethodHandle" ∧ y.cls ≠ "java/lang/invoke/VarHandle" := by decide) : Go p e below A (T.setTop (mkF m pc Ls stk)) := by
  obtain ⟨q1, vm0, locs, X, eT, hZ, hown, hMo, N, hO, hC, rfl⟩ := X
  have hKn := q1.2.2.1.mv hMo.alike
  obtain ⟨cq, kq, i1, i2, i3⟩ := isOf (s := s.setVm vm0) hZ eT E
  cases w with
  | false =>
    obtain ⟨v, vm1, B, -, X', hB, stp⟩ := X.virtualBack q1.1 (y := y) (z := y) hown (mvT (s := s.setVm vm0) hZ w1) (mvT (s := s.setVm vm0) hZ w2) (notFace_of_selects (args := #[]) (mvT (s := s.setVm vm0) hZ w5)) (mvT (s := s.setVm vm0) hZ w5) (mvT (s := s.setVm vm0) hZ w6) hy (K.backN (W := (st.map fun v => v.category).sum) hZ w4 w3 hfr hlo q1.2.1 hC.1 hsf hKn) i1 i3 (g := mkF m pc Ls stk) rfl hsz (Steps.refl _) (argsL := argsL) (rest := st) (lenOf hdesc hlen) hstk (by show 2 * 0 + _ ≤ _; omega) (hb hby hd) (fun _ _ => ⟨rfl, eT, hc, hs⟩)
    obtain ⟨X1, hQ, hS, hz⟩ := doneN (A0 := ⟨T.setVm vm1, locs, cells, slots⟩) q1 hZ hown hMo N hC X' hB
    exact Go.tr stp (k v _ _ _ X1 hQ hS hz)
  | true =>
    obtain ⟨v, vm1, B, -, X', hSi, -, hB, stp⟩ := X.virtualBackS q1.1 (y := y) (z := y) hown (mvT (s := s.setVm vm0) hZ w1) (mvT (s := s.setVm vm0) hZ w2) (notFace_of_selects (args := #[]) (mvT (s := s.setVm vm0) hZ w5)) (mvT (s := s.setVm vm0) hZ w5) (mvT (s := s.setVm vm0) hZ w6) hy (K.backW (W := (st.map fun v => v.category).sum) hZ w4 w3 hfr hlo q1.2.1 hC.1 hsf hKn) i1 i3 (g := mkF m pc Ls stk) rfl hsz (Steps.refl _) (argsL := argsL) (rest := st) (lenOf hdesc hlen) hstk (by show 2 * 0 + _ ≤ _; omega) (hb hby hd) (fun _ _ => ⟨rfl, eT, hc, hs⟩)
    obtain ⟨X1, hQ, hS, hz⟩ := doneW (T' := T) (A0 := ⟨T.setVm vm1, locs, cells, slots⟩) q1 hZ hown hMo N hC X' hSi hB
    exact Go.tr stp (k v _ _ _ X1 hQ hS hz)
/-- invokevirtual through a subclass's name: z names a method that owner declares -/
theorem gVirtUp (X : Sd w kn Z a0 EL p l e R s m args below meth c own T h S cells slots) (hby : c.code = code) {index : Nat} {a : Addr} {C owner : String} {z : MethodName} {argsL : List Value} (K : Ct w kn Z EL l y bytes maxL ret rm (.ref a :: argsL).toArray h sf Q) (E : Exa Z h a C)
    (w1 : (Jvm.Cond.methodLink own index z).before a0 Z = true) (w7 : (Jvm.Cond.sameMethod z.cls owner z.name z.desc).before a0 Z = true) (w2 : (Jvm.Cond.declares ⟨owner, z.name, z.desc⟩).before a0 Z = true) (w5 : (Jvm.Cond.selects C z y).before a0 Z = true) (w6 : (Jvm.Cond.instanceMethod y).before a0 Z = true) (w3 : (Jvm.Cond.initialized y.cls).before a0 Z = true) (w4 : (Jvm.Cond.code y bytes maxL ret).before a0 Z = true) {ps : List FieldType} {r : Option FieldType} (hdesc : parseMethodDescriptor z.desc = some ⟨ps, r⟩) (hlen : argsL.length = ps.length)
    (hd : decode code pc = .ok (.invokevirtual index, 3)) (hstk : stk = argsL.reverse ++ .ref a :: st) (hsz : Ls.size = c.maxLocals) (hsf : ∀ x ∈ sf, S x) (hfr : rm.frames + 1 ≤ R.frames) (hlo : (st.map fun v => v.category).sum + (maxL + 11) + rm.locals ≤ R.locals) (hc : cells + rm.cells ≤ R.cells) (hs : slots + rm.slots ≤ R.slots)
    (k : ∀ v T' h' S', Sd w kn Z a0 EL p l e R s m args below meth c own T' h' S' (cells + rm.cells) (slots + rm.slots) → Q v h' S' → (∀ x, x < h.size → S x → S' x) → h.size ≤ h'.size → Go p e below A (T'.setTop (mkF m (pc + 3) Ls (v.toList ++ st))))
    (hy : owner ≠ "java/lang/invoke/MethodHandle" ∧ owner ≠ "java/lang/invoke/VarHandle" := by decide) : Go p e below A (T.setTop (mkF m pc Ls stk)) := by
  obtain ⟨q1, vm0, locs, X, eT, hZ, hown, hMo, N, hO, hC, rfl⟩ := X
  have hKn := q1.2.2.1.mv hMo.alike
  obtain ⟨cq, kq, i1, i2, i3⟩ := isOf (s := s.setVm vm0) hZ eT E
  cases w with
  | false =>
    obtain ⟨v, vm1, B, -, X', hB, stp⟩ := X.virtualBackUp q1.1 (x := z) (y := y) hown (mvT (s := s.setVm vm0) hZ w1) (mvT (s := s.setVm vm0) hZ w7) (mvT (s := s.setVm vm0) hZ w2) hy (mvT (s := s.setVm vm0) hZ w5) (mvT (s := s.setVm vm0) hZ w6) (K.backN (W := (st.map fun v => v.category).sum) hZ w4 w3 hfr hlo q1.2.1 hC.1 hsf hKn) i1 i3 (g := mkF m pc Ls stk) rfl hsz (Steps.refl _) (argsL := argsL) (rest := st) (lenOf hdesc hlen) hstk (by show 2 * 0 + _ ≤ _; omega) (hb hby hd) (fun _ _ => ⟨rfl, eT, hc, hs⟩)
    obtain ⟨X1, hQ, hS, hz⟩ := doneN (A0 := ⟨T.setVm vm1, locs, cells, slots⟩) q1 hZ hown hMo N hC X' hB
    exact Go.tr stp (k v _ _ _ X1 hQ hS hz)
  | true =>
    obtain ⟨v, vm1, B, -, X', hSi, -, hB, stp⟩ := X.virtualBackUpS q1.1 (x := z) (y := y) hown (mvT (s := s.setVm vm0) hZ w1) (mvT (s := s.setVm vm0) hZ w7) (mvT (s := s.setVm vm0) hZ w2) hy (mvT (s := s.setVm vm0) hZ w5) (mvT (s := s.setVm vm0) hZ w6) (K.backW (W := (st.map fun v => v.category).sum) hZ w4 w3 hfr hlo q1.2.1 hC.1 hsf hKn) i1 i3 (g := mkF m pc Ls stk) rfl hsz (Steps.refl _) (argsL := argsL) (rest := st) (lenOf hdesc hlen) hstk (by show 2 * 0 + _ ≤ _; omega) (hb hby hd) (fun _ _ => ⟨rfl, eT, hc, hs⟩)
    obtain ⟨X1, hQ, hS, hz⟩ := doneW (T' := T) (A0 := ⟨T.setVm vm1, locs, cells, slots⟩) q1 hZ hown hMo N hC X' hSi hB
    exact Go.tr stp (k v _ _ _ X1 hQ hS hz)
/-- ldc of a String constant of EL -/
theorem gLdc {own : String} (X : Sd true kn Z a0 EL p l e R s m args below meth c own T h S cells slots) (hby : c.code = code) {text : String} {index : Nat} (w1 : (Jvm.Cond.stringLink own index text).before a0 Z = true) (wS : ∀ a ∈ Bundle.stringAtoms, a.before a0 Z = true) (hmem : (own, index) ∈ EL)
    {xs : List Int32} (hlat : ∀ c ∈ text.toList, c.toNat < 256) (ht : text.toList.map (fun c => Jvm.Lit.byteI c.toNat.toUInt16) = xs) (hxs : xs.length < 1000) (hd : decode code pc = .ok (.ldc index, 2)) {n : Nat} (hn : 4 * text.toList.length ≤ n) (hbig : n ≤ 536870912) (hc : cells + 2 ≤ R.cells) (hl : slots + (n + 4) ≤ R.slots)
    (k : ∀ T' h' S' a b, Sd true kn Z a0 EL p l e R s m args below meth c own T' h' S' (cells + 2) (slots + (n + 4)) → Ext h h' → Exa Z h' a "java/lang/String" → Fld Z h' a "java/lang/String" "coder" "B" (.int 0) → Fld Z h' a "java/lang/String" "value" "[B" (.ref b) → Ari Z h' b .byte xs → (∀ x, x < h.size → S x → S' x) → (∀ x, S' x → x ≠ a ∧ x ≠ b) →
      Go p e below A (T'.setTop (mkF m (pc + 2) Ls (.ref a :: st)))) : Go p e below A (T.setTop (mkF m pc Ls st)) := by
  obtain ⟨q1, vm0, locs, X, eT, hZ, hown, ⟨k0, hS, hk⟩, N, hO, hC, rfl⟩ := X
  obtain ⟨a, T', h', k1, b, kb, X', e', E, hS', hk', hZ', hown', E1, F1, F2, V, -, -, hC', -, hne, stp⟩ := ldcCH X q1.1 hZ hown w1 wS eT hS hk q1.2.1 hmem hC.1 (vs := xs.map Value.int) (z := Int32.ofNat xs.length) ⟨hlat, by rw [← ht, List.map_map]; rfl⟩ (nn32 (by omega)) (by rw [c32 (by omega), List.length_map]) (g := mkF m pc Ls st) rfl (hb hby hd) hn hbig hc hl
  exact Go.step stp (k T' h' (Safe Z EL T'.vm h') a b ⟨q1, T'.vm, locs, X', e', hZ', hown', ⟨k1, hS', hk'⟩, N, hO.ext E, hC.trans hC', rfl⟩ E E1 F1 F2 ⟨by omega, kb, V⟩ (fun x hx hs => hC'.safe hx hs) hne)
/-- ldc of a String constant, unread -/
theorem gLdcO {own : String} (X : Sd true kn Z a0 EL p l e R s m args below meth c own T h S cells slots) (hby : c.code = code) {text : String} {index : Nat} (w1 : (Jvm.Cond.stringLink own index text).before a0 Z = true) (wS : ∀ a ∈ Bundle.stringAtoms, a.before a0 Z = true)
    (hd : decode code pc = .ok (.ldc index, 2)) {n : Nat} (hn : 4 * text.toList.length ≤ n) (hbig : n ≤ 536870912) (hc : cells + 2 ≤ R.cells) (hl : slots + (n + 4) ≤ R.slots)
    (k : ∀ T' h' S' a, Sd true kn Z a0 EL p l e R s m args below meth c own T' h' S' (cells + 2) (slots + (n + 4)) → Ext h h' → (∀ x, x < h.size → S x → S' x) → Go p e below A (T'.setTop (mkF m (pc + 2) Ls (.ref a :: st)))) : Go p e below A (T.setTop (mkF m pc Ls st)) := by
  obtain ⟨q1, vm0, locs, X, eT, hZ, hown, ⟨k0, hS, hk⟩, N, hO, hC, rfl⟩ := X
  obtain ⟨a, T', h', k1, X', e', E, hS', hk', hZ', hown', hC', -, stp⟩ := ldcOH X q1.1 hZ hown w1 wS eT hS hk q1.2.1 hC.1 (g := mkF m pc Ls st) rfl (hb hby hd) hn hbig hc hl
  exact Go.step stp (k T' h' (Safe Z EL T'.vm h') a ⟨q1, T'.vm, locs, X', e', hZ', hown', ⟨k1, hS', hk'⟩, N, hO.ext E, hC.trans hC', rfl⟩ E (fun x hx hs => hC'.safe hx hs))
end OwnCalls
section OwnNums
theorem eqT {x y : Int32} (h : if_icmp.holds .eq x y = true) : x = y := Classical.byContradiction fun q => by rw [(feq q).1] at h; cases h
theorem eqF {x y : Int32} (h : if_icmp.holds .eq x y = false) : ¬ x = y := fun q => by rw [(teq q).1] at h; cases h
theorem neT {x y : Int32} (h : if_icmp.holds .ne x y = true) : ¬ x = y := fun q => by rw [(teq q).2] at h; cases h
theorem neF {x y : Int32} (h : if_icmp.holds .ne x y = false) : x = y := Classical.byContradiction fun q => by rw [(feq q).2] at h; cases h
theorem ltT {x y : Int32} (h : if_icmp.holds .lt x y = true) : x < y := Classical.byContradiction fun q => by rw [(flt q).1] at h; cases h
theorem ltF {x y : Int32} (h : if_icmp.holds .lt x y = false) : ¬ x < y := fun q => by rw [(tlt q).1] at h; cases h
theorem geT {x y : Int32} (h : if_icmp.holds .ge x y = true) : ¬ x < y := fun q => by rw [(tlt q).2.1] at h; cases h
theorem geF {x y : Int32} (h : if_icmp.holds .ge x y = false) : x < y := Classical.byContradiction fun q => by rw [(flt q).2.1] at h; cases h
theorem gtT {x y : Int32} (h : if_icmp.holds .gt x y = true) : y < x := Classical.byContradiction fun q => by rw [(flt q).2.2.1] at h; cases h
theorem gtF {x y : Int32} (h : if_icmp.holds .gt x y = false) : ¬ y < x := fun q => by rw [(tlt q).2.2.1] at h; cases h
theorem leT {x y : Int32} (h : if_icmp.holds .le x y = true) : ¬ y < x := fun q => by rw [(tlt q).2.2.2] at h; cases h
theorem leF {x y : Int32} (h : if_icmp.holds .le x y = false) : y < x := Classical.byContradiction fun q => by rw [(flt q).2.2.2] at h; cases h
theorem aeqT {x y : Value} (h : XT.acmp .eq x y = true) : x = y := Classical.byContradiction fun q => by rw [XT.aa_eq_f q] at h; cases h
theorem aeqF {x y : Value} (h : XT.acmp .eq x y = false) : ¬ x = y := fun q => by rw [XT.aa_eq_t q] at h; cases h
theorem aneT {x y : Value} (h : XT.acmp .ne x y = true) : ¬ x = y := fun q => by rw [XT.aa_ne_f q] at h; cases h
theorem aneF {x y : Value} (h : XT.acmp .ne x y = false) : x = y := Classical.byContradiction fun q => by rw [XT.aa_ne_t q] at h; cases h
abbrev chr16 (x : Int32) : Int32 := x.toUInt32.toUInt16.toUInt32.toInt32
abbrev lo8 (x : Int32) : Int32 := x.toInt8.toInt32
theorem lt32 {i j : Nat} (hi : i < 2147483648) (hj : j < 2147483648) : Int32.ofNat i < Int32.ofNat j ↔ i < j := by rw [Int32.lt_iff_toInt_lt, n32 hi, n32 hj]; omega
theorem eq32 {i j : Nat} (hi : i < 2147483648) (hj : j < 2147483648) : Int32.ofNat i = Int32.ofNat j ↔ i = j := by rw [← Int32.toInt_inj, n32 hi, n32 hj]; omega
theorem succ32 (i : Nat) : Int32.ofNat i + (1 : Int32) = Int32.ofNat (i + 1) := (Int32.ofNat_add i 1).symm
theorem nar_lo8 (x : Int32) : nar .byte (lo8 x) = lo8 x := nar_fits (Or.inr (Or.inr (Or.inl rfl))) (fits_nar_byte x)
theorem nar_chr (x : Int32) : nar .char (chr16 x) = chr16 x := nar_fits (Or.inr (Or.inl rfl)) (fits_nar_char x)
/-- istore into a slot of which is known only that it is no half of a long -/
theorem gIst {p : Program} {l : Launch} {e : Env} {R : Room} {s : State} {m : MethodId} {args : Array Value} {below : List Frame} {meth : Method} {c : Code} {T : State} {cells slots : Nat} {Z : State} {a0 : Array Value} {h : Heap} {EL : List (String × Nat)} {own : String} {w kn : Bool} {S : Addr → Prop} {A : Outcome → State → Prop} {Ls : Array Slot} {st : List Value} {pc : Nat} {code : ByteArray}
    (X : Sd w kn Z a0 EL p l e R s m args below meth c own T h S cells slots) (hby : c.code = code) {k : Nat} {x : Int32} {o : Slot} (hd : decode code pc = .ok (.istore k, 2)) (hold : Ls[k]? = some o) (ho : One o) (g : Go p e below A (T.setTop (mkF m (pc + 2) (Ls.setIfInBounds k (.val (.int x))) st))) : Go p e below A (T.setTop (mkF m pc Ls (.int x :: st))) :=
  Go.step (fun t q => XS.istoreS X.here X.hx rfl (hb hby hd) rfl hold ho q) g
theorem gIstN {p : Program} {l : Launch} {e : Env} {R : Room} {s : State} {m : MethodId} {args : Array Value} {below : List Frame} {meth : Method} {c : Code} {T : State} {cells slots : Nat} {Z : State} {a0 : Array Value} {h : Heap} {EL : List (String × Nat)} {own : String} {w kn : Bool} {S : Addr → Prop} {A : Outcome → State → Prop} {Ls : Array Slot} {st : List Value} {pc : Nat} {code : ByteArray}
    (X : Sd w kn Z a0 EL p l e R s m args below meth c own T h S cells slots) (hby : c.code = code) {k : Fin 4} {x : Int32} {o : Slot} (hd : decode code pc = .ok (.istore_n k, 1)) (hold : Ls[k.val]? = some o) (ho : One o) (g : Go p e below A (T.setTop (mkF m (pc + 1) (Ls.setIfInBounds k.val (.val (.int x))) st))) : Go p e below A (T.setTop (mkF m pc Ls (.int x :: st))) :=
  Go.step (fun t q => XS.istoreNS X.here X.hx rfl (hb hby hd) rfl hold ho q) g
end OwnNums
section OwnStr
theorem getD_set_self {xs : List Int32} {i : Nat} {v : Int32} (h : i < xs.length) : (xs.set i v).getD i 0 = v := by simp [List.getD_eq_getElem?_getD, h]
theorem getD_set_ne {xs : List Int32} {i j : Nat} {v : Int32} (h : i ≠ j) : (xs.set i v).getD j 0 = xs.getD j 0 := by simp [List.getD_eq_getElem?_getD, List.getElem?_set_ne h]
theorem list_of_getD {xs ys : List Int32} (hl : xs.length = ys.length) (h : ∀ j, j < xs.length → xs.getD j 0 = ys.getD j 0) : xs = ys := by
  apply List.ext_getElem hl
  intro i h1 h2
  have := h i h1
  simpa [List.getD_eq_getElem?_getD, h1, h2] using this
theorem getD_map {xs : List Int32} {f : Int32 → Int32} {j : Nat} (h : j < xs.length) : (xs.map f).getD j 0 = f (xs.getD j 0) := by simp [List.getD_eq_getElem?_getD, h]
theorem getD_mem {xs : List Int32} {j : Nat} (h : j < xs.length) : xs.getD j 0 ∈ xs := by simp [List.getD_eq_getElem?_getD, h]
/-- the high byte, as StringUTF16.putChar stores it -/
abbrev hi8 (x : Int32) : Int32 := lo8 (x >>> ((8 : Int32) &&& 31))
/-- UTF-16's bytes, the low one first -/
def u16 : List Int32 → List Int32
  | [] => []
  | c :: r => lo8 c :: hi8 c :: u16 r
theorem u16_length (cs : List Int32) : (u16 cs).length = 2 * cs.length := by induction cs with | nil => rfl | cons c r ih => simp only [u16, List.length_cons, ih]; omega
/-- a String: her bytes lie at b, her chars are cs -/
def Str (Z : State) (h : Heap) (x b : Addr) (cs : List Int32) : Prop := Exa Z h x "java/lang/String" ∧ Fld Z h x "java/lang/String" "value" "[B" (.ref b) ∧ (∀ c ∈ cs, ¬ c < 0 ∧ ¬ 65535 < c) ∧
  ((Fld Z h x "java/lang/String" "coder" "B" (.int 0) ∧ Ari Z h b .byte (cs.map lo8) ∧ ∀ c ∈ cs, ¬ 255 < c) ∨ (Fld Z h x "java/lang/String" "coder" "B" (.int 1) ∧ Ari Z h b .byte (u16 cs) ∧ ∃ c ∈ cs, 255 < c))
variable {Z : State} {h h' : Heap} {x b a : Addr} {cs : List Int32}
theorem Str.exa (F : Str Z h x b cs) : Exa Z h x "java/lang/String" := F.1
theorem Str.ext (E : Ext h h') (F : Str Z h x b cs) : Str Z h' x b cs := by
  obtain ⟨q1, q2, q3, q4⟩ := F
  refine ⟨q1.ext E, q2.ext E, q3, ?_⟩
  rcases q4 with ⟨r1, r2, r3⟩ | ⟨r1, r2, r3⟩
  · exact Or.inl ⟨r1.ext E, r2.ext E, r3⟩
  · exact Or.inr ⟨r1.ext E, r2.ext E, r3⟩
theorem Str.keep {ws : List Addr} (F : Str Z h x b cs) (K : Keep h h' ws) (n1 : x ∉ ws) (n2 : b ∉ ws) : Str Z h' x b cs := by
  obtain ⟨q1, q2, q3, q4⟩ := F
  refine ⟨q1.keep K, q2.keep K n1, q3, ?_⟩
  rcases q4 with ⟨r1, r2, r3⟩ | ⟨r1, r2, r3⟩
  · exact Or.inl ⟨r1.keep K n1, r2.keep K n2, r3⟩
  · exact Or.inr ⟨r1.keep K n1, r2.keep K n2, r3⟩
theorem Str.lt (F : Str Z h x b cs) : x < h.size ∧ b < h.size := ⟨F.1.lt, by rcases F.2.2.2 with ⟨-, r, -⟩ | ⟨-, r, -⟩ <;> exact r.lt⟩
theorem Ari.chars (F : Ari Z h a .char cs) : ∀ c ∈ cs, ¬ c < 0 ∧ ¬ 65535 < c := fun c hc => by
  obtain ⟨i, hi, e⟩ := List.mem_iff_getElem.mp hc
  have := F.fits hi
  rw [show cs.getD i 0 = c by simp [List.getD_eq_getElem?_getD, hi, e]] at this
  exact rng_char this
theorem ne_ari {a0 : Array Value} {C : String} {n : Nat} {ty : FieldType} {xs : List Int32} (E : Exa Z h x C) (F : Ari Z h b ty xs) (w : (Jvm.Cond.instantiable C n).before a0 Z = true) : x ≠ b := by obtain ⟨-, k, F⟩ := F; exact E.neArv F w
end OwnStr
theorem keep_more {h h' : Heap} {ws : List Addr} (K : Keep h h' []) : Keep h h' ws := ⟨K.1, fun x c q _ => K.2.1 x c q nin0, K.2.2⟩
theorem lat_mask (x : Int32) : ¬ (255 : Int32) < chr16 (x &&& (255 : Int32)) := by
  rw [show chr16 (x &&& (255 : Int32)) = x &&& 255 from i2c_mask x]
  have h := c_and x 255 (by decide)
  have e : (255 : Int32).toInt = 255 := rfl
  rw [Int32.lt_iff_toInt_lt]; omega
section OwnFill
open Jvm.Free.Exc LibCode.Throwable
/-- the words on Throwable and on the receiver's class rc that a filled-in stack trace asks: the fields are said by rc's words alone -/
def exW (rc : String) : List Jvm.Cond := [.native tFill0, .superclass tN "java/lang/Object", .instanceMethod tFill, .codeSync tFill Fill.code 1 (some (.object tN)), .instanceMethod tFill0, .initialized tN, .instanceMethod tInit0, .code tInit0 Init0.code 1 none,
  .instanceMethod oInit, .code oInit ⟨#[0xb1]⟩ 1 none, .methodLink tN 1 oInit, .methodLink tN 27 tFill, .methodLink tN 202 tFill0, .fieldLink tN 7 tN "cause" thD, .fieldLink tN 17 tN "stackTrace" steD, .fieldLink tN 24 tN "suppressedExceptions" listD,
  .fieldLink tN 13 tN "UNASSIGNED_STACK" steD, .laysStatic tN "UNASSIGNED_STACK" steD, .fieldLink tN 20 tN "SUPPRESSED_SENTINEL" listD, .laysStatic tN "SUPPRESSED_SENTINEL" listD,
  .lays rc tN "cause" thD, .lays rc tN "stackTrace" steD, .lays rc tN "suppressedExceptions" listD, .lays rc tN "detailMessage" msgD, .lays rc tN "backtrace" obD, .lays rc tN "depth" "I",
  .declares tFill, .selects rc tFill0 tFill0, .selects rc tFill tFill, .fieldLink tN 198 tN "backtrace" obD, .arrayOver (.object "java/lang/Object"), .soleField tN "backtrace", .soleField tN "depth"]
theorem exW_ok {rc : String} : (exW rc).all xOk = true := rfl
/-- Throwable's tables, out of those words -/
theorem own_links {rc : String} {args : Array Value} {s : State} {pl : Platform} (howns : pl.frameOwnsMonitors = true) (hfin : pl.finalization = false) (hpl : pl.magicAccessors = ({} : Platform).magicAccessors)
    {cR : ClassId} {kR : Class} (fR : s.vm.findClass rc = some cR) (kRat : s.vm.classes[cR]? = some kR) (W : ∀ x ∈ exW rc, x.before args s = true) : ∃ (T : ThrowableC) (Z0 : Init0T), T.Links pl s ∧ Ties T Z0 s := by
  have gm : ∀ x, x ∈ exW rc → x.holds args s none s [] = true := fun x hx => W x hx
  obtain ⟨⟨cT, iN⟩, mN, nN, mmN, natN, codeN, lockN, sigN⟩ := Cond.native_spec (gm (.native tFill0) (by simp [exW]))
  have fT : s.vm.findClass tN = some cT := findClass_of_methodNamed nN
  obtain ⟨kT, kTat, kTn⟩ := Vm.findClass_spec fT
  obtain ⟨_, kT', _, _, kTat', _, _, ordT, _, noI⟩ := Cond.superclass_spec fT (gm (.superclass tN "java/lang/Object") (by simp [exW]))
  cases kTat.symm.trans kTat'
  obtain ⟨iF, mF, nF, mmF, atF, stF, abF, -, -⟩ := Cond.ownMethod (x := tFill) fT kTat (gm (.instanceMethod tFill) (by simp [exW]))
  obtain ⟨_, cF, mmF', cdF, byF, loF, reF, lkF, -, sgF⟩ := Cond.codeSync_spec nF (gm (.codeSync tFill Fill.code 1 (some (.object tN))) (by simp [exW]))
  cases mmF.symm.trans mmF'
  obtain ⟨iN', mN', nN', mmN', atN, stN, abN, nmN, dsN⟩ := Cond.ownMethod (x := tFill0) fT kTat (gm (.instanceMethod tFill0) (by simp [exW]))
  cases nN.symm.trans nN'
  cases mmN.symm.trans mmN'
  obtain ⟨iI, mI, nI, mmI, atI, -, -, -, -⟩ := Cond.ownMethod (x := tInit0) fT kTat (gm (.instanceMethod tInit0) (by simp [exW]))
  obtain ⟨_, cI, mmI', cdI, byI, loI, -, lkI, -, -⟩ := Cond.code_spec nI (gm (.code tInit0 Init0.code 1 none) (by simp [exW]))
  cases mmI.symm.trans mmI'
  obtain ⟨oM, mO, nO, mmO, stO, abO⟩ := Cond.instanceMethod_spec (gm (.instanceMethod oInit) (by simp [exW]))
  obtain ⟨_, cO, mmO', cdO, byO, loO, -, lkO, -, sgO⟩ := Cond.code_spec nO (gm (.code oInit ⟨#[0xb1]⟩ 1 none) (by simp [exW]))
  cases mmO.symm.trans mmO'
  obtain ⟨kO, kOat, kOn⟩ := Vm.findClass_spec (findClass_of_methodNamed nO)
  obtain ⟨nmO, dsO⟩ := name_of_methodNamed nO mmO
  obtain ⟨ci1, n1, cf, l1, r1, hcf, p1⟩ := Cond.linkedMethod fT kTat nO (gm (.methodLink tN 1 oInit) (by simp [exW])) pl hpl
  obtain ⟨ci27, n27, cf2, l27, r27, hcf2, p27⟩ := Cond.linkedMethod fT kTat nF (gm (.methodLink tN 27 tFill) (by simp [exW])) pl hpl
  cases hcf.symm.trans hcf2
  obtain ⟨ci202, n202, cf3, l202, r202, hcf3, p202⟩ := Cond.linkedMethod fT kTat nN (gm (.methodLink tN 202 tFill0) (by simp [exW])) pl hpl
  cases hcf.symm.trans hcf3
  have wS := gm (.lays rc tN "stackTrace" steD) (by simp [exW])
  have wP := gm (.lays rc tN "suppressedExceptions" listD) (by simp [exW])
  have wM := gm (.lays rc tN "detailMessage" msgD) (by simp [exW])
  obtain ⟨ci7, i7, f7, b7, c7, d7, e7, g7, h7, j7, k7⟩ := Cond.ownField (t := .object tN) fT kTat (by decide +kernel) (gm (.fieldLink tN 7 tN "cause" thD) (by simp [exW])) (gm (.lays rc tN "cause" thD) (by simp [exW])) pl hpl
  obtain ⟨ci17, i17, f17, b17, c17, d17, e17, g17, h17, j17, k17⟩ := Cond.ownField (t := .array (.object "java/lang/StackTraceElement")) fT kTat (by decide +kernel) (gm (.fieldLink tN 17 tN "stackTrace" steD) (by simp [exW])) wS pl hpl
  obtain ⟨ci24, i24, f24, b24, c24, d24, e24, g24, h24, j24, k24⟩ := Cond.ownField (t := .object "java/util/List") fT kTat (by decide +kernel) (gm (.fieldLink tN 24 tN "suppressedExceptions" listD) (by simp [exW])) wP pl hpl
  obtain ⟨ci13, i13, f13, aS, cS, b13, c13, d13, e13, -, -, hsta, hcS, hiS, -, -, k13⟩ := Cond.ownStatic (t := .array (.object "java/lang/StackTraceElement")) fT kTat (by decide +kernel) (gm (.fieldLink tN 13 tN "UNASSIGNED_STACK" steD) (by simp [exW])) (gm (.laysStatic tN "UNASSIGNED_STACK" steD) (by simp [exW])) pl hpl
  obtain ⟨ci20, i20, f20, _, _, b20, c20, d20, e20, -, -, -, -, -, -, -, k20⟩ := Cond.ownStatic (t := .object "java/util/List") fT kTat (by decide +kernel) (gm (.fieldLink tN 20 tN "SUPPRESSED_SENTINEL" listD) (by simp [exW])) (gm (.laysStatic tN "SUPPRESSED_SENTINEL" listD) (by simp [exW])) pl hpl
  obtain ⟨_, _, cM, kM, iM, fM, _, _, fndM, sM, fiM, _⟩ := Cond.lays_spec wM
  cases fT.symm.trans (Cond.lays_declared wM fndM)
  cases kTat.symm.trans (State.fieldFound?_spec fndM).1
  obtain ⟨-, _, q1, q2⟩ := Cond.laysAt fR kRat k17 wS
  obtain ⟨-, _, q3, q4⟩ := Cond.laysAt fR kRat k24 wP
  have apart : f17.slot ≠ f24.slot := Cond.laysApart q1 q3 q2 q4 (by rw [h17, h24]; decide)
  have pF : mF.sig.parameters = [] := by
    have z : (parseMethodDescriptor tFill.desc).map (·.parameters) = some [] := by decide +kernel
    rw [sgF] at z; simpa using z
  have pN : mN.sig.parameters = [.int] := by
    have z : (parseMethodDescriptor tFill0.desc).map (·.parameters) = some [.int] := by decide +kernel
    rw [sigN] at z; simpa using z
  have pO : mO.sig.parameters.length = 0 := by
    have z : (parseMethodDescriptor oInit.desc).map (·.parameters) = some [] := by decide +kernel
    rw [sgO] at z
    have z2 : mO.sig.parameters = [] := by simpa using z
    rw [z2]; rfl
  refine ⟨{ cT := cT, kT := kT, cO := cT, aS := aS, fillIdx := iF, fill0Idx := iN, initSIdx := iI, obj := oM, kObj := kO, methFill := mF, methFill0 := mN, methInitS := mI, methObj := mO, codeFill := cF, codeInitS := cI, codeObj := cO,
              fBack := f7, fDepth := f7, fStack := f17, fCause := f7, fSupp := f24, fMsg := fM, fUnassigned := f13, fSentinel := f20, cfT := cf, ci1 := ci1, n1 := n1, ci27 := ci27, n27 := n27, ci202 := ci202, n202 := n202,
              ci7 := ci7, i7 := i7, ci13 := ci13, i13 := i13, ci17 := ci17, i17 := i17, ci20 := ci20, i20 := i20, ci24 := ci24, i24 := i24 }, { idx := iI, meth := mI, code := cI }, ?_, ?_⟩
  · exact { owns := howns, noFinalization := hfin, cls := kTat, name := kTn, boot := Vm.findClass_boot fT kTat, notInterface := noI, initialized := Cond.initialized_spec fT kTat (gm (.initialized tN) (by simp [exW])), statics := hsta,
            fillAt := atF, fillCode := cdF, fillBytes := byF, fillLocals := loF, fillLocks := lkF, fillStatic := stF, fillAbstract := abF, fillReturns := reF, fillParams := pF,
            fill0At := atN, fill0Name := nmN, fill0Desc := dsN, fill0Params := pN, fill0Static := stN, fill0Native := natN, fill0Code := codeN, fill0Locks := lockN, fill0Abstract := abN,
            stackInstance := e17, stackNotFinal := g17, unassignedStatic := e13, objClass := kOat, objClassName := kOn, objMethod := mmO, objName := nmO, objStatic := stO, objAbstract := abO,
            objFound := by rw [dsO]; exact lookupSpecial_of_named nO mmO stO, objParams := pO, objCode := cdO, objBytes := byO, objLocks := lkO, causeInstance := e7, causeNotFinal := g7, sentinelStatic := e20, suppInstance := e24, suppNotFinal := g24, msgInstance := sM, msgNotFinal := fiM, stackApartSupp := apart,
            file := hcf, mlink1 := l1, mright1 := r1, pool1 := p1, mlink27 := l27, mright27 := r27, pool27 := p27, mlink202 := l202, mright202 := r202, pool202 := p202,
            link7 := b7, right7 := c7, at7 := d7, link13 := b13, right13 := c13, at13 := d13, link17 := b17, right17 := c17, at17 := d17, link20 := b20, right20 := c20, at20 := d20, link24 := b24, right24 := c24, at24 := d24 }
  · exact ⟨fT, nF, nN, nI, loO, ordT, k7, k17, k24, k13, k20, ⟨iM, fndM⟩, (State.fieldFound?_type fndM (t := .object "java/lang/String") (by decide +kernel)).2, h7, h17, h24, j7, j17, j24, cS, hcS, hiS⟩
variable {p : Program} {l : Launch} {e : Env} {R : Room} {s : State} {m : MethodId} {args : Array Value} {below : List Frame} {meth : Method} {c : Code} {T : State} {locs : List Loc} {cells slots : Nat} {Z : State} {a0 : Array Value} {h h' : Heap} {EL : List (String × Nat)} {w kn : Bool} {S : Addr → Prop} {A : Outcome → State → Prop} {Ls : Array Slot} {st stk : List Value} {pc : Nat} {code : ByteArray}
theorem setCell_keep {h : Heap} {a : Addr} {c0 c1 hd : Cell} (q : h[a]? = some c0) (h1 : c1.cls = c0.cls) (h2 : c1.vm = c0.vm) (h3 : c1.slots.size = c0.slots.size) : Keep h ((h.push hd).setIfInBounds a c1) [a] := by
  have hlt := (Array.getElem?_eq_some_iff.mp q).1
  refine ⟨by simp, fun x cx hx hn => ?_, fun x cx hx => ?_⟩
  · have hne : a ≠ x := fun z => hn (by simp [z])
    rw [Array.getElem?_setIfInBounds_ne hne, Array.getElem?_push_lt (Array.getElem?_eq_some_iff.mp hx).1]
    exact (Array.getElem?_eq_getElem _).symm.trans hx
  · by_cases z : a = x
    · subst z; cases q.symm.trans hx
      exact ⟨c1, by rw [Array.getElem?_setIfInBounds_self_of_lt (by simp; omega)], h1, h2, h3⟩
    · exact ⟨cx, by
        rw [Array.getElem?_setIfInBounds_ne z, Array.getElem?_push_lt (Array.getElem?_eq_some_iff.mp hx).1]
        exact (Array.getElem?_eq_getElem _).symm.trans hx, rfl, rfl, rfl⟩
/-- Throwable.fillInStackTrace() on an object of the walk's own, whose field stackTrace holds UNASSIGNED_STACK -/
theorem gFill (X : Sd w true Z a0 EL p l e R s m args below meth c "java/lang/Throwable" T h S cells slots) (hby : c.code = code) (hl : l.stackTraces = true) {rc : String} {n : Nat} (W : ∀ x ∈ exW rc, x.before a0 Z = true) (wi : (Jvm.Cond.instantiable rc n).before a0 Z = true)
    {a u : Addr} (E : Exa Z h a rc) (N : Unt h a) (FB : Fld Z h a "java/lang/Throwable" "backtrace" "Ljava/lang/Object;" .null) (FS : Fld Z h a "java/lang/Throwable" "stackTrace" "[Ljava/lang/StackTraceElement;" (.ref u)) (hU : Sta Z Z.heap "java/lang/Throwable" "UNASSIGNED_STACK" "[Ljava/lang/StackTraceElement;" (.ref u))
    (hna : Z.heap.size ≤ a) (hs : S a) (hd : decode code pc = .ok (.invokevirtual 27, 3)) (hsz : Ls.size = c.maxLocals) (hf : 2 < R.frames) (hlo : (st.map fun v => v.category).sum + 42 ≤ R.locals) (hc : cells + 1 ≤ R.cells) (hsl : slots + 2752 ≤ R.slots)
    (k : ∀ T' h' S', Sd w true Z a0 EL p l e R s m args below meth c "java/lang/Throwable" T' h' S' (cells + 1) (slots + 2752) → Keep h h' [a] → Unt h' a → (∀ x, S x → S' x) → Go p e below A (T'.setTop (mkF m (pc + 3) Ls (.ref a :: st)))) :
    Go p e below A (T.setTop (mkF m pc Ls (.ref a :: st))) := by
  obtain ⟨q1, vm0, locs, X, eT, hZ, hown, hMo, N0, hO, hC, rfl⟩ := X
  have hKn : Kn true vm0 below := q1.2.2.1.mv hMo.alike
  have hT0 : ThS Z s.heap := ThS.start.ext q1.2.2.2.2.2
  have W' : ∀ x ∈ exW rc, x.before args (s.setVm vm0) = true := fun x hx => mvX (s := s.setVm vm0) hT0 hZ (List.all_eq_true.mp exW_ok x hx) (W x hx)
  have gm : ∀ x, x ∈ exW rc → x.holds args (s.setVm vm0) none (s.setVm vm0) [] = true := fun x hx => W' x hx
  have hpf := X.admits.platform
  have hpl : e.platform.magicAccessors = ({} : Platform).magicAccessors := by rw [hpf]
  have howns : e.platform.frameOwnsMonitors = true := by rw [hpf]
  have hfin : e.platform.finalization = false := by rw [hpf]
  obtain ⟨cell, vmn, hcell, hfR, hkZ, hstat, hord⟩ := id E
  obtain ⟨cB, kB, i1, i2, i3⟩ := isOf (s := s.setVm vm0) hZ eT E
  obtain ⟨cellN, hcN, hvmN, hmon⟩ := id N
  cases hcell.symm.trans hcN
  have hfR' : (s.setVm vm0).vm.findClass rc = some cell.cls := by rw [show (s.setVm vm0).vm = vm0 from rfl, hZ.alike.findClass]; exact hfR
  cases i1.symm.trans hfR'
  obtain ⟨T0, Z0, L, Y⟩ := own_links (pl := e.platform) howns hfin hpl hfR' i2 W'
  have hal : Z.vm.Alike vm0 := hZ.alike
  obtain ⟨kZ', zk, ezk⟩ := hal.2.2 _ _ hkZ
  cases i2.symm.trans zk
  obtain ⟨c2, k2, z1, z2, z3, -⟩ := Cond.instantiable_spec (mv (s := s.setVm vm0) (args := args) hZ wi)
  cases hfR'.symm.trans z1
  cases i2.symm.trans z2
  have hsize : cell.slots.size = kB.instanceTypes.size := by
    have q : vmn.kind = .ordinary := by rw [ezk] at z3; exact z3
    rw [ezk]; exact hord q
  obtain ⟨c1, cf1, k1, j1, f1, g1, g2, g3, g4, g5, g6, g7⟩ := FS
  cases hcell.symm.trans g1
  obtain ⟨k1', y1, -⟩ := State.fieldFound?_setVm (s := Z) hal g2
  cases (show (s.setVm vm0).fieldFound? "java/lang/Throwable" "stackTrace" "[Ljava/lang/StackTraceElement;" = _ from y1).symm.trans Y.stack
  obtain ⟨ci198, i198, fB, hk198, hg198, ha198, hsB, -, hnB, htyB, hffB⟩ := Cond.ownField (t := .object "java/lang/Object") Y.found L.cls (by decide +kernel) (gm (.fieldLink tN 198 tN "backtrace" obD) (by simp [exW])) (gm (.lays rc tN "backtrace" obD) (by simp [exW])) e.platform hpl
  obtain ⟨c3, cf3, k3, j3, f3, b1, b2, b3, b4, b5, b6, b7⟩ := FB
  cases hcell.symm.trans b1
  obtain ⟨k3', y3, -⟩ := State.fieldFound?_setVm (s := Z) hal b2
  cases (show (s.setVm vm0).fieldFound? "java/lang/Throwable" "backtrace" "Ljava/lang/Object;" = _ from y3).symm.trans hffB
  obtain ⟨cfU, iU, kU, fU, stU, cellS, u1, u2, u3, u4, u5, u6, u7⟩ := hU
  obtain ⟨kU', y4, ekU⟩ := State.fieldFound?_setVm (s := Z) hal u1
  cases (show (s.setVm vm0).fieldFound? "java/lang/Throwable" "UNASSIGNED_STACK" "[Ljava/lang/StackTraceElement;" = _ from y4).symm.trans Y.unassigned
  have eS0 : stU = T0.aS := by
    have q := L.statics
    rw [ekU] at q
    exact Option.some.inj (u4.symm.trans q)
  subst eS0
  have hcS : h[T0.aS]? = some cellS := hO.2.2 _ _ u5
  have hneS : T0.aS ≠ a := fun z => by
    rw [z] at hcS; cases hcell.symm.trans hcS
    rw [hvmN] at u6; cases u6
  have hsel0 : selectMethod e.platform (s.setVm vm0).vm cell.cls T0.fill0 = .method T0.fill0 := by
    obtain ⟨c2, r2, m2, q1, q2, q3, q4, -⟩ := Cond.selects_spec (gm (.selects rc tFill0 tFill0) (by simp [exW]))
    cases hfR'.symm.trans q1
    cases q2.symm.trans (State.methodFound?_of_named Y.fill0 (by decide))
    cases q3.symm.trans Y.fill0
    rw [Launch.admits_selectMethod X.admits]; exact q4
  obtain ⟨_, _, cD, kD, iD, fD, -, -, hffD, hstD, -, -, -, -⟩ := Cond.lays_spec (gm (.lays rc tN "depth" "I") (by simp [exW]))
  cases (Cond.lays_declared (gm (.lays rc tN "depth" "I") (by simp [exW])) hffD).symm.trans Y.found
  obtain ⟨hkD, hatD⟩ := State.fieldFound?_spec hffD
  cases hkD.symm.trans L.cls
  obtain ⟨hnD, htyD⟩ := State.fieldFound?_type hffD (t := .int) (by decide +kernel)
  have hfb := Cond.soleField_find Y.found L.cls (gm (.soleField tN "backtrace") (by simp [exW])) ha198 hnB hsB
  have hfd := Cond.soleField_find Y.found L.cls (gm (.soleField tN "depth") (by simp [exW])) hatD hnD hstD
  obtain ⟨comp, cO, kO, -, -, hkO, hkindO, hOo⟩ := Cond.arrayOver_spec (W' (.arrayOver (.object "java/lang/Object")) (by simp [exW]))
  obtain ⟨tyS, -⟩ := Cond.laysAt hfR' i2 Y.stack (gm (.lays rc tN "stackTrace" steD) (by simp [exW]))
  obtain ⟨tyB, -⟩ := Cond.laysAt hfR' i2 hffB (gm (.lays rc tN "backtrace" obD) (by simp [exW]))
  obtain ⟨tyD, -⟩ := Cond.laysAt hfR' i2 hffD (gm (.lays rc tN "depth" "I") (by simp [exW]))
  have tk : ∀ {f : Field} {v : Value}, kB.instanceTypes[f.slot]? = some f.type → Jvm.fits f.type v = true → Jvm.Takes (s.setVm vm0) cell f v := fun {f v} r1 r2 => by
    obtain ⟨t1, t2⟩ := Takes.of_laid (v := v) i2 z3 r1 r2
    exact ⟨by rw [hsize]; simpa using t1, by rw [hvmN]; exact t2⟩
  have pays := Jvm.Free.Str.fillPays (l := l) (R := R) (below := below) (s := s.setVm vm0) (sargs := args) (len := 3) (W := (st.map fun v => v.category).sum) q1.1 (by rw [hpf]; exact hl) T0 L Y.fill (u0 := ⟨.ref u, rfl⟩) (by simp) (self := a) (cell := cell) (cellS := cellS)
    (fun z q => by rw [hvmN] at q; cases q) (by rw [hvmN]; simp) (by rw [hmon]) (by rw [hmon]) g7 hsel0 hneS (fun q => by rw [q] at u6; cases u6) u7 (tk tyS (by rw [Y.stackType]; rfl))
    ⟨⟨ci198, i198, fB⟩, ⟨hk198, hg198, ha198, hsB⟩, b7⟩ hKn.1 hKn.2 Y.found hOo hkO hkindO hfb hfd (fun x => tk tyB (by rw [htyB]; rfl)) (fun x => tk tyD (by rw [htyD]; rfl)) hf hlo
  obtain ⟨v, vm1, B, -, X', ⟨rfl, vm2, lines, hlen, -, eU, eL, eC, eS⟩, stp⟩ := X.virtualBack q1.1 (y := tFill) (z := tFill) hown (W' (.methodLink tN 27 tFill) (by simp [exW])) (W' _ (by simp [exW])) (notFace_of_selects (args := #[]) (C := rc) (mvT (s := s.setVm vm0) hZ (W _ (by simp [exW])))) (C := rc) (W' _ (by simp [exW])) (W' _ (by simp [exW])) (by decide) pays hfR' i3
    (g := mkF m pc Ls (.ref a :: st)) rfl hsz (Steps.refl _) (argsL := []) (rest := st) (lenOf (d := tFill.desc) (ps := []) (r := some (.object tN)) (by decide +kernel) rfl) rfl (by show 2 * 0 + _ ≤ _; omega) (hb hby hd) (fun _ _ => ⟨rfl, hc, hsl, by show T.heap[a]? = _; rw [eT]; exact hcell, by show T.heap[T0.aS]? = _; rw [eT]; exact hcS⟩)
  dsimp only [Pt.U, Pt.locs, Pt.cells, Pt.slots] at eU eL eC eS
  have hh : B.U.heap = (h.push (traceHolder cO lines)).setIfInBounds a (Jvm.Free.Str.filledOn T0.toThrowableT fB fD cell ⟨.ref u, rfl⟩ T.heap.size lines.length.toInt32) := by
    rw [show B.U = _ from eU, ← eT]; rfl
  have K2 : Keep h B.U.heap [a] := by
    rw [hh]; exact setCell_keep hcell rfl rfl (by simp [Jvm.Free.Str.filledOn, Cell.setSlot])
  have sf : ∀ x ∈ [a], Safe Z EL vm0 h x := fun x hx => by cases List.mem_singleton.mp hx; exact hs
  have X2 : Stand p l e R (s.setVm vm0) m args below meth c B.U B.locs (cells + 1) (slots + 2752) := by
    have q : B.slots ≤ slots + 2752 := by rw [show B.slots = _ from eS]; exact Nat.add_le_add_left (traceHolder_size_le cO hlen) _
    exact X'.more (Nat.le_of_eq eC) q
  refine Go.tr stp (k B.U B.U.heap (Safe Z EL vm0 B.U.heap) ⟨q1, vm0, _, X2, rfl, hZ, hown, hMo.mono K2.1, ?_, hO.keep K2 (allS hna all0), hC.trans (CHr.keep K2 sf hC.1), rfl⟩ K2 ?_ (fun x hx => Safe.keep K2 sf hC.1 hx))
  · rw [show B.locs = _ from eL]
    exact N0.app fun y hy => by
      simp only [List.mem_cons, List.not_mem_nil, or_false] at hy
      rcases hy with rfl | rfl | rfl <;> exact hna
  · have q : B.U.heap[a]? = some (Jvm.Free.Str.filledOn T0.toThrowableT fB fD cell ⟨.ref u, rfl⟩ T.heap.size lines.length.toInt32) := by
      rw [hh, Array.getElem?_setIfInBounds_self_of_lt (by have := (Array.getElem?_eq_some_iff.mp hcell).1; simp; omega)]
    exact ⟨_, q, hvmN, hmon⟩
theorem Unt.wr {x y : Addr} {sl : Nat} {v : Value} (W : Wr h h' y sl v) (N : Unt h x) : Unt h' x := by
  obtain ⟨cell, h1, -, -, rfl⟩ := W
  obtain ⟨cx, q1, q2, q3⟩ := N
  by_cases z : y = x
  · subst z; cases h1.symm.trans q1
    have hlt := (Array.getElem?_eq_some_iff.mp q1).1
    have q : (h.setIfInBounds y (cell.setSlot sl v))[y]? = some (cell.setSlot sl v) := by rw [Array.getElem?_setIfInBounds_self_of_lt hlt]
    exact ⟨_, q, q2, q3⟩
  · exact ⟨cx, by rw [Array.getElem?_setIfInBounds_ne z]; exact q1, q2, q3⟩
theorem Unt.known {x : Addr} (N : Unt h x) : ∃ cell : Cell, h[x]? = some cell ∧ cell.vm ≠ .unknown := by
  obtain ⟨cx, q1, q2, -⟩ := N; exact ⟨cx, q1, by rw [q2]; simp⟩
end OwnFill
section OwnU16
theorem k_i2b (x : Int32) : ((lo8 x).toInt - x.toInt) % 256 = 0 ∧ -128 ≤ (lo8 x).toInt ∧ (lo8 x).toInt < 128 := c_i2b x
theorem k_i2c (x : Int32) : ((chr16 x).toInt - x.toInt) % 65536 = 0 ∧ 0 ≤ (chr16 x).toInt ∧ (chr16 x).toInt < 65536 := c_i2c x
theorem k_hi (x : Int32) : ((hi8 x).toInt - (x >>> ((8 : Int32) &&& 31)).toInt) % 256 = 0 ∧ -128 ≤ (hi8 x).toInt ∧ (hi8 x).toInt < 128 := c_i2b _
theorem shl1 {i : Nat} (hi : 2 * i < 2147483648) : Int32.ofNat i <<< ((1 : Int32) &&& 31) = Int32.ofNat (2 * i) := by
  have h := c_ishl (Int32.ofNat i) 1 1 (by decide)
  have a := n32 (n := i) (by omega)
  have b := n32 (n := 2 * i) hi
  have r1 := Int32.le_toInt (Int32.ofNat i <<< ((1 : Int32) &&& 31)); have r2 := Int32.toInt_lt (Int32.ofNat i <<< ((1 : Int32) &&& 31))
  apply Int32.toInt_inj.mp
  rw [a] at h; rw [b]; simp only [Nat.reducePow] at *; omega
theorem shr1 {i : Nat} (hi : 2 * i < 2147483648) : Int32.ofNat (2 * i) >>> ((1 : Int32) &&& 31) = Int32.ofNat i := by
  have h := c_ishr (Int32.ofNat (2 * i)) 1 1 (by decide)
  have a := n32 (n := i) (by omega)
  have b := n32 (n := 2 * i) hi
  apply Int32.toInt_inj.mp
  rw [b] at h; rw [h, a]; simp only [Nat.reducePow] at *; omega
theorem shr0 (x : Int32) : x >>> ((0 : Int32) &&& 31) = x := by
  have h := c_ishr x 0 0 (by decide)
  apply Int32.toInt_inj.mp
  rw [h]; simp only [Nat.reducePow]; omega
theorem lo8_mask (c : Int32) (h0 : ¬ c < 0) (h1 : ¬ (255 : Int32) < c) : chr16 (lo8 c &&& (255 : Int32)) = c := by
  have a := k_i2b c
  have m := c_mask (lo8 c) 255 8 (by decide) (by decide)
  have i := k_i2c (lo8 c &&& (255 : Int32))
  have e0 : (0 : Int32).toInt = 0 := rfl; have e1 : (255 : Int32).toInt = 255 := rfl
  rw [Int32.lt_iff_toInt_lt] at h0 h1
  apply Int32.toInt_inj.mp
  simp only [Nat.reducePow] at *; omega
theorem join8 (c : Int32) (h0 : ¬ c < 0) (h1 : ¬ (65535 : Int32) < c) : chr16 (((lo8 c &&& (255 : Int32)) <<< ((0 : Int32) &&& 31)) ||| ((hi8 c &&& (255 : Int32)) <<< ((8 : Int32) &&& 31))) = c := by
  have a := k_i2b c
  have m := c_mask (lo8 c) 255 8 (by decide) (by decide)
  have s := c_ishr c 8 8 (by decide)
  have a2 := k_hi c
  have m2 := c_mask (hi8 c) 255 8 (by decide) (by decide)
  have l1 := c_ishl (lo8 c &&& (255 : Int32)) 0 0 (by decide)
  have l2 := c_ishl (hi8 c &&& (255 : Int32)) 8 8 (by decide)
  have e0 : (0 : Int32).toInt = 0 := rfl; have e1 : (65535 : Int32).toInt = 65535 := rfl
  rw [Int32.lt_iff_toInt_lt] at h0 h1
  have q1 := Int32.le_toInt ((lo8 c &&& (255 : Int32)) <<< ((0 : Int32) &&& 31)); have q2 := Int32.toInt_lt ((lo8 c &&& (255 : Int32)) <<< ((0 : Int32) &&& 31))
  have q3 := Int32.le_toInt ((hi8 c &&& (255 : Int32)) <<< ((8 : Int32) &&& 31)); have q4 := Int32.toInt_lt ((hi8 c &&& (255 : Int32)) <<< ((8 : Int32) &&& 31))
  have o := c_or' ((lo8 c &&& (255 : Int32)) <<< ((0 : Int32) &&& 31)) ((hi8 c &&& (255 : Int32)) <<< ((8 : Int32) &&& 31)) 8 (by decide) 256 rfl (by simp only [Nat.reducePow] at *; omega) (by simp only [Nat.reducePow] at *; omega) (by simp only [Nat.reducePow] at *; omega)
  have i := k_i2c (((lo8 c &&& (255 : Int32)) <<< ((0 : Int32) &&& 31)) ||| ((hi8 c &&& (255 : Int32)) <<< ((8 : Int32) &&& 31)))
  apply Int32.toInt_inj.mp
  simp only [Nat.reducePow] at *; omega
theorem lo8_inj {c d : Int32} (h0 : ¬ c < 0) (h1 : ¬ (255 : Int32) < c) (h2 : ¬ d < 0) (h3 : ¬ (255 : Int32) < d) (h : lo8 c = lo8 d) : c = d := by
  rw [← lo8_mask c h0 h1, ← lo8_mask d h2 h3, h]
theorem u16_lo {cs : List Int32} {j : Nat} (h : j < cs.length) : (u16 cs).getD (2 * j) 0 = lo8 (cs.getD j 0) := by
  induction cs generalizing j with
  | nil => cases h
  | cons c r ih => cases j with
    | zero => rfl
    | succ j => exact ih (by simp at h; omega)
theorem u16_hi {cs : List Int32} {j : Nat} (h : j < cs.length) : (u16 cs).getD (2 * j + 1) 0 = hi8 (cs.getD j 0) := by
  induction cs generalizing j with
  | nil => cases h
  | cons c r ih => cases j with
    | zero => rfl
    | succ j => exact ih (by simp at h; omega)
theorem u16_of {cs ys : List Int32} (hl : ys.length = 2 * cs.length) (h : ∀ j, j < cs.length → ys.getD (2 * j) 0 = lo8 (cs.getD j 0) ∧ ys.getD (2 * j + 1) 0 = hi8 (cs.getD j 0)) : ys = u16 cs := by
  refine list_of_getD (by rw [hl, u16_length]) fun j hj => ?_
  rcases Nat.mod_two_eq_zero_or_one j with q | q
  · obtain ⟨i, rfl⟩ : ∃ i, j = 2 * i := ⟨j / 2, by omega⟩
    rw [u16_lo (by omega), (h i (by omega)).1]
  · obtain ⟨i, rfl⟩ : ∃ i, j = 2 * i + 1 := ⟨j / 2, by omega⟩
    rw [u16_hi (by omega), (h i (by omega)).2]
/-- coderFromArrayLen, of Latin-1's and of UTF-16's bytes -/
theorem cfl0 (n : Nat) : lo8 (XT.ushr (Int32.ofNat n - Int32.ofNat n) (31 : Int32)) = (0 : Int32) := by rw [Int32.sub_self]; decide
theorem cfl1 {n : Nat} (h0 : 0 < n) (h1 : 2 * n < 2147483648) : lo8 (XT.ushr (Int32.ofNat n - Int32.ofNat (2 * n)) (31 : Int32)) = (1 : Int32) := by
  have a := n32 (n := n) (by omega)
  have b := n32 (n := 2 * n) h1
  have s := c_isub (Int32.ofNat n) (Int32.ofNat (2 * n))
  have u := c_iushr (Int32.ofNat n - Int32.ofNat (2 * n)) 31 31 (by decide) (by decide)
  have r1 := Int32.le_toInt (Int32.ofNat n - Int32.ofNat (2 * n)); have r2 := Int32.toInt_lt (Int32.ofNat n - Int32.ofNat (2 * n))
  have w : (XT.ushr (Int32.ofNat n - Int32.ofNat (2 * n)) (31 : Int32)).toInt = 1 := by
    show (((Int32.ofNat n - Int32.ofNat (2 * n)).toUInt32 >>> ((31 : Int32) &&& 31).toUInt32).toInt32).toInt = 1
    rw [u]; simp only [Nat.reducePow] at *; omega
  have e : XT.ushr (Int32.ofNat n - Int32.ofNat (2 * n)) (31 : Int32) = 1 := Int32.toInt_inj.mp w
  rw [e]; decide
theorem chr_rng (x : Int32) : ¬ chr16 x < 0 ∧ ¬ (65535 : Int32) < chr16 x := by
  have i := k_i2c x
  have e0 : (0 : Int32).toInt = 0 := rfl; have e1 : (65535 : Int32).toInt = 65535 := rfl
  rw [Int32.lt_iff_toInt_lt, Int32.lt_iff_toInt_lt]; omega
theorem chr_id {c : Int32} (h0 : ¬ c < 0) (h1 : ¬ (65535 : Int32) < c) : chr16 c = c := by
  have i := k_i2c c
  have e0 : (0 : Int32).toInt = 0 := rfl; have e1 : (65535 : Int32).toInt = 65535 := rfl
  rw [Int32.lt_iff_toInt_lt] at h0 h1
  apply Int32.toInt_inj.mp; omega
variable {p : Program} {l : Launch} {e : Env} {R : Room} {s : State} {m : MethodId} {args : Array Value} {below : List Frame} {meth : Method} {c : Code} {T : State} {cells slots : Nat} {Z : State} {a0 : Array Value} {h : Heap} {EL : List (String × Nat)} {own : String} {w kn : Bool} {S : Addr → Prop} {A : Outcome → State → Prop} {Ls : Array Slot} {st : List Value} {pc : Nat} {code : ByteArray}
/-- ldc of an int -/
theorem gLdcI (X : Sd w kn Z a0 EL p l e R s m args below meth c own T h S cells slots) (hby : c.code = code) {index : Nat} {v : Int32} (w1 : (Jvm.Cond.constant own index v).before a0 Z = true) (hd : decode code pc = .ok (.ldc index, 2))
    (g : Go p e below A (T.setTop (mkF m (pc + 2) Ls (.int v :: st)))) : Go p e below A (T.setTop (mkF m pc Ls st)) := by
  obtain ⟨q1, vm0, locs, X, eT, hZ, hown, r⟩ := X
  exact Go.step (X.ldcInt q1.1 hown (mv (s := s.setVm vm0) (args := args) hZ w1) (g := mkF m pc Ls st) rfl (hb hby hd)) g
theorem gRem (X : Sd w kn Z a0 EL p l e R s m args below meth c own T h S cells slots) (hby : c.code = code) {x y : Int32} (hd : decode code pc = .ok (.irem, 1)) (hy : y ≠ 0)
    (g : Go p e below A (T.setTop (mkF m (pc + 1) Ls (.int (x % y) :: st)))) : Go p e below A (T.setTop (mkF m pc Ls (.int y :: .int x :: st))) := by
  obtain ⟨q1, vm0, locs, X, eT, hZ, hown, r⟩ := X
  exact Go.step (fun t q => iremM X q1.1 (g := mkF m pc Ls (.int y :: .int x :: st)) rfl (hb hby hd) rfl hy q) g
end OwnU16
section OwnUS
/-- the statics that String and StringUTF16 read -/
def US (Z : State) (zc : Int32) : Prop := Sta Z Z.heap "java/lang/String" "COMPACT_STRINGS" "Z" (.int zc) ∧ (¬ zc = 0) ∧ Sta Z Z.heap "java/lang/StringUTF16" "$assertionsDisabled" "Z" (.int 1) ∧ Sta Z Z.heap "java/lang/StringUTF16" "HI_BYTE_SHIFT" "I" (.int 0) ∧ Sta Z Z.heap "java/lang/StringUTF16" "LO_BYTE_SHIFT" "I" (.int 8)
theorem US.cs {Z : State} {zc : Int32} (U : US Z zc) : Sta Z Z.heap "java/lang/String" "COMPACT_STRINGS" "Z" (.int zc) := U.1
theorem US.nz {Z : State} {zc : Int32} (U : US Z zc) : ¬ zc = 0 := U.2.1
theorem US.ad {Z : State} {zc : Int32} (U : US Z zc) : Sta Z Z.heap "java/lang/StringUTF16" "$assertionsDisabled" "Z" (.int 1) := U.2.2.1
theorem US.hi {Z : State} {zc : Int32} (U : US Z zc) : Sta Z Z.heap "java/lang/StringUTF16" "HI_BYTE_SHIFT" "I" (.int 0) := U.2.2.2.1
theorem US.lo {Z : State} {zc : Int32} (U : US Z zc) : Sta Z Z.heap "java/lang/StringUTF16" "LO_BYTE_SHIFT" "I" (.int 8) := U.2.2.2.2
theorem narC {c : Int32} (h0 : ¬ c < 0 ∧ ¬ (65535 : Int32) < c) : narrow .char (.int c) = .int c := by
  have h := XT.narrow_c c
  have q : c.toUInt32.toUInt16.toUInt32.toInt32 = c := chr_id h0.1 h0.2
  rw [q] at h; exact h
end OwnUS
section OwnTerms
variable {args : Array Value} {first s : State} {o : Option Outcome} {idx : List Nat} {t : Term}
theorem eqI_v {k : Int32} (h : (Jvm.Cond.eq t (.int k)).value args first o s idx = some true) : t.eval args first o idx s = some (.int k) := by
  simp only [Cond.value, Term.eval] at h
  cases ht : t.eval args first o idx s with
  | none => simp [ht] at h
  | some x => cases x <;> simp [ht] at h ⊢; exact h
theorem ref_v (h : (Jvm.Cond.isRef t).value args first o s idx = some true) : ∃ x, t.eval args first o idx s = some x ∧ (x = .null ∨ ∃ a, x = .ref a) := by
  obtain ⟨x, h1, h2⟩ := isR_v h
  exact ⟨x, h1, by cases x <;> simp [Value.isRef] at h2 ⊢⟩
theorem nar_char {c : Int32} (h0 : ¬ c < 0 ∧ ¬ (65535 : Int32) < c) : nar .char c = c := by rw [← chr_id h0.1 h0.2]; exact nar_chr c
theorem ite10 {b : Bool} : ((if b = true then (1 : Int32) else 0) = 0) ↔ b = false := by cases b <;> decide
/-- indexOf's answer on Latin-1 bytes -/
theorem mem_lo8 {cs : List Int32} {c : Int32} (hR : ∀ c ∈ cs, ¬ c < 0 ∧ ¬ (65535 : Int32) < c) (hl : ∀ c ∈ cs, ¬ (255 : Int32) < c) (h0 : ¬ c < 0) : (¬ 255 < c ∧ lo8 c ∈ cs.map lo8) ↔ c ∈ cs := by
  constructor
  · rintro ⟨h1, h2⟩
    obtain ⟨d, hd, e⟩ := List.mem_map.mp h2
    rw [← lo8_inj (hR d hd).1 (hl d hd) h0 h1 e]; exact hd
  · intro hc; exact ⟨hl c hc, List.mem_map.mpr ⟨c, hc, rfl⟩⟩
end OwnTerms
end OwnKit
open Jvm Jvm.ClassFile Sem Op Lib Jvm.Free Jvm.Stand Jvm.LawKit Jvm.RoadKit Bundle OwnKit Jvm.Pilot.@@N@@.Jvm.D
abbrev EL : List (String × Nat) := consts_1
variable {l : Launch} {Z : State} {a0 : Array Value}
theorem strIn : ∀ d ∈ Bundle.stringAtoms, d ∈ tables_1 := by decide +kernel
theorem pn_java_lang_StringUTF16 : plainName "java/lang/StringUTF16" = true := by first | (simp [plainName, overriddenIn]; done) | decide +kernel
theorem ef_jdk_52_method_21_code (m : MethodId) (x0 : Addr) (x1 : Int32) (x2 : Addr) (x3 : Int32) (x4 : Int32) : entryFrame m #[(.ref x0), (.int x1), (.ref x2), (.int x3), (.int x4)] 7 = mkF m 0 #[.val (.ref x0), .val (.int x1), .val (.ref x2), .val (.int x3), .val (.int x4), .unset, .unset] [] := by first | (simp [entryFrame, mkF, argsToLocals, Value.category]; done) | rfl
theorem b1 : decs jdk_52_method_21_code 0 [.iconst 0, .istore 5] = true := by decide +kernel
theorem b2 : decs jdk_52_method_21_code 3 [.iload 5, .iload 4] = true := by decide +kernel
theorem d_jdk_52_method_21_code_7 : decode jdk_52_method_21_code 7 = .ok (.if_icmp .ge 37, 3) := by decide +kernel
theorem b3 : decs jdk_52_method_21_code 44 [.iload 4] = true := by decide +kernel
theorem d_jdk_52_method_21_code_46 : decode jdk_52_method_21_code 46 = .ok (.ireturn, 1) := by decide +kernel
theorem b4 : decs jdk_52_method_21_code 3 [.iload 5, .iload 4] = true := by decide +kernel
theorem b5 : decs jdk_52_method_21_code 10 [.aload_n 0, .iload_n 1] = true := by decide +kernel
theorem d_jdk_52_method_21_code_12 : decode jdk_52_method_21_code 12 = .ok (.caload, 1) := by decide +kernel
theorem d_jdk_52_method_21_code_13 : decode jdk_52_method_21_code 13 = .ok (.istore 6, 2) := by decide +kernel
theorem b6 : decs jdk_52_method_21_code 15 [.iload 6, .sipush 255] = true := by decide +kernel
theorem d_jdk_52_method_21_code_20 : decode jdk_52_method_21_code 20 = .ok (.if_icmp .le 6, 3) := by decide +kernel
theorem b7 : decs jdk_52_method_21_code 26 [.aload_n 2, .iload_n 3, .iload 6, .i2b] = true := by decide +kernel
theorem d_jdk_52_method_21_code_31 : decode jdk_52_method_21_code 31 = .ok (.bastore, 1) := by decide +kernel
theorem b8 : decs jdk_52_method_21_code 32 [.iinc 1 1, .iinc 3 1, .iinc 5 1, .goto (-38)] = true := by decide +kernel
theorem b9 : decs jdk_52_method_21_code 23 [.iload 5] = true := by decide +kernel
theorem d_jdk_52_method_21_code_25 : decode jdk_52_method_21_code 25 = .ok (.ireturn, 1) := by decide +kernel
def QC5 (Z : State) (h0 : Heap) (d : Addr) (cs : List Int32) (v : Option Value) (h : Heap) (S : Addr → Prop) : Prop := ∃ i ys, v = some (.int (Int32.ofNat i)) ∧ i ≤ cs.length ∧ Keep h0 h [d] ∧ Ari Z h d .byte ys ∧ ys.length = cs.length ∧ (∀ j, j < i → ¬ 255 < cs.getD j 0 ∧ ys.getD j 0 = lo8 (cs.getD j 0)) ∧ (i < cs.length → 255 < cs.getD i 0)
set_option maxRecDepth 65536 in
set_option maxHeartbeats 40000000 in
theorem ct_cmp5 {h0 : Heap} {a d : Addr} {cs ys : List Int32} (hw : ∀ d ∈ tables_1, d.before a0 Z = true) (hEL : EW Z a0 EL) (hO : Old Z Z.heap.size h0) (VA : Ari Z h0 a .char cs) (VD : Ari Z h0 d .byte ys) (hl : ys.length = cs.length) (hne : a ≠ d) (gd : Z.heap.size ≤ d) :
    Ct true false Z EL l (⟨"java/lang/StringUTF16", "compress", "([CI[BII)I"⟩ : MethodName) jdk_52_method_21_code 7 (some .int) ({ frames := 0, cells := 0, slots := 0, locals := 0 } : Room) #[(.ref a), (.int (0 : Int32)), (.ref d), (.int (0 : Int32)), (.int (Int32.ofNat cs.length))] h0 [d] (QC5 Z h0 d cs) := by
  refine ctOf (plainFor_of_name pn_java_lang_StringUTF16) hO hEL ?_
  intro p e s m below meth c s₁ S0 X0 hby hml hret hnm hsf
  refine Go.entry (ef_jdk_52_method_21_code m a (0 : Int32) d (0 : Int32) (Int32.ofNat cs.length)) ?_
  show Go _ _ _ _ (s₁.setTop (mkF m 0 #[.val (.ref a), .val (.int (0 : Int32)), .val (.ref d), .val (.int (0 : Int32)), .val (.int (Int32.ofNat cs.length)), .unset, .unset] []))
  refine blk X0 hby b1 (pc' := 3) (Ls' := #[.val (.ref a), .val (.int (0 : Int32)), .val (.ref d), .val (.int (0 : Int32)), .val (.int (Int32.ofNat cs.length)), .val (.int (0 : Int32)), .unset]) (st' := []) rfl ?_
  have loop : ∀ (n i : Nat) (T : State) (h : Heap) (S : Addr → Prop) (ys : List Int32) (sl : Slot), n + i = cs.length → Sd true false Z a0 EL p l e ({ frames := 0, cells := 0, slots := 0, locals := 0 } : Room) s m #[(.ref a), (.int (0 : Int32)), (.ref d), (.int (0 : Int32)), (.int (Int32.ofNat cs.length))] below meth c "java/lang/StringUTF16" T h S 0 0 → Ari Z h a .char cs → Ari Z h d .byte ys → ys.length = cs.length → Keep h0 h [d] → S d → (∀ j, j < i → ¬ 255 < cs.getD j 0 ∧ ys.getD j 0 = lo8 (cs.getD j 0)) → One sl → Go p e below (Pst true Z EL ({ frames := 0, cells := 0, slots := 0, locals := 0 } : Room).cells ({ frames := 0, cells := 0, slots := 0, locals := 0 } : Room).slots (QC5 Z h0 d cs) s) (T.setTop (mkF m 3 #[.val (.ref a), .val (.int (Int32.ofNat i)), .val (.ref d), .val (.int (Int32.ofNat i)), .val (.int (Int32.ofNat cs.length)), .val (.int (Int32.ofNat i)), sl] [])) := by
    intro n
    induction n with
    | zero =>
      intro i T h S ys sl hn X VA VD hl K hs hy ho
      have hL := VA.len
      have hi31 : i < 2147483648 := by omega
      refine blk X hby b2 (pc' := 7) (Ls' := #[.val (.ref a), .val (.int (Int32.ofNat i)), .val (.ref d), .val (.int (Int32.ofNat i)), .val (.int (Int32.ofNat cs.length)), .val (.int (Int32.ofNat i)), sl]) (st' := [(.int (Int32.ofNat cs.length)), (.int (Int32.ofNat i))]) rfl ?_
      refine brI X hby d_jdk_52_method_21_code_7 (pc1 := 44) (by decide) (fun hc => ?_) (fun hc => absurd (geF hc) (by rw [lt32 hi31 hL]; omega))
      show Go _ _ _ _ (T.setTop (mkF m 44 #[.val (.ref a), .val (.int (Int32.ofNat i)), .val (.ref d), .val (.int (Int32.ofNat i)), .val (.int (Int32.ofNat cs.length)), .val (.int (Int32.ofNat i)), sl] []))
      refine blk X hby b3 (pc' := 46) (Ls' := #[.val (.ref a), .val (.int (Int32.ofNat i)), .val (.ref d), .val (.int (Int32.ofNat i)), .val (.int (Int32.ofNat cs.length)), .val (.int (Int32.ofNat i)), sl]) (st' := [(.int (Int32.ofNat cs.length))]) rfl ?_
      exact retI' X hby hret d_jdk_52_method_21_code_46 rfl (fun S' hS' => ⟨cs.length, ys, rfl, Nat.le_refl _, K, VD, hl, fun j hj => hy j (by omega), fun q => absurd q (Nat.lt_irrefl _)⟩)
    | succ n ih =>
      intro i T h S ys sl hn X VA VD hl K hs hy ho
      have hL := VA.len
      have hi31 : i < 2147483648 := by omega
      refine blk X hby b4 (pc' := 7) (Ls' := #[.val (.ref a), .val (.int (Int32.ofNat i)), .val (.ref d), .val (.int (Int32.ofNat i)), .val (.int (Int32.ofNat cs.length)), .val (.int (Int32.ofNat i)), sl]) (st' := [(.int (Int32.ofNat cs.length)), (.int (Int32.ofNat i))]) rfl ?_
      have hil : i < cs.length := by omega
      refine brI X hby d_jdk_52_method_21_code_7 (pc1 := 44) (by decide) (fun hc => absurd (geT hc) (fun q => q (by rw [lt32 hi31 hL]; omega))) (fun hc => ?_)
      show Go _ _ _ _ (T.setTop (mkF m 10 #[.val (.ref a), .val (.int (Int32.ofNat i)), .val (.ref d), .val (.int (Int32.ofNat i)), .val (.int (Int32.ofNat cs.length)), .val (.int (Int32.ofNat i)), sl] []))
      refine blk X hby b5 (pc' := 12) (Ls' := #[.val (.ref a), .val (.int (Int32.ofNat i)), .val (.ref d), .val (.int (Int32.ofNat i)), .val (.int (Int32.ofNat cs.length)), .val (.int (Int32.ofNat i)), sl]) (st' := [(.int (Int32.ofNat i)), (.ref a)]) rfl ?_
      refine gLd X hby VA (Or.inr (Or.inl ⟨rfl, rfl⟩)) d_jdk_52_method_21_code_12 (i := i) rfl hil ?_
      show Go _ _ _ _ (T.setTop (mkF m 13 #[.val (.ref a), .val (.int (Int32.ofNat i)), .val (.ref d), .val (.int (Int32.ofNat i)), .val (.int (Int32.ofNat cs.length)), .val (.int (Int32.ofNat i)), sl] [(.int (cs.getD i 0))]))
      refine gIst X hby d_jdk_52_method_21_code_13 (o := sl) rfl ho ?_
      show Go _ _ _ _ (T.setTop (mkF m 15 #[.val (.ref a), .val (.int (Int32.ofNat i)), .val (.ref d), .val (.int (Int32.ofNat i)), .val (.int (Int32.ofNat cs.length)), .val (.int (Int32.ofNat i)), .val (.int (cs.getD i 0))] []))
      refine blk X hby b6 (pc' := 20) (Ls' := #[.val (.ref a), .val (.int (Int32.ofNat i)), .val (.ref d), .val (.int (Int32.ofNat i)), .val (.int (Int32.ofNat cs.length)), .val (.int (Int32.ofNat i)), .val (.int (cs.getD i 0))]) (st' := [(.int (255 : Int32)), (.int (cs.getD i 0))]) rfl ?_
      refine brI X hby d_jdk_52_method_21_code_20 (pc1 := 26) (by decide) (fun hc2 => ?_) (fun hc2 => ?_)
      · replace hc2 := leT hc2
        show Go _ _ _ _ (T.setTop (mkF m 26 #[.val (.ref a), .val (.int (Int32.ofNat i)), .val (.ref d), .val (.int (Int32.ofNat i)), .val (.int (Int32.ofNat cs.length)), .val (.int (Int32.ofNat i)), .val (.int (cs.getD i 0))] []))
        refine blk X hby b7 (pc' := 31) (Ls' := #[.val (.ref a), .val (.int (Int32.ofNat i)), .val (.ref d), .val (.int (Int32.ofNat i)), .val (.int (Int32.ofNat cs.length)), .val (.int (Int32.ofNat i)), .val (.int (cs.getD i 0))]) (st' := [(.int (lo8 (cs.getD i 0))), (.int (Int32.ofNat i)), (.ref d)]) rfl ?_
        refine gSt X hby VD (Or.inr (Or.inr ⟨rfl, rfl⟩)) d_jdk_52_method_21_code_31 (i := i) rfl (by omega) (by rw [nar_lo8]; exact fits_nar_byte _) gd hs (fun T1 h1 S1 X1 W1 V1 sS1 => ?_)
        show Go _ _ _ _ (T1.setTop (mkF m 32 #[.val (.ref a), .val (.int (Int32.ofNat i)), .val (.ref d), .val (.int (Int32.ofNat i)), .val (.int (Int32.ofNat cs.length)), .val (.int (Int32.ofNat i)), .val (.int (cs.getD i 0))] []))
        rw [nar_lo8] at V1
        refine blk X1 hby b8 (pc' := 3) (Ls' := #[.val (.ref a), .val (.int ((Int32.ofNat i) + (1 : Int32))), .val (.ref d), .val (.int ((Int32.ofNat i) + (1 : Int32))), .val (.int (Int32.ofNat cs.length)), .val (.int ((Int32.ofNat i) + (1 : Int32))), .val (.int (cs.getD i 0))]) (st' := []) rfl ?_
        rw [succ32]
        refine ih (i + 1) T1 h1 S1 _ (.val (.int (cs.getD i 0))) (by omega) X1 (VA.other W1 hne) V1 (by rw [List.length_set]; exact hl) (K.wr W1 (Or.inl (by simp))) (sS1 d hs) (fun j hj => ?_) (One.val rfl)
        by_cases q : j = i
        · subst q; exact ⟨hc2, getD_set_self (by omega)⟩
        · rw [getD_set_ne (fun z => q z.symm)]; exact hy j (by omega)
      · replace hc2 := leF hc2
        show Go _ _ _ _ (T.setTop (mkF m 23 #[.val (.ref a), .val (.int (Int32.ofNat i)), .val (.ref d), .val (.int (Int32.ofNat i)), .val (.int (Int32.ofNat cs.length)), .val (.int (Int32.ofNat i)), .val (.int (cs.getD i 0))] []))
        refine blk X hby b9 (pc' := 25) (Ls' := #[.val (.ref a), .val (.int (Int32.ofNat i)), .val (.ref d), .val (.int (Int32.ofNat i)), .val (.int (Int32.ofNat cs.length)), .val (.int (Int32.ofNat i)), .val (.int (cs.getD i 0))]) (st' := [(.int (Int32.ofNat i))]) rfl ?_
        exact retI' X hby hret d_jdk_52_method_21_code_25 rfl (fun S' hS' => ⟨i, ys, rfl, by omega, K, VD, hl, hy, fun _ => hc2⟩)
  exact loop cs.length 0 s₁ h0 S0 ys .unset (by omega) X0 VA VD hl (Keep.refl _ _) (hsf d (by simp)) (fun j hj => absurd hj (Nat.not_lt_zero _)) One.u
theorem ef_jdk_52_method_3_code (m : MethodId) (x0 : Int32) : entryFrame m #[(.int x0)] 1 = mkF m 0 #[.val (.int x0)] [] := by first | (simp [entryFrame, mkF, argsToLocals, Value.category]; done) | rfl
theorem b10 : decs jdk_52_method_3_code 0 [.iload_n 0] = true := by decide +kernel
theorem d_jdk_52_method_3_code_1 : decode jdk_52_method_3_code 1 = .ok (.ifCond .ge 11, 3) := by decide +kernel
theorem b11 : decs jdk_52_method_3_code 12 [.iload_n 0] = true := by decide +kernel
theorem d_jdk_52_method_3_code_13 : decode jdk_52_method_3_code 13 = .ok (.ldc 20, 2) := by decide +kernel
theorem d_jdk_52_method_3_code_15 : decode jdk_52_method_3_code 15 = .ok (.if_icmp .lt 40, 3) := by decide +kernel
theorem b12 : decs jdk_52_method_3_code 55 [.iload_n 0, .iconst 1, .ishl] = true := by decide +kernel
theorem d_jdk_52_method_3_code_58 : decode jdk_52_method_3_code 58 = .ok (.ireturn, 1) := by decide +kernel
def QI (h0 : Heap) (r : Int32) (v : Option Value) (h : Heap) (S : Addr → Prop) : Prop := v = some (.int r) ∧ h0 = h
set_option maxRecDepth 65536 in
set_option maxHeartbeats 40000000 in
theorem ct_nbl {h0 : Heap} {k : Nat} (hw : ∀ d ∈ tables_1, d.before a0 Z = true) (hEL : EW Z a0 EL) (hO : Old Z Z.heap.size h0) (hk : k ≤ 4) :
    Ct true false Z EL l (⟨"java/lang/StringUTF16", "newBytesLength", "(I)I"⟩ : MethodName) jdk_52_method_3_code 1 (some .int) ({ frames := 0, cells := 0, slots := 0, locals := 0 } : Room) #[(.int (Int32.ofNat k))] h0 [] (QI h0 (Int32.ofNat (2 * k))) := by
  refine ctOf (plainFor_of_name pn_java_lang_StringUTF16) hO hEL ?_
  intro p e s m below meth c s₁ S0 X0 hby hml hret hnm hsf
  refine Go.entry (ef_jdk_52_method_3_code m (Int32.ofNat k)) ?_
  show Go _ _ _ _ (s₁.setTop (mkF m 0 #[.val (.int (Int32.ofNat k))] []))
  refine blk X0 hby b10 (pc' := 1) (Ls' := #[.val (.int (Int32.ofNat k))]) (st' := [(.int (Int32.ofNat k))]) rfl ?_
  refine br0 X0 hby d_jdk_52_method_3_code_1 (pc1 := 12) (by decide) (fun hc => ?_) (fun hc => absurd (geF hc) (nn32 (by omega)))
  show Go _ _ _ _ (s₁.setTop (mkF m 12 #[.val (.int (Int32.ofNat k))] []))
  refine blk X0 hby b11 (pc' := 13) (Ls' := #[.val (.int (Int32.ofNat k))]) (st' := [(.int (Int32.ofNat k))]) rfl ?_
  refine gLdcI X0 hby (hw _ (List.mem_of_getElem? (i := 119) rfl)) d_jdk_52_method_3_code_13 ?_
  show Go _ _ _ _ (s₁.setTop (mkF m 15 #[.val (.int (Int32.ofNat k))] [(.int (1073741823 : Int32)), (.int (Int32.ofNat k))]))
  refine brI X0 hby d_jdk_52_method_3_code_15 (pc1 := 55) (by decide) (fun hd => ?_) (fun hd => absurd (ltF hd) (fun q => q ((lt32 (j := 1073741823) (by omega) (by decide)).mpr (by omega))))
  show Go _ _ _ _ (s₁.setTop (mkF m 55 #[.val (.int (Int32.ofNat k))] []))
  refine blk X0 hby b12 (pc' := 58) (Ls' := #[.val (.int (Int32.ofNat k))]) (st' := [(.int ((Int32.ofNat k) <<< ((1 : Int32) &&& 31)))]) rfl ?_
  exact retI' X0 hby hret d_jdk_52_method_3_code_58 rfl (fun S' hS' => ⟨by rw [shl1 (by omega)], rfl⟩)
theorem ef_jdk_52_method_2_code (m : MethodId) (x0 : Int32) : entryFrame m #[(.int x0)] 1 = mkF m 0 #[.val (.int x0)] [] := by first | (simp [entryFrame, mkF, argsToLocals, Value.category]; done) | rfl
theorem b13 : decs jdk_52_method_2_code 0 [.iload_n 0] = true := by decide +kernel
theorem d_jdk_52_method_2_code_1 : decode jdk_52_method_2_code 1 = .ok (.invokestatic 11, 3) := by decide +kernel
theorem pd__I_I : parseMethodDescriptor "(I)I" = some ⟨[.int], (some .int)⟩ := by decide +kernel
theorem d_jdk_52_method_2_code_4 : decode jdk_52_method_2_code 4 = .ok (.newarray .byte, 2) := by decide +kernel
theorem d_jdk_52_method_2_code_6 : decode jdk_52_method_2_code 6 = .ok (.areturn, 1) := by decide +kernel
def QNB (Z : State) (h0 : Heap) (n : Nat) (v : Option Value) (h : Heap) (S : Addr → Prop) : Prop := v = some (.ref h0.size) ∧ Ext h0 h ∧ Ari Z h h0.size .byte (List.replicate n 0) ∧ S h0.size
set_option maxRecDepth 65536 in
set_option maxHeartbeats 40000000 in
theorem ct_nbf {h0 : Heap} {k : Nat} (hw : ∀ d ∈ tables_1, d.before a0 Z = true) (hEL : EW Z a0 EL) (hO : Old Z Z.heap.size h0) (hk : k ≤ 4) :
    Ct true false Z EL l (⟨"java/lang/StringUTF16", "newBytesFor", "(I)[B"⟩ : MethodName) jdk_52_method_2_code 1 (some (.array .byte)) ({ frames := 1, cells := 1, slots := 8, locals := 14 } : Room) #[(.int (Int32.ofNat k))] h0 [] (QNB Z h0 (2 * k)) := by
  refine ctOf (plainFor_of_name pn_java_lang_StringUTF16) hO hEL ?_
  intro p e s m below meth c s₁ S0 X0 hby hml hret hnm hsf
  refine Go.entry (ef_jdk_52_method_2_code m (Int32.ofNat k)) ?_
  show Go _ _ _ _ (s₁.setTop (mkF m 0 #[.val (.int (Int32.ofNat k))] []))
  refine blk X0 hby b13 (pc' := 1) (Ls' := #[.val (.int (Int32.ofNat k))]) (st' := [(.int (Int32.ofNat k))]) rfl ?_
  refine gStatic X0 hby (argsL := [(.int (Int32.ofNat k))]) (st := []) (ct_nbl hw hEL X0.old hk) (hw _ (List.mem_of_getElem? (i := 116) rfl)) (hw _ (List.mem_of_getElem? (i := 117) rfl)) (hw _ (List.mem_of_getElem? (i := 39) rfl)) (hw _ (List.mem_of_getElem? (i := 118) rfl)) pd__I_I rfl d_jdk_52_method_2_code_1 rfl (by rw [hml]; rfl) all0 (by decide) (Nat.le_of_ble_eq_true rfl) (by decide) (by decide) (fun v1 T1 h1 S1 X1 q1 sS1 sz1 => ?_)
  obtain ⟨rfl, rfl⟩ := q1
  show Go _ _ _ _ (T1.setTop (mkF m 4 #[.val (.int (Int32.ofNat k))] [(.int (Int32.ofNat (2 * k)))]))
  refine gNewA X1 hby (aty := .byte) (hw _ (List.mem_of_getElem? (i := 20) rfl)) d_jdk_52_method_2_code_4 rfl (N := (2 * k)) (cap := 8) rfl (by omega) (by decide) (by decide) (by decide) (fun T2 h2 S2 X2 E2 V2 sS2 sn2 => ?_)
  show Go _ _ _ _ (T2.setTop (mkF m 6 #[.val (.int (Int32.ofNat k))] [(.ref h0.size)]))
  exact retA' X2 hby hret d_jdk_52_method_2_code_6 rfl (fun S' hS' => ⟨rfl, E2, V2, hS' _ sn2⟩)
theorem ef_jdk_52_method_4_code (m : MethodId) (x0 : Addr) (x1 : Int32) (x2 : Int32) : entryFrame m #[(.ref x0), (.int x1), (.int x2)] 3 = mkF m 0 #[.val (.ref x0), .val (.int x1), .val (.int x2)] [] := by first | (simp [entryFrame, mkF, argsToLocals, Value.category]; done) | rfl
theorem d_jdk_52_method_4_code_0 : decode jdk_52_method_4_code 0 = .ok (.getstatic 44, 3) := by decide +kernel
theorem d_jdk_52_method_4_code_3 : decode jdk_52_method_4_code 3 = .ok (.ifCond .ne 25, 3) := by decide +kernel
theorem b14 : decs jdk_52_method_4_code 28 [.iload_n 1, .iconst 1, .ishl, .istore_n 1] = true := by decide +kernel
theorem b15 : decs jdk_52_method_4_code 32 [.aload_n 0, .iload_n 1, .iinc 1 1, .iload_n 2] = true := by decide +kernel
theorem d_jdk_52_method_4_code_38 : decode jdk_52_method_4_code 38 = .ok (.getstatic 59, 3) := by decide +kernel
theorem b16 : decs jdk_52_method_4_code 41 [.ishr, .i2b] = true := by decide +kernel
theorem d_jdk_52_method_4_code_43 : decode jdk_52_method_4_code 43 = .ok (.bastore, 1) := by decide +kernel
theorem b17 : decs jdk_52_method_4_code 44 [.aload_n 0, .iload_n 1, .iload_n 2] = true := by decide +kernel
theorem d_jdk_52_method_4_code_47 : decode jdk_52_method_4_code 47 = .ok (.getstatic 63, 3) := by decide +kernel
theorem b18 : decs jdk_52_method_4_code 50 [.ishr, .i2b] = true := by decide +kernel
theorem d_jdk_52_method_4_code_52 : decode jdk_52_method_4_code 52 = .ok (.bastore, 1) := by decide +kernel
theorem d_jdk_52_method_4_code_53 : decode jdk_52_method_4_code 53 = .ok (.return_, 1) := by decide +kernel
def QPC (Z : State) (h0 : Heap) (d : Addr) (zs : List Int32) (v : Option Value) (h : Heap) (S : Addr → Prop) : Prop := v = none ∧ Keep h0 h [d] ∧ Ari Z h d .byte zs ∧ S d
set_option maxRecDepth 65536 in
set_option maxHeartbeats 40000000 in
theorem ct_put {h0 : Heap} {d : Addr} {ys : List Int32} {i : Nat} {x zc : Int32} (hw : ∀ d ∈ tables_1, d.before a0 Z = true) (hEL : EW Z a0 EL) (hO : Old Z Z.heap.size h0) (U : US Z zc) (VD : Ari Z h0 d .byte ys) (hi : 2 * i + 1 < ys.length) (gd : Z.heap.size ≤ d) :
    Ct true false Z EL l (⟨"java/lang/StringUTF16", "putChar", "([BII)V"⟩ : MethodName) jdk_52_method_4_code 3 none ({ frames := 0, cells := 0, slots := 0, locals := 0 } : Room) #[(.ref d), (.int (Int32.ofNat i)), (.int x)] h0 [d] (QPC Z h0 d ((ys.set (2 * i) (lo8 x)).set (2 * i + 1) (hi8 x))) := by
  refine ctOf (plainFor_of_name pn_java_lang_StringUTF16) hO hEL ?_
  intro p e s m below meth c s₁ S0 X0 hby hml hret hnm hsf
  refine Go.entry (ef_jdk_52_method_4_code m d (Int32.ofNat i) x) ?_
  show Go _ _ _ _ (s₁.setTop (mkF m 0 #[.val (.ref d), .val (.int (Int32.ofNat i)), .val (.int x)] []))
  have hL := VD.len
  refine gGetS X0 hby (hw _ (List.mem_of_getElem? (i := 123) rfl)) Via.refl U.ad d_jdk_52_method_4_code_0 (fun T1 X1 => ?_)
  show Go _ _ _ _ (T1.setTop (mkF m 3 #[.val (.ref d), .val (.int (Int32.ofNat i)), .val (.int x)] [(.int (1 : Int32))]))
  refine br0 X1 hby d_jdk_52_method_4_code_3 (pc1 := 28) (by decide) (fun hc => ?_) (fun hc => absurd (neF hc) (by decide))
  show Go _ _ _ _ (T1.setTop (mkF m 28 #[.val (.ref d), .val (.int (Int32.ofNat i)), .val (.int x)] []))
  refine blk X1 hby b14 (pc' := 32) (Ls' := #[.val (.ref d), .val (.int ((Int32.ofNat i) <<< ((1 : Int32) &&& 31))), .val (.int x)]) (st' := []) rfl ?_
  rw [shl1 (by omega)]
  show Go _ _ _ _ (T1.setTop (mkF m 32 #[.val (.ref d), .val (.int (Int32.ofNat (2 * i))), .val (.int x)] []))
  refine blk X1 hby b15 (pc' := 38) (Ls' := #[.val (.ref d), .val (.int ((Int32.ofNat (2 * i)) + (1 : Int32))), .val (.int x)]) (st' := [(.int x), (.int (Int32.ofNat (2 * i))), (.ref d)]) rfl ?_
  refine gGetS X1 hby (hw _ (List.mem_of_getElem? (i := 124) rfl)) Via.refl U.hi d_jdk_52_method_4_code_38 (fun T2 X2 => ?_)
  show Go _ _ _ _ (T2.setTop (mkF m 41 #[.val (.ref d), .val (.int ((Int32.ofNat (2 * i)) + (1 : Int32))), .val (.int x)] [(.int (0 : Int32)), (.int x), (.int (Int32.ofNat (2 * i))), (.ref d)]))
  refine blk X2 hby b16 (pc' := 43) (Ls' := #[.val (.ref d), .val (.int ((Int32.ofNat (2 * i)) + (1 : Int32))), .val (.int x)]) (st' := [(.int (lo8 (x >>> ((0 : Int32) &&& 31)))), (.int (Int32.ofNat (2 * i))), (.ref d)]) rfl ?_
  refine gSt X2 hby VD (Or.inr (Or.inr ⟨rfl, rfl⟩)) d_jdk_52_method_4_code_43 (i := (2 * i)) rfl (by omega) (by rw [nar_lo8]; exact fits_nar_byte _) gd (hsf d (by simp)) (fun T3 h3 S3 X3 W3 V3 sS3 => ?_)
  show Go _ _ _ _ (T3.setTop (mkF m 44 #[.val (.ref d), .val (.int ((Int32.ofNat (2 * i)) + (1 : Int32))), .val (.int x)] []))
  rw [nar_lo8, shr0] at V3
  rw [succ32]
  show Go _ _ _ _ (T3.setTop (mkF m 44 #[.val (.ref d), .val (.int (Int32.ofNat (2 * i + 1))), .val (.int x)] []))
  refine blk X3 hby b17 (pc' := 47) (Ls' := #[.val (.ref d), .val (.int (Int32.ofNat (2 * i + 1))), .val (.int x)]) (st' := [(.int x), (.int (Int32.ofNat (2 * i + 1))), (.ref d)]) rfl ?_
  refine gGetS X3 hby (hw _ (List.mem_of_getElem? (i := 125) rfl)) Via.refl U.lo d_jdk_52_method_4_code_47 (fun T4 X4 => ?_)
  show Go _ _ _ _ (T4.setTop (mkF m 50 #[.val (.ref d), .val (.int (Int32.ofNat (2 * i + 1))), .val (.int x)] [(.int (8 : Int32)), (.int x), (.int (Int32.ofNat (2 * i + 1))), (.ref d)]))
  refine blk X4 hby b18 (pc' := 52) (Ls' := #[.val (.ref d), .val (.int (Int32.ofNat (2 * i + 1))), .val (.int x)]) (st' := [(.int (lo8 (x >>> ((8 : Int32) &&& 31)))), (.int (Int32.ofNat (2 * i + 1))), (.ref d)]) rfl ?_
  refine gSt X4 hby V3 (Or.inr (Or.inr ⟨rfl, rfl⟩)) d_jdk_52_method_4_code_52 (i := (2 * i + 1)) rfl (by rw [List.length_set]; omega) (by rw [nar_lo8]; exact fits_nar_byte _) gd (sS3 d (hsf d (by simp))) (fun T5 h5 S5 X5 W5 V5 sS5 => ?_)
  show Go _ _ _ _ (T5.setTop (mkF m 53 #[.val (.ref d), .val (.int (Int32.ofNat (2 * i + 1))), .val (.int x)] []))
  rw [nar_lo8] at V5
  exact retV' X5 hby hret d_jdk_52_method_4_code_53 (fun S' hS' => ⟨rfl, ((Keep.refl h0 [d]).wr W3 (Or.inl (by simp))).wr W5 (Or.inl (by simp)), V5, hS' _ (sS5 d (sS3 d (hsf d (by simp))))⟩)
theorem ef_jdk_52_method_5_code (m : MethodId) (x0 : Addr) (x1 : Int32) : entryFrame m #[(.ref x0), (.int x1)] 2 = mkF m 0 #[.val (.ref x0), .val (.int x1)] [] := by first | (simp [entryFrame, mkF, argsToLocals, Value.category]; done) | rfl
theorem d_jdk_52_method_5_code_0 : decode jdk_52_method_5_code 0 = .ok (.getstatic 44, 3) := by decide +kernel
theorem d_jdk_52_method_5_code_3 : decode jdk_52_method_5_code 3 = .ok (.ifCond .ne 25, 3) := by decide +kernel
theorem b19 : decs jdk_52_method_5_code 28 [.iload_n 1, .iconst 1, .ishl, .istore_n 1] = true := by decide +kernel
theorem b20 : decs jdk_52_method_5_code 32 [.aload_n 0, .iload_n 1, .iinc 1 1] = true := by decide +kernel
theorem d_jdk_52_method_5_code_37 : decode jdk_52_method_5_code 37 = .ok (.baload, 1) := by decide +kernel
theorem b21 : decs jdk_52_method_5_code 38 [.sipush 255, .iand] = true := by decide +kernel
theorem d_jdk_52_method_5_code_42 : decode jdk_52_method_5_code 42 = .ok (.getstatic 59, 3) := by decide +kernel
theorem b22 : decs jdk_52_method_5_code 45 [.ishl, .aload_n 0, .iload_n 1] = true := by decide +kernel
theorem d_jdk_52_method_5_code_48 : decode jdk_52_method_5_code 48 = .ok (.baload, 1) := by decide +kernel
theorem b23 : decs jdk_52_method_5_code 49 [.sipush 255, .iand] = true := by decide +kernel
theorem d_jdk_52_method_5_code_53 : decode jdk_52_method_5_code 53 = .ok (.getstatic 63, 3) := by decide +kernel
theorem b24 : decs jdk_52_method_5_code 56 [.ishl, .ior, .i2c] = true := by decide +kernel
theorem d_jdk_52_method_5_code_59 : decode jdk_52_method_5_code 59 = .ok (.ireturn, 1) := by decide +kernel
set_option maxRecDepth 65536 in
set_option maxHeartbeats 40000000 in
theorem ct_get {h0 : Heap} {d : Addr} {cs : List Int32} {i : Nat} {zc : Int32} (hw : ∀ d ∈ tables_1, d.before a0 Z = true) (hEL : EW Z a0 EL) (hO : Old Z Z.heap.size h0) (U : US Z zc) (VD : Ari Z h0 d .byte (u16 cs)) (hi : i < cs.length) (hR : ∀ c ∈ cs, ¬ c < 0 ∧ ¬ 65535 < c) :
    Ct true false Z EL l (⟨"java/lang/StringUTF16", "getChar", "([BI)C"⟩ : MethodName) jdk_52_method_5_code 2 (some .char) ({ frames := 0, cells := 0, slots := 0, locals := 0 } : Room) #[(.ref d), (.int (Int32.ofNat i))] h0 [] (QI h0 (cs.getD i 0)) := by
  refine ctOf (plainFor_of_name pn_java_lang_StringUTF16) hO hEL ?_
  intro p e s m below meth c s₁ S0 X0 hby hml hret hnm hsf
  refine Go.entry (ef_jdk_52_method_5_code m d (Int32.ofNat i)) ?_
  show Go _ _ _ _ (s₁.setTop (mkF m 0 #[.val (.ref d), .val (.int (Int32.ofNat i))] []))
  have hL := VD.len
  rw [u16_length] at hL
  refine gGetS X0 hby (hw _ (List.mem_of_getElem? (i := 123) rfl)) Via.refl U.ad d_jdk_52_method_5_code_0 (fun T1 X1 => ?_)
  show Go _ _ _ _ (T1.setTop (mkF m 3 #[.val (.ref d), .val (.int (Int32.ofNat i))] [(.int (1 : Int32))]))
  refine br0 X1 hby d_jdk_52_method_5_code_3 (pc1 := 28) (by decide) (fun hc => ?_) (fun hc => absurd (neF hc) (by decide))
  show Go _ _ _ _ (T1.setTop (mkF m 28 #[.val (.ref d), .val (.int (Int32.ofNat i))] []))
  refine blk X1 hby b19 (pc' := 32) (Ls' := #[.val (.ref d), .val (.int ((Int32.ofNat i) <<< ((1 : Int32) &&& 31)))]) (st' := []) rfl ?_
  rw [shl1 (by omega)]
  show Go _ _ _ _ (T1.setTop (mkF m 32 #[.val (.ref d), .val (.int (Int32.ofNat (2 * i)))] []))
  refine blk X1 hby b20 (pc' := 37) (Ls' := #[.val (.ref d), .val (.int ((Int32.ofNat (2 * i)) + (1 : Int32)))]) (st' := [(.int (Int32.ofNat (2 * i))), (.ref d)]) rfl ?_
  refine gLd X1 hby VD (Or.inr (Or.inr ⟨rfl, rfl⟩)) d_jdk_52_method_5_code_37 (i := (2 * i)) rfl (by rw [u16_length]; omega) ?_
  show Go _ _ _ _ (T1.setTop (mkF m 38 #[.val (.ref d), .val (.int ((Int32.ofNat (2 * i)) + (1 : Int32)))] [(.int ((u16 cs).getD (2 * i) 0))]))
  rw [u16_lo hi, succ32]
  show Go _ _ _ _ (T1.setTop (mkF m 38 #[.val (.ref d), .val (.int (Int32.ofNat (2 * i + 1)))] [(.int (lo8 (cs.getD i 0)))]))
  refine blk X1 hby b21 (pc' := 42) (Ls' := #[.val (.ref d), .val (.int (Int32.ofNat (2 * i + 1)))]) (st' := [(.int ((lo8 (cs.getD i 0)) &&& (255 : Int32)))]) rfl ?_
  refine gGetS X1 hby (hw _ (List.mem_of_getElem? (i := 124) rfl)) Via.refl U.hi d_jdk_52_method_5_code_42 (fun T2 X2 => ?_)
  show Go _ _ _ _ (T2.setTop (mkF m 45 #[.val (.ref d), .val (.int (Int32.ofNat (2 * i + 1)))] [(.int (0 : Int32)), (.int ((lo8 (cs.getD i 0)) &&& (255 : Int32)))]))
  refine blk X2 hby b22 (pc' := 48) (Ls' := #[.val (.ref d), .val (.int (Int32.ofNat (2 * i + 1)))]) (st' := [(.int (Int32.ofNat (2 * i + 1))), (.ref d), (.int (((lo8 (cs.getD i 0)) &&& (255 : Int32)) <<< ((0 : Int32) &&& 31)))]) rfl ?_
  refine gLd X2 hby VD (Or.inr (Or.inr ⟨rfl, rfl⟩)) d_jdk_52_method_5_code_48 (i := (2 * i + 1)) rfl (by rw [u16_length]; omega) ?_
  show Go _ _ _ _ (T2.setTop (mkF m 49 #[.val (.ref d), .val (.int (Int32.ofNat (2 * i + 1)))] [(.int ((u16 cs).getD (2 * i + 1) 0)), (.int (((lo8 (cs.getD i 0)) &&& (255 : Int32)) <<< ((0 : Int32) &&& 31)))]))
  rw [u16_hi hi]
  show Go _ _ _ _ (T2.setTop (mkF m 49 #[.val (.ref d), .val (.int (Int32.ofNat (2 * i + 1)))] [(.int (hi8 (cs.getD i 0))), (.int (((lo8 (cs.getD i 0)) &&& (255 : Int32)) <<< ((0 : Int32) &&& 31)))]))
  refine blk X2 hby b23 (pc' := 53) (Ls' := #[.val (.ref d), .val (.int (Int32.ofNat (2 * i + 1)))]) (st' := [(.int ((hi8 (cs.getD i 0)) &&& (255 : Int32))), (.int (((lo8 (cs.getD i 0)) &&& (255 : Int32)) <<< ((0 : Int32) &&& 31)))]) rfl ?_
  refine gGetS X2 hby (hw _ (List.mem_of_getElem? (i := 125) rfl)) Via.refl U.lo d_jdk_52_method_5_code_53 (fun T3 X3 => ?_)
  show Go _ _ _ _ (T3.setTop (mkF m 56 #[.val (.ref d), .val (.int (Int32.ofNat (2 * i + 1)))] [(.int (8 : Int32)), (.int ((hi8 (cs.getD i 0)) &&& (255 : Int32))), (.int (((lo8 (cs.getD i 0)) &&& (255 : Int32)) <<< ((0 : Int32) &&& 31)))]))
  refine blk X3 hby b24 (pc' := 59) (Ls' := #[.val (.ref d), .val (.int (Int32.ofNat (2 * i + 1)))]) (st' := [(.int (chr16 ((((lo8 (cs.getD i 0)) &&& (255 : Int32)) <<< ((0 : Int32) &&& 31)) ||| (((hi8 (cs.getD i 0)) &&& (255 : Int32)) <<< ((8 : Int32) &&& 31)))))]) rfl ?_
  exact retI' X3 hby hret d_jdk_52_method_5_code_59 (XT.narrow_c _) (fun S' hS' => ⟨by rw [join8 _ (hR _ (getD_mem hi)).1 (hR _ (getD_mem hi)).2], rfl⟩)
theorem ef_jdk_52_method_14_code (m : MethodId) (x0 : Addr) (x1 : Int32) (x2 : Int32) : entryFrame m #[(.ref x0), (.int x1), (.int x2)] 5 = mkF m 0 #[.val (.ref x0), .val (.int x1), .val (.int x2), .unset, .unset] [] := by first | (simp [entryFrame, mkF, argsToLocals, Value.category]; done) | rfl
theorem b25 : decs jdk_52_method_14_code 0 [.iload_n 2] = true := by decide +kernel
theorem d_jdk_52_method_14_code_1 : decode jdk_52_method_14_code 1 = .ok (.invokestatic 107, 3) := by decide +kernel
theorem pd__I__B : parseMethodDescriptor "(I)[B" = some ⟨[.int], (some (.array .byte))⟩ := by decide +kernel
theorem b26 : decs jdk_52_method_14_code 4 [.astore_n 3, .iconst 0, .istore 4] = true := by decide +kernel
theorem b27 : decs jdk_52_method_14_code 8 [.iload 4, .iload_n 2] = true := by decide +kernel
theorem d_jdk_52_method_14_code_11 : decode jdk_52_method_14_code 11 = .ok (.if_icmp .ge 21, 3) := by decide +kernel
theorem b28 : decs jdk_52_method_14_code 32 [.aload_n 3] = true := by decide +kernel
theorem d_jdk_52_method_14_code_33 : decode jdk_52_method_14_code 33 = .ok (.areturn, 1) := by decide +kernel
theorem b29 : decs jdk_52_method_14_code 8 [.iload 4, .iload_n 2] = true := by decide +kernel
theorem b30 : decs jdk_52_method_14_code 14 [.aload_n 3, .iload 4, .aload_n 0, .iload_n 1] = true := by decide +kernel
theorem d_jdk_52_method_14_code_19 : decode jdk_52_method_14_code 19 = .ok (.caload, 1) := by decide +kernel
theorem d_jdk_52_method_14_code_20 : decode jdk_52_method_14_code 20 = .ok (.invokestatic 111, 3) := by decide +kernel
theorem pd___BII_V : parseMethodDescriptor "([BII)V" = some ⟨[(.array .byte), .int, .int], none⟩ := by decide +kernel
theorem b31 : decs jdk_52_method_14_code 23 [.iinc 1 1, .iinc 4 1, .goto (-21)] = true := by decide +kernel
def QTB (Z : State) (h0 : Heap) (cs : List Int32) (v : Option Value) (h : Heap) (S : Addr → Prop) : Prop := v = some (.ref h0.size) ∧ Keep h0 h [] ∧ Ari Z h h0.size .byte (u16 cs) ∧ S h0.size
set_option maxRecDepth 65536 in
set_option maxHeartbeats 40000000 in
theorem ct_toB {h0 : Heap} {a : Addr} {cs : List Int32} {zc : Int32} (hw : ∀ d ∈ tables_1, d.before a0 Z = true) (hEL : EW Z a0 EL) (hO : Old Z Z.heap.size h0) (U : US Z zc) (VA : Ari Z h0 a .char cs) (hcap : cs.length ≤ 4) :
    Ct true false Z EL l (⟨"java/lang/StringUTF16", "toBytes", "([CII)[B"⟩ : MethodName) jdk_52_method_14_code 5 (some (.array .byte)) ({ frames := 2, cells := 1, slots := 8, locals := 30 } : Room) #[(.ref a), (.int (0 : Int32)), (.int (Int32.ofNat cs.length))] h0 [] (QTB Z h0 cs) := by
  refine ctOf (plainFor_of_name pn_java_lang_StringUTF16) hO hEL ?_
  intro p e s m below meth c s₁ S0 X0 hby hml hret hnm hsf
  refine Go.entry (ef_jdk_52_method_14_code m a (0 : Int32) (Int32.ofNat cs.length)) ?_
  show Go _ _ _ _ (s₁.setTop (mkF m 0 #[.val (.ref a), .val (.int (0 : Int32)), .val (.int (Int32.ofNat cs.length)), .unset, .unset] []))
  refine blk X0 hby b25 (pc' := 1) (Ls' := #[.val (.ref a), .val (.int (0 : Int32)), .val (.int (Int32.ofNat cs.length)), .unset, .unset]) (st' := [(.int (Int32.ofNat cs.length))]) rfl ?_
  refine gStatic X0 hby (argsL := [(.int (Int32.ofNat cs.length))]) (st := []) (ct_nbf hw hEL X0.old hcap) (hw _ (List.mem_of_getElem? (i := 113) rfl)) (hw _ (List.mem_of_getElem? (i := 114) rfl)) (hw _ (List.mem_of_getElem? (i := 39) rfl)) (hw _ (List.mem_of_getElem? (i := 115) rfl)) pd__I__B rfl d_jdk_52_method_14_code_1 rfl (by rw [hml]; rfl) all0 (by decide) (Nat.le_of_ble_eq_true rfl) (by decide) (by decide) (fun v1 T1 h1 S1 X1 q1 sS1 sz1 => ?_)
  obtain ⟨rfl, E, V, sn⟩ := q1
  show Go _ _ _ _ (T1.setTop (mkF m 4 #[.val (.ref a), .val (.int (0 : Int32)), .val (.int (Int32.ofNat cs.length)), .unset, .unset] [(.ref h0.size)]))
  refine blk X1 hby b26 (pc' := 8) (Ls' := #[.val (.ref a), .val (.int (0 : Int32)), .val (.int (Int32.ofNat cs.length)), .val (.ref h0.size), .val (.int (0 : Int32))]) (st' := []) rfl ?_
  have hL := VA.len
  have hlt : ¬ h0.size ≤ a := Nat.not_le.mpr VA.lt
  have loop : ∀ (n i : Nat) (T : State) (h : Heap) (S : Addr → Prop) (ys : List Int32), n + i = cs.length → Sd true false Z a0 EL p l e ({ frames := 2, cells := 1, slots := 8, locals := 30 } : Room) s m #[(.ref a), (.int (0 : Int32)), (.int (Int32.ofNat cs.length))] below meth c "java/lang/StringUTF16" T h S (0 + 1) (0 + 8) → Ari Z h a .char cs → Ari Z h h0.size .byte ys → ys.length = 2 * cs.length → Keep h1 h [h0.size] → S h0.size → (∀ j, j < i → ys.getD (2 * j) 0 = lo8 (cs.getD j 0) ∧ ys.getD (2 * j + 1) 0 = hi8 (cs.getD j 0)) → Go p e below (Pst true Z EL ({ frames := 2, cells := 1, slots := 8, locals := 30 } : Room).cells ({ frames := 2, cells := 1, slots := 8, locals := 30 } : Room).slots (QTB Z h0 cs) s) (T.setTop (mkF m 8 #[.val (.ref a), .val (.int (Int32.ofNat i)), .val (.int (Int32.ofNat cs.length)), .val (.ref h0.size), .val (.int (Int32.ofNat i))] [])) := by
    intro n
    induction n with
    | zero =>
      intro i T h S ys hn X VA VD hl K hs hy
      have hi31 : i < 2147483648 := by omega
      refine blk X hby b27 (pc' := 11) (Ls' := #[.val (.ref a), .val (.int (Int32.ofNat i)), .val (.int (Int32.ofNat cs.length)), .val (.ref h0.size), .val (.int (Int32.ofNat i))]) (st' := [(.int (Int32.ofNat cs.length)), (.int (Int32.ofNat i))]) rfl ?_
      refine brI X hby d_jdk_52_method_14_code_11 (pc1 := 32) (by decide) (fun hc => ?_) (fun hc => absurd (geF hc) (by rw [lt32 hi31 hL]; omega))
      show Go _ _ _ _ (T.setTop (mkF m 32 #[.val (.ref a), .val (.int (Int32.ofNat i)), .val (.int (Int32.ofNat cs.length)), .val (.ref h0.size), .val (.int (Int32.ofNat i))] []))
      refine blk X hby b28 (pc' := 33) (Ls' := #[.val (.ref a), .val (.int (Int32.ofNat i)), .val (.int (Int32.ofNat cs.length)), .val (.ref h0.size), .val (.int (Int32.ofNat i))]) (st' := [(.ref h0.size)]) rfl ?_
      have e := u16_of hl (fun j hj => hy j (by omega))
      subst e
      exact retA' X hby hret d_jdk_52_method_14_code_33 rfl (fun S' hS' => ⟨rfl, ((Keep.refl h0 []).ext E).trans K (fun x hx => Or.inr (by cases List.mem_singleton.mp hx; exact Nat.le_refl _)), VD, hS' _ hs⟩)
    | succ n ih =>
      intro i T h S ys hn X VA VD hl K hs hy
      have hi31 : i < 2147483648 := by omega
      refine blk X hby b29 (pc' := 11) (Ls' := #[.val (.ref a), .val (.int (Int32.ofNat i)), .val (.int (Int32.ofNat cs.length)), .val (.ref h0.size), .val (.int (Int32.ofNat i))]) (st' := [(.int (Int32.ofNat cs.length)), (.int (Int32.ofNat i))]) rfl ?_
      have hil : i < cs.length := by omega
      refine brI X hby d_jdk_52_method_14_code_11 (pc1 := 32) (by decide) (fun hc => absurd (geT hc) (fun q => q (by rw [lt32 hi31 hL]; omega))) (fun hc => ?_)
      show Go _ _ _ _ (T.setTop (mkF m 14 #[.val (.ref a), .val (.int (Int32.ofNat i)), .val (.int (Int32.ofNat cs.length)), .val (.ref h0.size), .val (.int (Int32.ofNat i))] []))
      refine blk X hby b30 (pc' := 19) (Ls' := #[.val (.ref a), .val (.int (Int32.ofNat i)), .val (.int (Int32.ofNat cs.length)), .val (.ref h0.size), .val (.int (Int32.ofNat i))]) (st' := [(.int (Int32.ofNat i)), (.ref a), (.int (Int32.ofNat i)), (.ref h0.size)]) rfl ?_
      refine gLd X hby VA (Or.inr (Or.inl ⟨rfl, rfl⟩)) d_jdk_52_method_14_code_19 (i := i) rfl hil ?_
      show Go _ _ _ _ (T.setTop (mkF m 20 #[.val (.ref a), .val (.int (Int32.ofNat i)), .val (.int (Int32.ofNat cs.length)), .val (.ref h0.size), .val (.int (Int32.ofNat i))] [(.int (cs.getD i 0)), (.int (Int32.ofNat i)), (.ref h0.size)]))
      refine gStatic X hby (argsL := [(.ref h0.size), (.int (Int32.ofNat i)), (.int (cs.getD i 0))]) (st := []) (ct_put hw hEL X.old U VD (by omega) hO.2.1) (hw _ (List.mem_of_getElem? (i := 120) rfl)) (hw _ (List.mem_of_getElem? (i := 121) rfl)) (hw _ (List.mem_of_getElem? (i := 39) rfl)) (hw _ (List.mem_of_getElem? (i := 122) rfl)) pd___BII_V rfl d_jdk_52_method_14_code_20 rfl (by rw [hml]; rfl) (allS hs all0) (by decide) (Nat.le_of_ble_eq_true rfl) (by decide) (by decide) (fun v1 T1 h1 S1 X1 q1 sS1 sz1 => ?_)
      obtain ⟨rfl, K2, V2, s2⟩ := q1
      show Go _ _ _ _ (T1.setTop (mkF m 23 #[.val (.ref a), .val (.int (Int32.ofNat i)), .val (.int (Int32.ofNat cs.length)), .val (.ref h0.size), .val (.int (Int32.ofNat i))] []))
      refine blk X1 hby b31 (pc' := 8) (Ls' := #[.val (.ref a), .val (.int ((Int32.ofNat i) + (1 : Int32))), .val (.int (Int32.ofNat cs.length)), .val (.ref h0.size), .val (.int ((Int32.ofNat i) + (1 : Int32)))]) (st' := []) rfl ?_
      rw [succ32]
      refine ih (i + 1) T1 h1 S1 _ (by omega) X1 (VA.keep K2 (by simp; exact fun z => hlt (z ▸ Nat.le_refl _))) V2 (by rw [List.length_set, List.length_set]; exact hl) (K.trans K2 (fun x hx => Or.inl hx)) s2 (fun j hj => ?_)
      by_cases q : j = i
      · subst q; exact ⟨by rw [getD_set_ne (by omega), getD_set_self (by omega)], by rw [getD_set_self (by rw [List.length_set]; omega)]⟩
      · rw [getD_set_ne (by omega), getD_set_ne (by omega), getD_set_ne (by omega), getD_set_ne (by omega)]; exact hy j (by omega)
  exact loop cs.length 0 T1 h1 S1 _ (by omega) X1 (VA.ext E) V (by simp) (Keep.refl _ _) sn (fun j hj => absurd hj (Nat.not_lt_zero _))
theorem ef_jdk_52_method_16_code (m : MethodId) (x0 : Addr) (x1 : Int32) (x2 : Int32) : entryFrame m #[(.ref x0), (.int x1), (.int x2)] 6 = mkF m 0 #[.val (.ref x0), .val (.int x1), .val (.int x2), .unset, .unset, .unset] [] := by first | (simp [entryFrame, mkF, argsToLocals, Value.category]; done) | rfl
theorem b32 : decs jdk_52_method_16_code 0 [.iload_n 2] = true := by decide +kernel
theorem d_jdk_52_method_16_code_1 : decode jdk_52_method_16_code 1 = .ok (.newarray .byte, 2) := by decide +kernel
theorem b33 : decs jdk_52_method_16_code 3 [.astore_n 3, .aload_n 0, .iload_n 1, .aload_n 3, .iconst 0, .iload_n 2] = true := by decide +kernel
theorem d_jdk_52_method_16_code_9 : decode jdk_52_method_16_code 9 = .ok (.invokestatic 115, 3) := by decide +kernel
theorem pd___CI_BII_I : parseMethodDescriptor "([CI[BII)I" = some ⟨[(.array .char), .int, (.array .byte), .int, .int], (some .int)⟩ := by decide +kernel
theorem b34 : decs jdk_52_method_16_code 12 [.istore 4, .iload 4, .iload_n 2] = true := by decide +kernel
theorem d_jdk_52_method_16_code_17 : decode jdk_52_method_16_code 17 = .ok (.if_icmp .eq 40, 3) := by decide +kernel
theorem b35 : decs jdk_52_method_16_code 57 [.aload_n 3] = true := by decide +kernel
theorem d_jdk_52_method_16_code_58 : decode jdk_52_method_16_code 58 = .ok (.areturn, 1) := by decide +kernel
theorem b36 : decs jdk_52_method_16_code 20 [.aload_n 0, .iload_n 1, .iload_n 2] = true := by decide +kernel
theorem d_jdk_52_method_16_code_23 : decode jdk_52_method_16_code 23 = .ok (.invokestatic 119, 3) := by decide +kernel
theorem pd___CII__B : parseMethodDescriptor "([CII)[B" = some ⟨[(.array .char), .int, .int], (some (.array .byte))⟩ := by decide +kernel
theorem b37 : decs jdk_52_method_16_code 26 [.astore 5, .aload 5, .iload 4] = true := by decide +kernel
theorem d_jdk_52_method_16_code_32 : decode jdk_52_method_16_code 32 = .ok (.invokestatic 71, 3) := by decide +kernel
theorem pd___BI_C : parseMethodDescriptor "([BI)C" = some ⟨[(.array .byte), .int], (some .char)⟩ := by decide +kernel
theorem b38 : decs jdk_52_method_16_code 35 [.sipush 255] = true := by decide +kernel
theorem d_jdk_52_method_16_code_38 : decode jdk_52_method_16_code 38 = .ok (.if_icmp .gt 16, 3) := by decide +kernel
theorem b39 : decs jdk_52_method_16_code 54 [.aload 5] = true := by decide +kernel
theorem d_jdk_52_method_16_code_56 : decode jdk_52_method_16_code 56 = .ok (.areturn, 1) := by decide +kernel
def QC3 (Z : State) (h0 : Heap) (cs : List Int32) (v : Option Value) (h : Heap) (S : Addr → Prop) : Prop := ∃ b, v = some (.ref b) ∧ h0.size ≤ b ∧ Keep h0 h [] ∧ S b ∧ ((Ari Z h b .byte (cs.map lo8) ∧ ∀ c ∈ cs, ¬ 255 < c) ∨ (Ari Z h b .byte (u16 cs) ∧ ∃ c ∈ cs, 255 < c))
set_option maxRecDepth 65536 in
set_option maxHeartbeats 40000000 in
theorem ct_cmp3 {h0 : Heap} {a : Addr} {cs : List Int32} {zc : Int32} (hw : ∀ d ∈ tables_1, d.before a0 Z = true) (hEL : EW Z a0 EL) (hO : Old Z Z.heap.size h0) (U : US Z zc) (VA : Ari Z h0 a .char cs) (hcap : cs.length ≤ 4) :
    Ct true false Z EL l (⟨"java/lang/StringUTF16", "compress", "([CII)[B"⟩ : MethodName) jdk_52_method_16_code 6 (some (.array .byte)) ({ frames := 3, cells := 2, slots := 12, locals := 48 } : Room) #[(.ref a), (.int (0 : Int32)), (.int (Int32.ofNat cs.length))] h0 [] (QC3 Z h0 cs) := by
  refine ctOf (plainFor_of_name pn_java_lang_StringUTF16) hO hEL ?_
  intro p e s m below meth c s₁ S0 X0 hby hml hret hnm hsf
  refine Go.entry (ef_jdk_52_method_16_code m a (0 : Int32) (Int32.ofNat cs.length)) ?_
  show Go _ _ _ _ (s₁.setTop (mkF m 0 #[.val (.ref a), .val (.int (0 : Int32)), .val (.int (Int32.ofNat cs.length)), .unset, .unset, .unset] []))
  have hR := VA.chars
  have hL := VA.len
  refine blk X0 hby b32 (pc' := 1) (Ls' := #[.val (.ref a), .val (.int (0 : Int32)), .val (.int (Int32.ofNat cs.length)), .unset, .unset, .unset]) (st' := [(.int (Int32.ofNat cs.length))]) rfl ?_
  refine gNewA X0 hby (aty := .byte) (hw _ (List.mem_of_getElem? (i := 20) rfl)) d_jdk_52_method_16_code_1 rfl (N := cs.length) (cap := 4) rfl hcap (by decide) (by decide) (by decide) (fun T1 h1 S1 X1 E1 V1 sS1 sn1 => ?_)
  show Go _ _ _ _ (T1.setTop (mkF m 3 #[.val (.ref a), .val (.int (0 : Int32)), .val (.int (Int32.ofNat cs.length)), .unset, .unset, .unset] [(.ref h0.size)]))
  refine blk X1 hby b33 (pc' := 9) (Ls' := #[.val (.ref a), .val (.int (0 : Int32)), .val (.int (Int32.ofNat cs.length)), .val (.ref h0.size), .unset, .unset]) (st' := [(.int (Int32.ofNat cs.length)), (.int (0 : Int32)), (.ref h0.size), (.int (0 : Int32)), (.ref a)]) rfl ?_
  refine gStatic X1 hby (argsL := [(.ref a), (.int (0 : Int32)), (.ref h0.size), (.int (0 : Int32)), (.int (Int32.ofNat cs.length))]) (st := []) (ct_cmp5 hw hEL X1.old (VA.ext E1) V1 (by simp) (Nat.ne_of_lt VA.lt) hO.2.1) (hw _ (List.mem_of_getElem? (i := 41) rfl)) (hw _ (List.mem_of_getElem? (i := 42) rfl)) (hw _ (List.mem_of_getElem? (i := 39) rfl)) (hw _ (List.mem_of_getElem? (i := 43) rfl)) pd___CI_BII_I rfl d_jdk_52_method_16_code_9 rfl (by rw [hml]; rfl) (allS sn1 all0) (by decide) (Nat.le_of_ble_eq_true rfl) (by decide) (by decide) (fun v2 T2 h2 S2 X2 q2 sS2 sz2 => ?_)
  obtain ⟨i, ys, rfl, q1, q2, q3, q4, q5, q6⟩ := q2
  have K0 : Keep h0 h2 [] := ((Keep.refl h0 []).ext E1).trans q2 (fun x hx => Or.inr (by cases List.mem_singleton.mp hx; exact Nat.le_refl _))
  show Go _ _ _ _ (T2.setTop (mkF m 12 #[.val (.ref a), .val (.int (0 : Int32)), .val (.int (Int32.ofNat cs.length)), .val (.ref h0.size), .unset, .unset] [(.int (Int32.ofNat i))]))
  refine blk X2 hby b34 (pc' := 17) (Ls' := #[.val (.ref a), .val (.int (0 : Int32)), .val (.int (Int32.ofNat cs.length)), .val (.ref h0.size), .val (.int (Int32.ofNat i)), .unset]) (st' := [(.int (Int32.ofNat cs.length)), (.int (Int32.ofNat i))]) rfl ?_
  refine brI X2 hby d_jdk_52_method_16_code_17 (pc1 := 57) (by decide) (fun hc => ?_) (fun hc => ?_)
  · replace hc := eqT hc
    show Go _ _ _ _ (T2.setTop (mkF m 57 #[.val (.ref a), .val (.int (0 : Int32)), .val (.int (Int32.ofNat cs.length)), .val (.ref h0.size), .val (.int (Int32.ofNat i)), .unset] []))
    obtain rfl := (eq32 (by omega) hL).mp hc
    have hys : ys = cs.map lo8 := list_of_getD (by rw [q4, List.length_map]) (fun j hj => by rw [getD_map (by omega)]; exact (q5 j (by omega)).2)
    subst hys
    show Go _ _ _ _ (T2.setTop (mkF m 57 #[.val (.ref a), .val (.int (0 : Int32)), .val (.int (Int32.ofNat cs.length)), .val (.ref h0.size), .val (.int (Int32.ofNat cs.length)), .unset] []))
    refine blk X2 hby b35 (pc' := 58) (Ls' := #[.val (.ref a), .val (.int (0 : Int32)), .val (.int (Int32.ofNat cs.length)), .val (.ref h0.size), .val (.int (Int32.ofNat cs.length)), .unset]) (st' := [(.ref h0.size)]) rfl ?_
    exact retA' X2 hby hret d_jdk_52_method_16_code_58 rfl (fun S' hS' => ⟨_, rfl, Nat.le_refl _, K0, hS' _ (sS2 _ V1.lt sn1), Or.inl ⟨q3, fun c hc => by obtain ⟨j, hj, e⟩ := List.mem_iff_getElem.mp hc; have := (q5 j (by omega)).1; rwa [show cs.getD j 0 = c by simp [List.getD_eq_getElem?_getD, hj, e]] at this⟩⟩)
  · replace hc := eqF hc
    show Go _ _ _ _ (T2.setTop (mkF m 20 #[.val (.ref a), .val (.int (0 : Int32)), .val (.int (Int32.ofNat cs.length)), .val (.ref h0.size), .val (.int (Int32.ofNat i)), .unset] []))
    have hil : i < cs.length := Nat.lt_of_le_of_ne q1 (fun z => hc (by rw [z]))
    refine blk X2 hby b36 (pc' := 23) (Ls' := #[.val (.ref a), .val (.int (0 : Int32)), .val (.int (Int32.ofNat cs.length)), .val (.ref h0.size), .val (.int (Int32.ofNat i)), .unset]) (st' := [(.int (Int32.ofNat cs.length)), (.int (0 : Int32)), (.ref a)]) rfl ?_
    refine gStatic X2 hby (argsL := [(.ref a), (.int (0 : Int32)), (.int (Int32.ofNat cs.length))]) (st := []) (ct_toB hw hEL X2.old U (VA.keep K0 nin0) hcap) (hw _ (List.mem_of_getElem? (i := 110) rfl)) (hw _ (List.mem_of_getElem? (i := 111) rfl)) (hw _ (List.mem_of_getElem? (i := 39) rfl)) (hw _ (List.mem_of_getElem? (i := 112) rfl)) pd___CII__B rfl d_jdk_52_method_16_code_23 rfl (by rw [hml]; rfl) all0 (by decide) (Nat.le_of_ble_eq_true rfl) (by decide) (by decide) (fun v3 T3 h3 S3 X3 q3 sS3 sz3 => ?_)
    obtain ⟨rfl, r1, r2, r3⟩ := q3
    show Go _ _ _ _ (T3.setTop (mkF m 26 #[.val (.ref a), .val (.int (0 : Int32)), .val (.int (Int32.ofNat cs.length)), .val (.ref h0.size), .val (.int (Int32.ofNat i)), .unset] [(.ref h2.size)]))
    refine blk X3 hby b37 (pc' := 32) (Ls' := #[.val (.ref a), .val (.int (0 : Int32)), .val (.int (Int32.ofNat cs.length)), .val (.ref h0.size), .val (.int (Int32.ofNat i)), .val (.ref h2.size)]) (st' := [(.int (Int32.ofNat i)), (.ref h2.size)]) rfl ?_
    refine gStatic X3 hby (argsL := [(.ref h2.size), (.int (Int32.ofNat i))]) (st := []) (ct_get hw hEL X3.old U r2 hil hR) (hw _ (List.mem_of_getElem? (i := 126) rfl)) (hw _ (List.mem_of_getElem? (i := 127) rfl)) (hw _ (List.mem_of_getElem? (i := 39) rfl)) (hw _ (List.mem_of_getElem? (i := 128) rfl)) pd___BI_C rfl d_jdk_52_method_16_code_32 rfl (by rw [hml]; rfl) all0 (by decide) (Nat.le_of_ble_eq_true rfl) (by decide) (by decide) (fun v4 T4 h4 S4 X4 q4 sS4 sz4 => ?_)
    obtain ⟨rfl, rfl⟩ := q4
    show Go _ _ _ _ (T4.setTop (mkF m 35 #[.val (.ref a), .val (.int (0 : Int32)), .val (.int (Int32.ofNat cs.length)), .val (.ref h0.size), .val (.int (Int32.ofNat i)), .val (.ref h2.size)] [(.int (cs.getD i 0))]))
    refine blk X4 hby b38 (pc' := 38) (Ls' := #[.val (.ref a), .val (.int (0 : Int32)), .val (.int (Int32.ofNat cs.length)), .val (.ref h0.size), .val (.int (Int32.ofNat i)), .val (.ref h2.size)]) (st' := [(.int (255 : Int32)), (.int (cs.getD i 0))]) rfl ?_
    refine brI X4 hby d_jdk_52_method_16_code_38 (pc1 := 54) (by decide) (fun hd => ?_) (fun hd => absurd (gtF hd) (fun q => q (q6 hil)))
    show Go _ _ _ _ (T4.setTop (mkF m 54 #[.val (.ref a), .val (.int (0 : Int32)), .val (.int (Int32.ofNat cs.length)), .val (.ref h0.size), .val (.int (Int32.ofNat i)), .val (.ref h2.size)] []))
    refine blk X4 hby b39 (pc' := 56) (Ls' := #[.val (.ref a), .val (.int (0 : Int32)), .val (.int (Int32.ofNat cs.length)), .val (.ref h0.size), .val (.int (Int32.ofNat i)), .val (.ref h2.size)]) (st' := [(.ref h2.size)]) rfl ?_
    exact retA' X4 hby hret d_jdk_52_method_16_code_56 rfl (fun S' hS' => ⟨_, rfl, K0.1, K0.trans r1 (fun x hx => nomatch hx), hS' _ (sS4 _ r2.lt r3), Or.inr ⟨r2, _, getD_mem hil, q6 hil⟩⟩)
theorem ef_jdk_52_method_15_code (m : MethodId) (x0 : Addr) (x1 : Int32) : entryFrame m #[(.ref x0), (.int x1)] 2 = mkF m 0 #[.val (.ref x0), .val (.int x1)] [] := by first | (simp [entryFrame, mkF, argsToLocals, Value.category]; done) | rfl
theorem b40 : decs jdk_52_method_15_code 0 [.iload_n 1, .aload_n 0] = true := by decide +kernel
theorem d_jdk_52_method_15_code_2 : decode jdk_52_method_15_code 2 = .ok (.arraylength, 1) := by decide +kernel
theorem b41 : decs jdk_52_method_15_code 3 [.isub, .bipush 31, .iushr, .i2b] = true := by decide +kernel
theorem d_jdk_52_method_15_code_8 : decode jdk_52_method_15_code 8 = .ok (.ireturn, 1) := by decide +kernel
def QCL (h0 : Heap) (ys : List Int32) (n : Int32) (v : Option Value) (h : Heap) (S : Addr → Prop) : Prop := v = some (.int (lo8 (XT.ushr (n - Int32.ofNat ys.length) (31 : Int32)))) ∧ h0 = h
set_option maxRecDepth 65536 in
set_option maxHeartbeats 40000000 in
theorem ct_cfl {h0 : Heap} {d : Addr} {ys : List Int32} {n : Int32} (hw : ∀ d ∈ tables_1, d.before a0 Z = true) (hEL : EW Z a0 EL) (hO : Old Z Z.heap.size h0) (VD : Ari Z h0 d .byte ys) :
    Ct true false Z EL l (⟨"java/lang/StringUTF16", "coderFromArrayLen", "([BI)B"⟩ : MethodName) jdk_52_method_15_code 2 (some .byte) ({ frames := 0, cells := 0, slots := 0, locals := 0 } : Room) #[(.ref d), (.int n)] h0 [] (QCL h0 ys n) := by
  refine ctOf (plainFor_of_name pn_java_lang_StringUTF16) hO hEL ?_
  intro p e s m below meth c s₁ S0 X0 hby hml hret hnm hsf
  refine Go.entry (ef_jdk_52_method_15_code m d n) ?_
  show Go _ _ _ _ (s₁.setTop (mkF m 0 #[.val (.ref d), .val (.int n)] []))
  refine blk X0 hby b40 (pc' := 2) (Ls' := #[.val (.ref d), .val (.int n)]) (st' := [(.ref d), (.int n)]) rfl ?_
  refine gLen X0 hby VD d_jdk_52_method_15_code_2 ?_
  show Go _ _ _ _ (s₁.setTop (mkF m 3 #[.val (.ref d), .val (.int n)] [(.int (Int32.ofNat ys.length)), (.int n)]))
  refine blk X0 hby b41 (pc' := 8) (Ls' := #[.val (.ref d), .val (.int n)]) (st' := [(.int (lo8 (XT.ushr (n - (Int32.ofNat ys.length)) (31 : Int32))))]) rfl ?_
  exact retI' X0 hby hret d_jdk_52_method_15_code_8 (XT.narrow_b _) (fun S' hS' => ⟨rfl, rfl⟩)
theorem pn_java_lang_String : plainName "java/lang/String" = true := by first | (simp [plainName, overriddenIn]; done) | decide +kernel
theorem ef_jdk_42_method_149_code (m : MethodId) (x0 : Addr) (x1 : Addr) (x2 : Int32) (x3 : Int32) : entryFrame m #[(.ref x0), (.ref x1), (.int x2), (.int x3), .null] 6 = mkF m 0 #[.val (.ref x0), .val (.ref x1), .val (.int x2), .val (.int x3), .val .null, .unset] [] := by first | (simp [entryFrame, mkF, argsToLocals, Value.category]; done) | rfl
theorem b42 : decs jdk_42_method_149_code 0 [.aload_n 0] = true := by decide +kernel
theorem d_jdk_42_method_149_code_1 : decode jdk_42_method_149_code 1 = .ok (.invokespecial 1, 3) := by decide +kernel
theorem b43 : decs jdk_42_method_149_code 4 [.iload_n 3] = true := by decide +kernel
theorem d_jdk_42_method_149_code_5 : decode jdk_42_method_149_code 5 = .ok (.ifCond .ne 22, 3) := by decide +kernel
theorem d_jdk_42_method_149_code_27 : decode jdk_42_method_149_code 27 = .ok (.getstatic 38, 3) := by decide +kernel
theorem d_jdk_42_method_149_code_30 : decode jdk_42_method_149_code 30 = .ok (.ifCond .eq 28, 3) := by decide +kernel
theorem b44 : decs jdk_42_method_149_code 33 [.aload_n 1, .iload_n 2, .iload_n 3] = true := by decide +kernel
theorem d_jdk_42_method_149_code_36 : decode jdk_42_method_149_code 36 = .ok (.invokestatic 177, 3) := by decide +kernel
theorem b45 : decs jdk_42_method_149_code 39 [.astore 5, .aload_n 0, .aload 5, .iload_n 3] = true := by decide +kernel
theorem d_jdk_42_method_149_code_45 : decode jdk_42_method_149_code 45 = .ok (.invokestatic 47, 3) := by decide +kernel
theorem pd___BI_B : parseMethodDescriptor "([BI)B" = some ⟨[(.array .byte), .int], (some .byte)⟩ := by decide +kernel
theorem d_jdk_42_method_149_code_48 : decode jdk_42_method_149_code 48 = .ok (.putfield 15, 3) := by decide +kernel
theorem b46 : decs jdk_42_method_149_code 51 [.aload_n 0, .aload 5] = true := by decide +kernel
theorem d_jdk_42_method_149_code_54 : decode jdk_42_method_149_code 54 = .ok (.putfield 9, 3) := by decide +kernel
theorem d_jdk_42_method_149_code_57 : decode jdk_42_method_149_code 57 = .ok (.return_, 1) := by decide +kernel
theorem b47 : decs jdk_42_method_149_code 51 [.aload_n 0, .aload 5] = true := by decide +kernel
theorem b48 : decs jdk_42_method_149_code 8 [.aload_n 0] = true := by decide +kernel
theorem d_jdk_42_method_149_code_9 : decode jdk_42_method_149_code 9 = .ok (.ldc 7, 2) := by decide +kernel
theorem d_jdk_42_method_149_code_11 : decode jdk_42_method_149_code 11 = .ok (.getfield 9, 3) := by decide +kernel
theorem d_jdk_42_method_149_code_14 : decode jdk_42_method_149_code 14 = .ok (.putfield 9, 3) := by decide +kernel
theorem b49 : decs jdk_42_method_149_code 17 [.aload_n 0] = true := by decide +kernel
theorem d_jdk_42_method_149_code_18 : decode jdk_42_method_149_code 18 = .ok (.ldc 7, 2) := by decide +kernel
theorem d_jdk_42_method_149_code_20 : decode jdk_42_method_149_code 20 = .ok (.getfield 15, 3) := by decide +kernel
theorem d_jdk_42_method_149_code_23 : decode jdk_42_method_149_code 23 = .ok (.putfield 15, 3) := by decide +kernel
theorem d_jdk_42_method_149_code_26 : decode jdk_42_method_149_code 26 = .ok (.return_, 1) := by decide +kernel
def QS (Z : State) (h0 : Heap) (x : Addr) (cs : List Int32) (v : Option Value) (h : Heap) (S : Addr → Prop) : Prop := v = none ∧ Keep h0 h [x] ∧ ∃ b, Str Z h x b cs ∧ (h0.size ≤ b ∨ cs = [])
set_option maxRecDepth 65536 in
set_option maxHeartbeats 40000000 in
theorem ct_init4 {h0 : Heap} {x a : Addr} {cs : List Int32} {v0 c0 : Value} {zc : Int32} (hw : ∀ d ∈ tables_1, d.before a0 Z = true) (hEL : EW Z a0 EL) (hO : Old Z Z.heap.size h0) (U : US Z zc)(E : Exa Z h0 x "java/lang/String") (FV : Fld Z h0 x "java/lang/String" "value" "[B" v0) (FC : Fld Z h0 x "java/lang/String" "coder" "B" c0) (VA : Ari Z h0 a .char cs) (gx : Z.heap.size ≤ x) (hcap : cs.length ≤ 4) :
    Ct true false Z EL l (⟨"java/lang/String", "<init>", "([CIILjava/lang/Void;)V"⟩ : MethodName) jdk_42_method_149_code 6 none ({ frames := 4, cells := 4, slots := 12, locals := 66 } : Room) #[(.ref x), (.ref a), (.int (0 : Int32)), (.int (Int32.ofNat cs.length)), .null] h0 [x] (QS Z h0 x cs) := by
  refine ctOf (plainFor_of_name pn_java_lang_String) hO hEL ?_
  intro p e s m below meth c s₁ S0 X0 hby hml hret hnm hsf
  refine Go.entry (ef_jdk_42_method_149_code m x a (0 : Int32) (Int32.ofNat cs.length)) ?_
  show Go _ _ _ _ (s₁.setTop (mkF m 0 #[.val (.ref x), .val (.ref a), .val (.int (0 : Int32)), .val (.int (Int32.ofNat cs.length)), .val .null, .unset] []))
  have nvc : Jvm.RoadKit.slotOf Z "java/lang/String" "value" "[B" ≠ Jvm.RoadKit.slotOf Z "java/lang/String" "coder" "B" := slot_ne (t := .array .byte) (t' := .byte) (Or.inr (hw _ (List.mem_of_getElem? (i := 21) rfl))) (Or.inr (hw _ (List.mem_of_getElem? (i := 22) rfl))) (by decide) (by decide) (by decide)
  refine blk X0 hby b42 (pc' := 1) (Ls' := #[.val (.ref x), .val (.ref a), .val (.int (0 : Int32)), .val (.int (Int32.ofNat cs.length)), .val .null, .unset]) (st' := [(.ref x)]) rfl ?_
  refine gInitO X0 hby (hw _ (List.mem_of_getElem? (i := 16) rfl)) (hw _ (List.mem_of_getElem? (i := 17) rfl)) (hw _ (List.mem_of_getElem? (i := 18) rfl)) (by rw [hml]; rfl) d_jdk_42_method_149_code_1 (by decide) (Nat.le_of_ble_eq_true rfl) (fun T1 X1 => ?_)
  show Go _ _ _ _ (T1.setTop (mkF m 4 #[.val (.ref x), .val (.ref a), .val (.int (0 : Int32)), .val (.int (Int32.ofNat cs.length)), .val .null, .unset] []))
  refine blk X1 hby b43 (pc' := 5) (Ls' := #[.val (.ref x), .val (.ref a), .val (.int (0 : Int32)), .val (.int (Int32.ofNat cs.length)), .val .null, .unset]) (st' := [(.int (Int32.ofNat cs.length))]) rfl ?_
  refine br0 X1 hby d_jdk_42_method_149_code_5 (pc1 := 27) (by decide) (fun hc => ?_) (fun hc => ?_)
  · replace hc := neT hc
    show Go _ _ _ _ (T1.setTop (mkF m 27 #[.val (.ref x), .val (.ref a), .val (.int (0 : Int32)), .val (.int (Int32.ofNat cs.length)), .val .null, .unset] []))
    have hL := VA.len
    have hpos : 0 < cs.length := Nat.pos_of_ne_zero (fun z => hc (by rw [z]; rfl))
    refine gGetS X1 hby (hw _ (List.mem_of_getElem? (i := 36) rfl)) Via.refl U.cs d_jdk_42_method_149_code_27 (fun T2 X2 => ?_)
    show Go _ _ _ _ (T2.setTop (mkF m 30 #[.val (.ref x), .val (.ref a), .val (.int (0 : Int32)), .val (.int (Int32.ofNat cs.length)), .val .null, .unset] [(.int zc)]))
    refine br0 X2 hby d_jdk_42_method_149_code_30 (pc1 := 58) (by decide) (fun hz => absurd (eqT hz) (U.nz)) (fun hz => ?_)
    show Go _ _ _ _ (T2.setTop (mkF m 33 #[.val (.ref x), .val (.ref a), .val (.int (0 : Int32)), .val (.int (Int32.ofNat cs.length)), .val .null, .unset] []))
    refine blk X2 hby b44 (pc' := 36) (Ls' := #[.val (.ref x), .val (.ref a), .val (.int (0 : Int32)), .val (.int (Int32.ofNat cs.length)), .val .null, .unset]) (st' := [(.int (Int32.ofNat cs.length)), (.int (0 : Int32)), (.ref a)]) rfl ?_
    refine gStatic X2 hby (argsL := [(.ref a), (.int (0 : Int32)), (.int (Int32.ofNat cs.length))]) (st := []) (ct_cmp3 hw hEL X2.old U VA hcap) (hw _ (List.mem_of_getElem? (i := 37) rfl)) (hw _ (List.mem_of_getElem? (i := 38) rfl)) (hw _ (List.mem_of_getElem? (i := 39) rfl)) (hw _ (List.mem_of_getElem? (i := 40) rfl)) pd___CII__B rfl d_jdk_42_method_149_code_36 rfl (by rw [hml]; rfl) all0 (by decide) (Nat.le_of_ble_eq_true rfl) (by decide) (by decide) (fun v3 T3 h3 S3 X3 q3 sS3 sz3 => ?_)
    obtain ⟨b, rfl, q0, q1, q3, q4⟩ := q3
    show Go _ _ _ _ (T3.setTop (mkF m 39 #[.val (.ref x), .val (.ref a), .val (.int (0 : Int32)), .val (.int (Int32.ofNat cs.length)), .val .null, .unset] [(.ref b)]))
    refine blk X3 hby b45 (pc' := 45) (Ls' := #[.val (.ref x), .val (.ref a), .val (.int (0 : Int32)), .val (.int (Int32.ofNat cs.length)), .val .null, .val (.ref b)]) (st' := [(.int (Int32.ofNat cs.length)), (.ref b), (.ref x)]) rfl ?_
    have nb : b ≠ x := fun z => absurd E.lt (Nat.not_lt.mpr (z ▸ q0))
    rcases q4 with ⟨q2, hlat⟩ | ⟨q2, hlat⟩
    · skip
      show Go _ _ _ _ (T3.setTop (mkF m 45 #[.val (.ref x), .val (.ref a), .val (.int (0 : Int32)), .val (.int (Int32.ofNat cs.length)), .val .null, .val (.ref b)] [(.int (Int32.ofNat cs.length)), (.ref b), (.ref x)]))
      refine gStatic X3 hby (argsL := [(.ref b), (.int (Int32.ofNat cs.length))]) (st := [(.ref x)]) (ct_cfl hw hEL X3.old q2) (hw _ (List.mem_of_getElem? (i := 44) rfl)) (hw _ (List.mem_of_getElem? (i := 45) rfl)) (hw _ (List.mem_of_getElem? (i := 39) rfl)) (hw _ (List.mem_of_getElem? (i := 46) rfl)) pd___BI_B rfl d_jdk_42_method_149_code_45 rfl (by rw [hml]; rfl) all0 (by decide) (Nat.le_of_ble_eq_true rfl) (by decide) (by decide) (fun v4 T4 h4 S4 X4 q4 sS4 sz4 => ?_)
      obtain ⟨rfl, rfl⟩ := q4
      show Go _ _ _ _ (T4.setTop (mkF m 48 #[.val (.ref x), .val (.ref a), .val (.int (0 : Int32)), .val (.int (Int32.ofNat cs.length)), .val .null, .val (.ref b)] [(.int (lo8 (XT.ushr (Int32.ofNat cs.length - Int32.ofNat (cs.map lo8).length) (31 : Int32)))), (.ref x)]))
      rw [show (lo8 (XT.ushr (Int32.ofNat cs.length - Int32.ofNat (cs.map lo8).length) (31 : Int32))) = (0 : Int32) by rw [List.length_map, cfl0]]
      show Go _ _ _ _ (T4.setTop (mkF m 48 #[.val (.ref x), .val (.ref a), .val (.int (0 : Int32)), .val (.int (Int32.ofNat cs.length)), .val .null, .val (.ref b)] [(.int (0 : Int32)), (.ref x)]))
      have hxs : S4 x := sS4 x (Nat.lt_of_lt_of_le E.lt q1.1) (sS3 x E.lt (hsf x (by simp)))
      refine gPutF X4 hby (hw _ (List.mem_of_getElem? (i := 26) rfl)) Via.refl (FC.keep q1 nin0) (E.keep q1) (Or.inr ⟨(hw _ (List.mem_of_getElem? (i := 22) rfl)), rfl, hnm⟩) (hw _ (List.mem_of_getElem? (i := 6) rfl)) (ty := .byte) (by decide) rfl rfl gx hxs d_jdk_42_method_149_code_48 (fun T5 h5 S5 X5 W5 sS5 => ?_)
      show Go _ _ _ _ (T5.setTop (mkF m 51 #[.val (.ref x), .val (.ref a), .val (.int (0 : Int32)), .val (.int (Int32.ofNat cs.length)), .val .null, .val (.ref b)] []))
      refine blk X5 hby b46 (pc' := 54) (Ls' := #[.val (.ref x), .val (.ref a), .val (.int (0 : Int32)), .val (.int (Int32.ofNat cs.length)), .val .null, .val (.ref b)]) (st' := [(.ref b), (.ref x)]) rfl ?_
      refine gPutF X5 hby (hw _ (List.mem_of_getElem? (i := 25) rfl)) Via.refl ((FV.keep q1 nin0).other W5 (Or.inr nvc)) ((E.keep q1).wr W5) (Or.inr ⟨(hw _ (List.mem_of_getElem? (i := 21) rfl)), rfl, hnm⟩) (hw _ (List.mem_of_getElem? (i := 6) rfl)) (ty := (.array .byte)) (by decide) rfl rfl gx (sS5 x hxs) d_jdk_42_method_149_code_54 (fun T6 h6 S6 X6 W6 sS6 => ?_)
      show Go _ _ _ _ (T6.setTop (mkF m 57 #[.val (.ref x), .val (.ref a), .val (.int (0 : Int32)), .val (.int (Int32.ofNat cs.length)), .val .null, .val (.ref b)] []))
      exact retV' X6 hby hret d_jdk_42_method_149_code_57 (fun S' hS' => ⟨rfl, ((keep_more q1 : Keep h0 _ [x]).wr W5 (Or.inl (by simp))).wr W6 (Or.inl (by simp)), b, ⟨((E.keep q1).wr W5).wr W6, ((FV.keep q1 nin0).other W5 (Or.inr nvc)).same W6, VA.chars, Or.inl ⟨((FC.keep q1 nin0).same W5).other W6 (Or.inr (Ne.symm nvc)), (q2.other W5 nb).other W6 nb, hlat⟩⟩, Or.inl q0⟩)
    · skip
      show Go _ _ _ _ (T3.setTop (mkF m 45 #[.val (.ref x), .val (.ref a), .val (.int (0 : Int32)), .val (.int (Int32.ofNat cs.length)), .val .null, .val (.ref b)] [(.int (Int32.ofNat cs.length)), (.ref b), (.ref x)]))
      refine gStatic X3 hby (argsL := [(.ref b), (.int (Int32.ofNat cs.length))]) (st := [(.ref x)]) (ct_cfl hw hEL X3.old q2) (hw _ (List.mem_of_getElem? (i := 44) rfl)) (hw _ (List.mem_of_getElem? (i := 45) rfl)) (hw _ (List.mem_of_getElem? (i := 39) rfl)) (hw _ (List.mem_of_getElem? (i := 46) rfl)) pd___BI_B rfl d_jdk_42_method_149_code_45 rfl (by rw [hml]; rfl) all0 (by decide) (Nat.le_of_ble_eq_true rfl) (by decide) (by decide) (fun v4 T4 h4 S4 X4 q4 sS4 sz4 => ?_)
      obtain ⟨rfl, rfl⟩ := q4
      show Go _ _ _ _ (T4.setTop (mkF m 48 #[.val (.ref x), .val (.ref a), .val (.int (0 : Int32)), .val (.int (Int32.ofNat cs.length)), .val .null, .val (.ref b)] [(.int (lo8 (XT.ushr (Int32.ofNat cs.length - Int32.ofNat (u16 cs).length) (31 : Int32)))), (.ref x)]))
      rw [show (lo8 (XT.ushr (Int32.ofNat cs.length - Int32.ofNat (u16 cs).length) (31 : Int32))) = (1 : Int32) by rw [u16_length, cfl1 hpos (by have := q2.len; rw [u16_length] at this; omega)]]
      show Go _ _ _ _ (T4.setTop (mkF m 48 #[.val (.ref x), .val (.ref a), .val (.int (0 : Int32)), .val (.int (Int32.ofNat cs.length)), .val .null, .val (.ref b)] [(.int (1 : Int32)), (.ref x)]))
      have hxs : S4 x := sS4 x (Nat.lt_of_lt_of_le E.lt q1.1) (sS3 x E.lt (hsf x (by simp)))
      refine gPutF X4 hby (hw _ (List.mem_of_getElem? (i := 26) rfl)) Via.refl (FC.keep q1 nin0) (E.keep q1) (Or.inr ⟨(hw _ (List.mem_of_getElem? (i := 22) rfl)), rfl, hnm⟩) (hw _ (List.mem_of_getElem? (i := 6) rfl)) (ty := .byte) (by decide) rfl rfl gx hxs d_jdk_42_method_149_code_48 (fun T5 h5 S5 X5 W5 sS5 => ?_)
      show Go _ _ _ _ (T5.setTop (mkF m 51 #[.val (.ref x), .val (.ref a), .val (.int (0 : Int32)), .val (.int (Int32.ofNat cs.length)), .val .null, .val (.ref b)] []))
      refine blk X5 hby b47 (pc' := 54) (Ls' := #[.val (.ref x), .val (.ref a), .val (.int (0 : Int32)), .val (.int (Int32.ofNat cs.length)), .val .null, .val (.ref b)]) (st' := [(.ref b), (.ref x)]) rfl ?_
      refine gPutF X5 hby (hw _ (List.mem_of_getElem? (i := 25) rfl)) Via.refl ((FV.keep q1 nin0).other W5 (Or.inr nvc)) ((E.keep q1).wr W5) (Or.inr ⟨(hw _ (List.mem_of_getElem? (i := 21) rfl)), rfl, hnm⟩) (hw _ (List.mem_of_getElem? (i := 6) rfl)) (ty := (.array .byte)) (by decide) rfl rfl gx (sS5 x hxs) d_jdk_42_method_149_code_54 (fun T6 h6 S6 X6 W6 sS6 => ?_)
      show Go _ _ _ _ (T6.setTop (mkF m 57 #[.val (.ref x), .val (.ref a), .val (.int (0 : Int32)), .val (.int (Int32.ofNat cs.length)), .val .null, .val (.ref b)] []))
      exact retV' X6 hby hret d_jdk_42_method_149_code_57 (fun S' hS' => ⟨rfl, ((keep_more q1 : Keep h0 _ [x]).wr W5 (Or.inl (by simp))).wr W6 (Or.inl (by simp)), b, ⟨((E.keep q1).wr W5).wr W6, ((FV.keep q1 nin0).other W5 (Or.inr nvc)).same W6, VA.chars, Or.inr ⟨((FC.keep q1 nin0).same W5).other W6 (Or.inr (Ne.symm nvc)), (q2.other W5 nb).other W6 nb, hlat⟩⟩, Or.inl q0⟩)
  · replace hc := neF hc
    show Go _ _ _ _ (T1.setTop (mkF m 8 #[.val (.ref x), .val (.ref a), .val (.int (0 : Int32)), .val (.int (Int32.ofNat cs.length)), .val .null, .unset] []))
    have hcs : cs = [] := List.length_eq_zero_iff.mp ((eq32 VA.len (by omega)).mp hc)
    subst hcs
    show Go _ _ _ _ (T1.setTop (mkF m 8 #[.val (.ref x), .val (.ref a), .val (.int (0 : Int32)), .val (.int (Int32.ofNat ([] : List Int32).length)), .val .null, .unset] []))
    refine blk X1 hby b48 (pc' := 9) (Ls' := #[.val (.ref x), .val (.ref a), .val (.int (0 : Int32)), .val (.int (Int32.ofNat ([] : List Int32).length)), .val .null, .unset]) (st' := [(.ref x)]) rfl ?_
    refine gLdc X1 hby (hw _ (List.mem_of_getElem? (i := 19) rfl)) (fun d hd => hw d (strIn d hd)) (by decide) (xs := []) (by decide) (by decide) (by decide) d_jdk_42_method_149_code_9 (n := 0) (by decide) (by decide) (by decide) (by decide) (fun T2 h2 S2 c2 b2 X2 E2 A2 F2 G2 V2 sS2 sn2 => ?_)
    show Go _ _ _ _ (T2.setTop (mkF m 11 #[.val (.ref x), .val (.ref a), .val (.int (0 : Int32)), .val (.int (Int32.ofNat ([] : List Int32).length)), .val .null, .unset] [(.ref c2), (.ref x)]))
    have hx2 : S2 x := sS2 x E.lt (hsf x (by simp))
    refine gGetF X2 hby (hw _ (List.mem_of_getElem? (i := 25) rfl)) Via.refl G2 d_jdk_42_method_149_code_11 (fun T3 X3 => ?_)
    show Go _ _ _ _ (T3.setTop (mkF m 14 #[.val (.ref x), .val (.ref a), .val (.int (0 : Int32)), .val (.int (Int32.ofNat ([] : List Int32).length)), .val .null, .unset] [(.ref b2), (.ref x)]))
    refine gPutF X3 hby (hw _ (List.mem_of_getElem? (i := 25) rfl)) Via.refl (FV.ext E2) (E.ext E2) (Or.inr ⟨(hw _ (List.mem_of_getElem? (i := 21) rfl)), rfl, hnm⟩) (hw _ (List.mem_of_getElem? (i := 6) rfl)) (ty := (.array .byte)) (by decide) rfl rfl gx hx2 d_jdk_42_method_149_code_14 (fun T4 h4 S4 X4 W4 sS4 => ?_)
    show Go _ _ _ _ (T4.setTop (mkF m 17 #[.val (.ref x), .val (.ref a), .val (.int (0 : Int32)), .val (.int (Int32.ofNat ([] : List Int32).length)), .val .null, .unset] []))
    have FV4 := (FV.ext E2).same W4
    have FC4 := (FC.ext E2).other W4 (Or.inr (Ne.symm nvc))
    have E4' := (E.ext E2).wr W4
    have V4' := V2.other W4 (Ne.symm (sn2 x hx2).2)
    refine blk X4 hby b49 (pc' := 18) (Ls' := #[.val (.ref x), .val (.ref a), .val (.int (0 : Int32)), .val (.int (Int32.ofNat ([] : List Int32).length)), .val .null, .unset]) (st' := [(.ref x)]) rfl ?_
    refine gLdc X4 hby (hw _ (List.mem_of_getElem? (i := 19) rfl)) (fun d hd => hw d (strIn d hd)) (by decide) (xs := []) (by decide) (by decide) (by decide) d_jdk_42_method_149_code_18 (n := 0) (by decide) (by decide) (by decide) (by decide) (fun T5 h5 S5 c5 b5 X5 E5 A5 F5 G5 V5 sS5 sn5 => ?_)
    show Go _ _ _ _ (T5.setTop (mkF m 20 #[.val (.ref x), .val (.ref a), .val (.int (0 : Int32)), .val (.int (Int32.ofNat ([] : List Int32).length)), .val .null, .unset] [(.ref c5), (.ref x)]))
    have hx5 : S5 x := sS5 x E4'.lt (sS4 x hx2)
    refine gGetF X5 hby (hw _ (List.mem_of_getElem? (i := 26) rfl)) Via.refl F5 d_jdk_42_method_149_code_20 (fun T6 X6 => ?_)
    show Go _ _ _ _ (T6.setTop (mkF m 23 #[.val (.ref x), .val (.ref a), .val (.int (0 : Int32)), .val (.int (Int32.ofNat ([] : List Int32).length)), .val .null, .unset] [(.int (0 : Int32)), (.ref x)]))
    refine gPutF X6 hby (hw _ (List.mem_of_getElem? (i := 26) rfl)) Via.refl (FC4.ext E5) (E4'.ext E5) (Or.inr ⟨(hw _ (List.mem_of_getElem? (i := 22) rfl)), rfl, hnm⟩) (hw _ (List.mem_of_getElem? (i := 6) rfl)) (ty := .byte) (by decide) rfl rfl gx hx5 d_jdk_42_method_149_code_23 (fun T7 h7 S7 X7 W7 sS7 => ?_)
    show Go _ _ _ _ (T7.setTop (mkF m 26 #[.val (.ref x), .val (.ref a), .val (.int (0 : Int32)), .val (.int (Int32.ofNat ([] : List Int32).length)), .val .null, .unset] []))
    exact retV' X7 hby hret d_jdk_42_method_149_code_26 (fun S' hS' => ⟨rfl, ((((Keep.refl h0 [x]).ext E2).wr W4 (Or.inl (by simp))).ext E5).wr W7 (Or.inl (by simp)), b2, ⟨(E4'.ext E5).wr W7, (FV4.ext E5).other W7 (Or.inr nvc), (fun c hc => nomatch hc), Or.inl ⟨(FC4.ext E5).same W7, (V4'.ext E5).other W7 (fun z => (sn2 x hx2).2 z.symm), (fun c hc => nomatch hc)⟩⟩, Or.inr rfl⟩)
theorem ef_jdk_42_method_3_code (m : MethodId) (x0 : Addr) (x1 : Addr) : entryFrame m #[(.ref x0), (.ref x1)] 2 = mkF m 0 #[.val (.ref x0), .val (.ref x1)] [] := by first | (simp [entryFrame, mkF, argsToLocals, Value.category]; done) | rfl
theorem b50 : decs jdk_42_method_3_code 0 [.aload_n 0, .aload_n 1, .iconst 0, .aload_n 1] = true := by decide +kernel
theorem d_jdk_42_method_3_code_4 : decode jdk_42_method_3_code 4 = .ok (.arraylength, 1) := by decide +kernel
theorem b51 : decs jdk_42_method_3_code 5 [.aconst_null] = true := by decide +kernel
theorem d_jdk_42_method_3_code_6 : decode jdk_42_method_3_code 6 = .ok (.invokespecial 27, 3) := by decide +kernel
theorem pd___CIILjava_lang_Void__V : parseMethodDescriptor "([CIILjava/lang/Void;)V" = some ⟨[(.array .char), .int, .int, (.object "java/lang/Void")], none⟩ := by decide +kernel
theorem d_jdk_42_method_3_code_9 : decode jdk_42_method_3_code 9 = .ok (.return_, 1) := by decide +kernel
set_option maxRecDepth 65536 in
set_option maxHeartbeats 40000000 in
theorem ct_init1 {h0 : Heap} {x a : Addr} {cs : List Int32} {v0 c0 : Value} {zc : Int32} (hw : ∀ d ∈ tables_1, d.before a0 Z = true) (hEL : EW Z a0 EL) (hO : Old Z Z.heap.size h0) (U : US Z zc)(E : Exa Z h0 x "java/lang/String") (FV : Fld Z h0 x "java/lang/String" "value" "[B" v0) (FC : Fld Z h0 x "java/lang/String" "coder" "B" c0) (VA : Ari Z h0 a .char cs) (gx : Z.heap.size ≤ x) (hcap : cs.length ≤ 4) :
    Ct true false Z EL l (⟨"java/lang/String", "<init>", "([C)V"⟩ : MethodName) jdk_42_method_3_code 2 none ({ frames := 5, cells := 4, slots := 12, locals := 84 } : Room) #[(.ref x), (.ref a)] h0 [x] (QS Z h0 x cs) := by
  refine ctOf (plainFor_of_name pn_java_lang_String) hO hEL ?_
  intro p e s m below meth c s₁ S0 X0 hby hml hret hnm hsf
  refine Go.entry (ef_jdk_42_method_3_code m x a) ?_
  show Go _ _ _ _ (s₁.setTop (mkF m 0 #[.val (.ref x), .val (.ref a)] []))
  refine blk X0 hby b50 (pc' := 4) (Ls' := #[.val (.ref x), .val (.ref a)]) (st' := [(.ref a), (.int (0 : Int32)), (.ref a), (.ref x)]) rfl ?_
  refine gLen X0 hby VA d_jdk_42_method_3_code_4 ?_
  show Go _ _ _ _ (s₁.setTop (mkF m 5 #[.val (.ref x), .val (.ref a)] [(.int (Int32.ofNat cs.length)), (.int (0 : Int32)), (.ref a), (.ref x)]))
  refine blk X0 hby b51 (pc' := 6) (Ls' := #[.val (.ref x), .val (.ref a)]) (st' := [.null, (.int (Int32.ofNat cs.length)), (.int (0 : Int32)), (.ref a), (.ref x)]) rfl ?_
  refine gInit X0 hby (argsL := [(.ref a), (.int (0 : Int32)), (.int (Int32.ofNat cs.length)), .null]) (st := []) (ct_init4 hw hEL X0.old U E FV FC VA gx hcap) rfl (hw _ (List.mem_of_getElem? (i := 12) rfl)) (hw _ (List.mem_of_getElem? (i := 13) rfl)) (hw _ (List.mem_of_getElem? (i := 7) rfl)) (hw _ (List.mem_of_getElem? (i := 15) rfl)) pd___CIILjava_lang_Void__V rfl d_jdk_42_method_3_code_6 rfl (by rw [hml]; rfl) hsf (by decide) (Nat.le_of_ble_eq_true rfl) (by decide) (by decide) (fun v1 T1 h1 S1 X1 q1 sS1 sz1 => ?_)
  obtain ⟨rfl, q1, q2⟩ := q1
  show Go _ _ _ _ (T1.setTop (mkF m 9 #[.val (.ref x), .val (.ref a)] []))
  exact retV' X1 hby hret d_jdk_42_method_3_code_9 (fun S' hS' => ⟨rfl, q1, q2⟩)
theorem ef_jdk_42_method_55_code (m : MethodId) (x0 : Addr) : entryFrame m #[(.ref x0)] 1 = mkF m 0 #[.val (.ref x0)] [] := by first | (simp [entryFrame, mkF, argsToLocals, Value.category]; done) | rfl
theorem b52 : decs jdk_42_method_55_code 0 [.aload_n 0] = true := by decide +kernel
theorem d_jdk_42_method_55_code_1 : decode jdk_42_method_55_code 1 = .ok (.getfield 9, 3) := by decide +kernel
theorem d_jdk_42_method_55_code_4 : decode jdk_42_method_55_code 4 = .ok (.arraylength, 1) := by decide +kernel
theorem d_jdk_42_method_55_code_5 : decode jdk_42_method_55_code 5 = .ok (.ifCond .ne 7, 3) := by decide +kernel
theorem b53 : decs jdk_42_method_55_code 12 [.iconst 0] = true := by decide +kernel
theorem d_jdk_42_method_55_code_13 : decode jdk_42_method_55_code 13 = .ok (.ireturn, 1) := by decide +kernel
theorem b54 : decs jdk_42_method_55_code 8 [.iconst 1, .goto 4] = true := by decide +kernel
theorem b55 : decs jdk_42_method_55_code 12 [.iconst 0] = true := by decide +kernel
theorem b56 : decs jdk_42_method_55_code 8 [.iconst 1, .goto 4] = true := by decide +kernel
set_option maxRecDepth 65536 in
set_option maxHeartbeats 40000000 in
theorem ct_isE {h0 : Heap} {x b : Addr} {cs : List Int32} (hw : ∀ d ∈ tables_1, d.before a0 Z = true) (hEL : EW Z a0 EL) (hO : Old Z Z.heap.size h0) (F : Str Z h0 x b cs) :
    Ct true false Z EL l (⟨"java/lang/String", "isEmpty", "()Z"⟩ : MethodName) jdk_42_method_55_code 1 (some .boolean) ({ frames := 0, cells := 0, slots := 0, locals := 0 } : Room) #[(.ref x)] h0 [] (QI h0 (if cs = [] then 1 else 0)) := by
  refine ctOf (plainFor_of_name pn_java_lang_String) hO hEL ?_
  intro p e s m below meth c s₁ S0 X0 hby hml hret hnm hsf
  refine Go.entry (ef_jdk_42_method_55_code m x) ?_
  show Go _ _ _ _ (s₁.setTop (mkF m 0 #[.val (.ref x)] []))
  refine blk X0 hby b52 (pc' := 1) (Ls' := #[.val (.ref x)]) (st' := [(.ref x)]) rfl ?_
  obtain ⟨hE, hV, hR, hC⟩ := F
  rcases hC with ⟨FC, VB, hl⟩ | ⟨FC, VB, hl⟩
  · skip
    show Go _ _ _ _ (s₁.setTop (mkF m 1 #[.val (.ref x)] [(.ref x)]))
    refine gGetF X0 hby (hw _ (List.mem_of_getElem? (i := 25) rfl)) Via.refl hV d_jdk_42_method_55_code_1 (fun T1 X1 => ?_)
    show Go _ _ _ _ (T1.setTop (mkF m 4 #[.val (.ref x)] [(.ref b)]))
    refine gLen X1 hby VB d_jdk_42_method_55_code_4 ?_
    show Go _ _ _ _ (T1.setTop (mkF m 5 #[.val (.ref x)] [(.int (Int32.ofNat (cs.map lo8).length))]))
    refine br0 X1 hby d_jdk_42_method_55_code_5 (pc1 := 12) (by decide) (fun hc => ?_) (fun hc => ?_)
    · replace hc := neT hc
      show Go _ _ _ _ (T1.setTop (mkF m 12 #[.val (.ref x)] []))
      refine blk X1 hby b53 (pc' := 13) (Ls' := #[.val (.ref x)]) (st' := [(.int (0 : Int32))]) rfl ?_
      exact retI' X1 hby hret d_jdk_42_method_55_code_13 rfl (fun S' hS' => ⟨by rw [if_neg (fun q => hc (by rw [q]; rfl))], rfl⟩)
    · replace hc := neF hc
      show Go _ _ _ _ (T1.setTop (mkF m 8 #[.val (.ref x)] []))
      refine blk X1 hby b54 (pc' := 13) (Ls' := #[.val (.ref x)]) (st' := [(.int (1 : Int32))]) rfl ?_
      exact retI' X1 hby hret d_jdk_42_method_55_code_13 rfl (fun S' hS' => ⟨by rw [if_pos]; have q := (eq32 (j := 0) VB.len (by omega)).mp hc; rw [List.length_map] at q; exact List.length_eq_zero_iff.mp (by omega), rfl⟩)
  · skip
    show Go _ _ _ _ (s₁.setTop (mkF m 1 #[.val (.ref x)] [(.ref x)]))
    refine gGetF X0 hby (hw _ (List.mem_of_getElem? (i := 25) rfl)) Via.refl hV d_jdk_42_method_55_code_1 (fun T1 X1 => ?_)
    show Go _ _ _ _ (T1.setTop (mkF m 4 #[.val (.ref x)] [(.ref b)]))
    refine gLen X1 hby VB d_jdk_42_method_55_code_4 ?_
    show Go _ _ _ _ (T1.setTop (mkF m 5 #[.val (.ref x)] [(.int (Int32.ofNat (u16 cs).length))]))
    refine br0 X1 hby d_jdk_42_method_55_code_5 (pc1 := 12) (by decide) (fun hc => ?_) (fun hc => ?_)
    · replace hc := neT hc
      show Go _ _ _ _ (T1.setTop (mkF m 12 #[.val (.ref x)] []))
      refine blk X1 hby b55 (pc' := 13) (Ls' := #[.val (.ref x)]) (st' := [(.int (0 : Int32))]) rfl ?_
      exact retI' X1 hby hret d_jdk_42_method_55_code_13 rfl (fun S' hS' => ⟨by rw [if_neg (fun q => hc (by rw [q]; rfl))], rfl⟩)
    · replace hc := neF hc
      show Go _ _ _ _ (T1.setTop (mkF m 8 #[.val (.ref x)] []))
      refine blk X1 hby b56 (pc' := 13) (Ls' := #[.val (.ref x)]) (st' := [(.int (1 : Int32))]) rfl ?_
      exact retI' X1 hby hret d_jdk_42_method_55_code_13 rfl (fun S' hS' => ⟨by rw [if_pos]; have q := (eq32 (j := 0) VB.len (by omega)).mp hc; rw [u16_length] at q; exact List.length_eq_zero_iff.mp (by omega), rfl⟩)
theorem ef_jdk_42_method_152_code (m : MethodId) (x0 : Addr) : entryFrame m #[(.ref x0)] 1 = mkF m 0 #[.val (.ref x0)] [] := by first | (simp [entryFrame, mkF, argsToLocals, Value.category]; done) | rfl
theorem d_jdk_42_method_152_code_0 : decode jdk_42_method_152_code 0 = .ok (.getstatic 38, 3) := by decide +kernel
theorem d_jdk_42_method_152_code_3 : decode jdk_42_method_152_code 3 = .ok (.ifCond .eq 10, 3) := by decide +kernel
theorem b57 : decs jdk_42_method_152_code 6 [.aload_n 0] = true := by decide +kernel
theorem d_jdk_42_method_152_code_7 : decode jdk_42_method_152_code 7 = .ok (.getfield 15, 3) := by decide +kernel
theorem b58 : decs jdk_42_method_152_code 10 [.goto 4] = true := by decide +kernel
theorem d_jdk_42_method_152_code_14 : decode jdk_42_method_152_code 14 = .ok (.ireturn, 1) := by decide +kernel
set_option maxRecDepth 65536 in
set_option maxHeartbeats 40000000 in
theorem ct_coder {h0 : Heap} {x : Addr} {k zc : Int32} (hw : ∀ d ∈ tables_1, d.before a0 Z = true) (hEL : EW Z a0 EL) (hO : Old Z Z.heap.size h0) (U : US Z zc) (FC : Fld Z h0 x "java/lang/String" "coder" "B" (.int k)) (hk : narrow .byte (.int k) = .int k) :
    Ct true false Z EL l (⟨"java/lang/String", "coder", "()B"⟩ : MethodName) jdk_42_method_152_code 1 (some .byte) ({ frames := 0, cells := 0, slots := 0, locals := 0 } : Room) #[(.ref x)] h0 [] (QI h0 k) := by
  refine ctOf (plainFor_of_name pn_java_lang_String) hO hEL ?_
  intro p e s m below meth c s₁ S0 X0 hby hml hret hnm hsf
  refine Go.entry (ef_jdk_42_method_152_code m x) ?_
  show Go _ _ _ _ (s₁.setTop (mkF m 0 #[.val (.ref x)] []))
  refine gGetS X0 hby (hw _ (List.mem_of_getElem? (i := 36) rfl)) Via.refl U.cs d_jdk_42_method_152_code_0 (fun T1 X1 => ?_)
  show Go _ _ _ _ (T1.setTop (mkF m 3 #[.val (.ref x)] [(.int zc)]))
  refine br0 X1 hby d_jdk_42_method_152_code_3 (pc1 := 13) (by decide) (fun hc => absurd (eqT hc) (U.nz)) (fun hc => ?_)
  show Go _ _ _ _ (T1.setTop (mkF m 6 #[.val (.ref x)] []))
  refine blk X1 hby b57 (pc' := 7) (Ls' := #[.val (.ref x)]) (st' := [(.ref x)]) rfl ?_
  refine gGetF X1 hby (hw _ (List.mem_of_getElem? (i := 26) rfl)) Via.refl FC d_jdk_42_method_152_code_7 (fun T2 X2 => ?_)
  show Go _ _ _ _ (T2.setTop (mkF m 10 #[.val (.ref x)] [(.int k)]))
  refine blk X2 hby b58 (pc' := 14) (Ls' := #[.val (.ref x)]) (st' := [(.int k)]) rfl ?_
  exact retI' X2 hby hret d_jdk_42_method_152_code_14 hk (fun S' hS' => ⟨rfl, rfl⟩)
theorem ef_jdk_42_method_154_code (m : MethodId) (x0 : Addr) : entryFrame m #[(.ref x0)] 1 = mkF m 0 #[.val (.ref x0)] [] := by first | (simp [entryFrame, mkF, argsToLocals, Value.category]; done) | rfl
theorem d_jdk_42_method_154_code_0 : decode jdk_42_method_154_code 0 = .ok (.getstatic 38, 3) := by decide +kernel
theorem d_jdk_42_method_154_code_3 : decode jdk_42_method_154_code 3 = .ok (.ifCond .eq 14, 3) := by decide +kernel
theorem b59 : decs jdk_42_method_154_code 6 [.aload_n 0] = true := by decide +kernel
theorem d_jdk_42_method_154_code_7 : decode jdk_42_method_154_code 7 = .ok (.getfield 15, 3) := by decide +kernel
theorem d_jdk_42_method_154_code_10 : decode jdk_42_method_154_code 10 = .ok (.ifCond .ne 7, 3) := by decide +kernel
theorem b60 : decs jdk_42_method_154_code 17 [.iconst 0] = true := by decide +kernel
theorem d_jdk_42_method_154_code_18 : decode jdk_42_method_154_code 18 = .ok (.ireturn, 1) := by decide +kernel
theorem b61 : decs jdk_42_method_154_code 13 [.iconst 1, .goto 4] = true := by decide +kernel
set_option maxRecDepth 65536 in
set_option maxHeartbeats 40000000 in
theorem ct_isL {h0 : Heap} {x : Addr} {k zc : Int32} (hw : ∀ d ∈ tables_1, d.before a0 Z = true) (hEL : EW Z a0 EL) (hO : Old Z Z.heap.size h0) (U : US Z zc) (FC : Fld Z h0 x "java/lang/String" "coder" "B" (.int k)) :
    Ct true false Z EL l (⟨"java/lang/String", "isLatin1", "()Z"⟩ : MethodName) jdk_42_method_154_code 1 (some .boolean) ({ frames := 0, cells := 0, slots := 0, locals := 0 } : Room) #[(.ref x)] h0 [] (QI h0 (if k = 0 then 1 else 0)) := by
  refine ctOf (plainFor_of_name pn_java_lang_String) hO hEL ?_
  intro p e s m below meth c s₁ S0 X0 hby hml hret hnm hsf
  refine Go.entry (ef_jdk_42_method_154_code m x) ?_
  show Go _ _ _ _ (s₁.setTop (mkF m 0 #[.val (.ref x)] []))
  refine gGetS X0 hby (hw _ (List.mem_of_getElem? (i := 36) rfl)) Via.refl U.cs d_jdk_42_method_154_code_0 (fun T1 X1 => ?_)
  show Go _ _ _ _ (T1.setTop (mkF m 3 #[.val (.ref x)] [(.int zc)]))
  refine br0 X1 hby d_jdk_42_method_154_code_3 (pc1 := 17) (by decide) (fun hc => absurd (eqT hc) (U.nz)) (fun hc => ?_)
  show Go _ _ _ _ (T1.setTop (mkF m 6 #[.val (.ref x)] []))
  refine blk X1 hby b59 (pc' := 7) (Ls' := #[.val (.ref x)]) (st' := [(.ref x)]) rfl ?_
  refine gGetF X1 hby (hw _ (List.mem_of_getElem? (i := 26) rfl)) Via.refl FC d_jdk_42_method_154_code_7 (fun T2 X2 => ?_)
  show Go _ _ _ _ (T2.setTop (mkF m 10 #[.val (.ref x)] [(.int k)]))
  refine br0 X2 hby d_jdk_42_method_154_code_10 (pc1 := 17) (by decide) (fun hd => ?_) (fun hd => ?_)
  · replace hd := neT hd
    show Go _ _ _ _ (T2.setTop (mkF m 17 #[.val (.ref x)] []))
    refine blk X2 hby b60 (pc' := 18) (Ls' := #[.val (.ref x)]) (st' := [(.int (0 : Int32))]) rfl ?_
    exact retI' X2 hby hret d_jdk_42_method_154_code_18 rfl (fun S' hS' => ⟨by rw [if_neg hd], rfl⟩)
  · replace hd := neF hd
    show Go _ _ _ _ (T2.setTop (mkF m 13 #[.val (.ref x)] []))
    refine blk X2 hby b61 (pc' := 18) (Ls' := #[.val (.ref x)]) (st' := [(.int (1 : Int32))]) rfl ?_
    exact retI' X2 hby hret d_jdk_42_method_154_code_18 rfl (fun S' hS' => ⟨by rw [if_pos hd], rfl⟩)
theorem ef_jdk_42_method_54_code (m : MethodId) (x0 : Addr) : entryFrame m #[(.ref x0)] 1 = mkF m 0 #[.val (.ref x0)] [] := by first | (simp [entryFrame, mkF, argsToLocals, Value.category]; done) | rfl
theorem b62 : decs jdk_42_method_54_code 0 [.aload_n 0] = true := by decide +kernel
theorem d_jdk_42_method_54_code_1 : decode jdk_42_method_54_code 1 = .ok (.getfield 9, 3) := by decide +kernel
theorem d_jdk_42_method_54_code_4 : decode jdk_42_method_54_code 4 = .ok (.arraylength, 1) := by decide +kernel
theorem b63 : decs jdk_42_method_54_code 5 [.aload_n 0] = true := by decide +kernel
theorem d_jdk_42_method_54_code_6 : decode jdk_42_method_54_code 6 = .ok (.invokevirtual 335, 3) := by decide +kernel
theorem pd___B : parseMethodDescriptor "()B" = some ⟨[], (some .byte)⟩ := by decide +kernel
theorem b64 : decs jdk_42_method_54_code 9 [.ishr] = true := by decide +kernel
theorem d_jdk_42_method_54_code_10 : decode jdk_42_method_54_code 10 = .ok (.ireturn, 1) := by decide +kernel
theorem b65 : decs jdk_42_method_54_code 5 [.aload_n 0] = true := by decide +kernel
theorem b66 : decs jdk_42_method_54_code 9 [.ishr] = true := by decide +kernel
set_option maxRecDepth 65536 in
set_option maxHeartbeats 40000000 in
theorem ct_len {h0 : Heap} {x b : Addr} {cs : List Int32} {zc : Int32} (hw : ∀ d ∈ tables_1, d.before a0 Z = true) (hEL : EW Z a0 EL) (hO : Old Z Z.heap.size h0) (U : US Z zc)(F : Str Z h0 x b cs) :
    Ct true false Z EL l (⟨"java/lang/String", "length", "()I"⟩ : MethodName) jdk_42_method_54_code 1 (some .int) ({ frames := 1, cells := 0, slots := 0, locals := 14 } : Room) #[(.ref x)] h0 [] (QI h0 (Int32.ofNat cs.length)) := by
  refine ctOf (plainFor_of_name pn_java_lang_String) hO hEL ?_
  intro p e s m below meth c s₁ S0 X0 hby hml hret hnm hsf
  refine Go.entry (ef_jdk_42_method_54_code m x) ?_
  show Go _ _ _ _ (s₁.setTop (mkF m 0 #[.val (.ref x)] []))
  refine blk X0 hby b62 (pc' := 1) (Ls' := #[.val (.ref x)]) (st' := [(.ref x)]) rfl ?_
  obtain ⟨hE, hV, hR, hC⟩ := F
  rcases hC with ⟨FC, VB, hl⟩ | ⟨FC, VB, hl⟩
  · skip
    show Go _ _ _ _ (s₁.setTop (mkF m 1 #[.val (.ref x)] [(.ref x)]))
    refine gGetF X0 hby (hw _ (List.mem_of_getElem? (i := 25) rfl)) Via.refl hV d_jdk_42_method_54_code_1 (fun T1 X1 => ?_)
    show Go _ _ _ _ (T1.setTop (mkF m 4 #[.val (.ref x)] [(.ref b)]))
    refine gLen X1 hby VB d_jdk_42_method_54_code_4 ?_
    show Go _ _ _ _ (T1.setTop (mkF m 5 #[.val (.ref x)] [(.int (Int32.ofNat (cs.map lo8).length))]))
    refine blk X1 hby b63 (pc' := 6) (Ls' := #[.val (.ref x)]) (st' := [(.ref x), (.int (Int32.ofNat (cs.map lo8).length))]) rfl ?_
    refine gVirt X1 hby (argsL := []) (st := [(.int (Int32.ofNat (cs.map lo8).length))]) (ct_coder hw hEL X1.old U FC (by decide)) hE (hw _ (List.mem_of_getElem? (i := 55) rfl)) (hw _ (List.mem_of_getElem? (i := 56) rfl)) (hw _ (List.mem_of_getElem? (i := 58) rfl)) (hw _ (List.mem_of_getElem? (i := 57) rfl)) (hw _ (List.mem_of_getElem? (i := 7) rfl)) (hw _ (List.mem_of_getElem? (i := 59) rfl)) pd___B rfl d_jdk_42_method_54_code_6 rfl (by rw [hml]; rfl) all0 (by decide) (Nat.le_of_ble_eq_true rfl) (by decide) (by decide) (fun v2 T2 h2 S2 X2 q2 sS2 sz2 => ?_)
    obtain ⟨rfl, rfl⟩ := q2
    show Go _ _ _ _ (T2.setTop (mkF m 9 #[.val (.ref x)] [(.int (0 : Int32)), (.int (Int32.ofNat (cs.map lo8).length))]))
    refine blk X2 hby b64 (pc' := 10) (Ls' := #[.val (.ref x)]) (st' := [(.int ((Int32.ofNat (cs.map lo8).length) >>> ((0 : Int32) &&& 31)))]) rfl ?_
    exact retI' X2 hby hret d_jdk_42_method_54_code_10 rfl (fun S' hS' => ⟨by rw [shr0, List.length_map], rfl⟩)
  · skip
    show Go _ _ _ _ (s₁.setTop (mkF m 1 #[.val (.ref x)] [(.ref x)]))
    refine gGetF X0 hby (hw _ (List.mem_of_getElem? (i := 25) rfl)) Via.refl hV d_jdk_42_method_54_code_1 (fun T1 X1 => ?_)
    show Go _ _ _ _ (T1.setTop (mkF m 4 #[.val (.ref x)] [(.ref b)]))
    refine gLen X1 hby VB d_jdk_42_method_54_code_4 ?_
    show Go _ _ _ _ (T1.setTop (mkF m 5 #[.val (.ref x)] [(.int (Int32.ofNat (u16 cs).length))]))
    refine blk X1 hby b65 (pc' := 6) (Ls' := #[.val (.ref x)]) (st' := [(.ref x), (.int (Int32.ofNat (u16 cs).length))]) rfl ?_
    refine gVirt X1 hby (argsL := []) (st := [(.int (Int32.ofNat (u16 cs).length))]) (ct_coder hw hEL X1.old U FC (by decide)) hE (hw _ (List.mem_of_getElem? (i := 55) rfl)) (hw _ (List.mem_of_getElem? (i := 56) rfl)) (hw _ (List.mem_of_getElem? (i := 58) rfl)) (hw _ (List.mem_of_getElem? (i := 57) rfl)) (hw _ (List.mem_of_getElem? (i := 7) rfl)) (hw _ (List.mem_of_getElem? (i := 59) rfl)) pd___B rfl d_jdk_42_method_54_code_6 rfl (by rw [hml]; rfl) all0 (by decide) (Nat.le_of_ble_eq_true rfl) (by decide) (by decide) (fun v2 T2 h2 S2 X2 q2 sS2 sz2 => ?_)
    obtain ⟨rfl, rfl⟩ := q2
    show Go _ _ _ _ (T2.setTop (mkF m 9 #[.val (.ref x)] [(.int (1 : Int32)), (.int (Int32.ofNat (u16 cs).length))]))
    refine blk X2 hby b66 (pc' := 10) (Ls' := #[.val (.ref x)]) (st' := [(.int ((Int32.ofNat (u16 cs).length) >>> ((1 : Int32) &&& 31)))]) rfl ?_
    exact retI' X2 hby hret d_jdk_42_method_54_code_10 rfl (fun S' hS' => ⟨by rw [u16_length, shr1 (by have := VB.len; rw [u16_length] at this; omega)], rfl⟩)
theorem pn_jdk_internal_util_Preconditions : plainName "jdk/internal/util/Preconditions" = true := by first | (simp [plainName, overriddenIn]; done) | decide +kernel
theorem ef_jdk_41_method_11_code_n (m : MethodId) (x0 : Int32) (x1 : Int32) : entryFrame m #[(.int x0), (.int x1), .null] 3 = mkF m 0 #[.val (.int x0), .val (.int x1), .val .null] [] := by first | (simp [entryFrame, mkF, argsToLocals, Value.category]; done) | rfl
theorem b67 : decs jdk_41_method_11_code 0 [.iload_n 0] = true := by decide +kernel
theorem d_jdk_41_method_11_code_1 : decode jdk_41_method_11_code 1 = .ok (.ifCond .lt 8, 3) := by decide +kernel
theorem b68 : decs jdk_41_method_11_code 4 [.iload_n 0, .iload_n 1] = true := by decide +kernel
theorem d_jdk_41_method_11_code_6 : decode jdk_41_method_11_code 6 = .ok (.if_icmp .lt 10, 3) := by decide +kernel
theorem b69 : decs jdk_41_method_11_code 16 [.iload_n 0] = true := by decide +kernel
theorem d_jdk_41_method_11_code_17 : decode jdk_41_method_11_code 17 = .ok (.ireturn, 1) := by decide +kernel
set_option maxRecDepth 65536 in
set_option maxHeartbeats 40000000 in
theorem ct_pci_n {h0 : Heap} {i n : Int32} (hw : ∀ d ∈ tables_1, d.before a0 Z = true) (hEL : EW Z a0 EL) (hO : Old Z Z.heap.size h0) (h1 : ¬ i < 0) (h2 : i < n) :
    Ct true false Z EL l (⟨"jdk/internal/util/Preconditions", "checkIndex", "(IILjava/util/function/BiFunction;)I"⟩ : MethodName) jdk_41_method_11_code 3 (some .int) ({ frames := 0, cells := 0, slots := 0, locals := 0 } : Room) #[(.int i), (.int n), .null] h0 [] (QI h0 i) := by
  refine ctOf (plainFor_of_name pn_jdk_internal_util_Preconditions) hO hEL ?_
  intro p e s m below meth c s₁ S0 X0 hby hml hret hnm hsf
  refine Go.entry (ef_jdk_41_method_11_code_n m i n) ?_
  show Go _ _ _ _ (s₁.setTop (mkF m 0 #[.val (.int i), .val (.int n), .val .null] []))
  refine blk X0 hby b67 (pc' := 1) (Ls' := #[.val (.int i), .val (.int n), .val .null]) (st' := [(.int i)]) rfl ?_
  refine br0 X0 hby d_jdk_41_method_11_code_1 (pc1 := 9) (by decide) (fun hc => absurd (ltT hc) (h1)) (fun hc => ?_)
  show Go _ _ _ _ (s₁.setTop (mkF m 4 #[.val (.int i), .val (.int n), .val .null] []))
  refine blk X0 hby b68 (pc' := 6) (Ls' := #[.val (.int i), .val (.int n), .val .null]) (st' := [(.int n), (.int i)]) rfl ?_
  refine brI X0 hby d_jdk_41_method_11_code_6 (pc1 := 16) (by decide) (fun hd => ?_) (fun hd => absurd (ltF hd) (fun q => q h2))
  show Go _ _ _ _ (s₁.setTop (mkF m 16 #[.val (.int i), .val (.int n), .val .null] []))
  refine blk X0 hby b69 (pc' := 17) (Ls' := #[.val (.int i), .val (.int n), .val .null]) (st' := [(.int i)]) rfl ?_
  exact retI' X0 hby hret d_jdk_41_method_11_code_17 rfl (fun S' hS' => ⟨rfl, rfl⟩)
theorem ef_jdk_41_method_11_code_r (m : MethodId) (x0 : Int32) (x1 : Int32) (x2 : Addr) : entryFrame m #[(.int x0), (.int x1), (.ref x2)] 3 = mkF m 0 #[.val (.int x0), .val (.int x1), .val (.ref x2)] [] := by first | (simp [entryFrame, mkF, argsToLocals, Value.category]; done) | rfl
theorem b70 : decs jdk_41_method_11_code 0 [.iload_n 0] = true := by decide +kernel
theorem b71 : decs jdk_41_method_11_code 4 [.iload_n 0, .iload_n 1] = true := by decide +kernel
theorem b72 : decs jdk_41_method_11_code 16 [.iload_n 0] = true := by decide +kernel
set_option maxRecDepth 65536 in
set_option maxHeartbeats 40000000 in
theorem ct_pci_r {h0 : Heap} {i n : Int32} {fa : Addr} (hw : ∀ d ∈ tables_1, d.before a0 Z = true) (hEL : EW Z a0 EL) (hO : Old Z Z.heap.size h0) (h1 : ¬ i < 0) (h2 : i < n) :
    Ct true false Z EL l (⟨"jdk/internal/util/Preconditions", "checkIndex", "(IILjava/util/function/BiFunction;)I"⟩ : MethodName) jdk_41_method_11_code 3 (some .int) ({ frames := 0, cells := 0, slots := 0, locals := 0 } : Room) #[(.int i), (.int n), (.ref fa)] h0 [] (QI h0 i) := by
  refine ctOf (plainFor_of_name pn_jdk_internal_util_Preconditions) hO hEL ?_
  intro p e s m below meth c s₁ S0 X0 hby hml hret hnm hsf
  refine Go.entry (ef_jdk_41_method_11_code_r m i n fa) ?_
  show Go _ _ _ _ (s₁.setTop (mkF m 0 #[.val (.int i), .val (.int n), .val (.ref fa)] []))
  refine blk X0 hby b70 (pc' := 1) (Ls' := #[.val (.int i), .val (.int n), .val (.ref fa)]) (st' := [(.int i)]) rfl ?_
  refine br0 X0 hby d_jdk_41_method_11_code_1 (pc1 := 9) (by decide) (fun hc => absurd (ltT hc) (h1)) (fun hc => ?_)
  show Go _ _ _ _ (s₁.setTop (mkF m 4 #[.val (.int i), .val (.int n), .val (.ref fa)] []))
  refine blk X0 hby b71 (pc' := 6) (Ls' := #[.val (.int i), .val (.int n), .val (.ref fa)]) (st' := [(.int n), (.int i)]) rfl ?_
  refine brI X0 hby d_jdk_41_method_11_code_6 (pc1 := 16) (by decide) (fun hd => ?_) (fun hd => absurd (ltF hd) (fun q => q h2))
  show Go _ _ _ _ (s₁.setTop (mkF m 16 #[.val (.int i), .val (.int n), .val (.ref fa)] []))
  refine blk X0 hby b72 (pc' := 17) (Ls' := #[.val (.int i), .val (.int n), .val (.ref fa)]) (st' := [(.int i)]) rfl ?_
  exact retI' X0 hby hret d_jdk_41_method_11_code_17 rfl (fun S' hS' => ⟨rfl, rfl⟩)
theorem ef_jdk_42_method_155_code (m : MethodId) (x0 : Int32) (x1 : Int32) : entryFrame m #[(.int x0), (.int x1)] 2 = mkF m 0 #[.val (.int x0), .val (.int x1)] [] := by first | (simp [entryFrame, mkF, argsToLocals, Value.category]; done) | rfl
theorem b73 : decs jdk_42_method_155_code 0 [.iload_n 0, .iload_n 1] = true := by decide +kernel
theorem d_jdk_42_method_155_code_2 : decode jdk_42_method_155_code 2 = .ok (.getstatic 1053, 3) := by decide +kernel
theorem d_jdk_42_method_155_code_5 : decode jdk_42_method_155_code 5 = .ok (.invokestatic 1059, 3) := by decide +kernel
theorem pd__IILjava_util_function_BiFunction__I : parseMethodDescriptor "(IILjava/util/function/BiFunction;)I" = some ⟨[.int, .int, (.object "java/util/function/BiFunction")], (some .int)⟩ := by decide +kernel
theorem b74 : decs jdk_42_method_155_code 8 [.pop] = true := by decide +kernel
theorem d_jdk_42_method_155_code_9 : decode jdk_42_method_155_code 9 = .ok (.return_, 1) := by decide +kernel
theorem b75 : decs jdk_42_method_155_code 8 [.pop] = true := by decide +kernel
def QN (h0 : Heap) (v : Option Value) (h : Heap) (S : Addr → Prop) : Prop := v = none ∧ h0 = h
set_option maxRecDepth 65536 in
set_option maxHeartbeats 40000000 in
theorem ct_chk {h0 : Heap} {i n : Int32} {fm : Value} (hw : ∀ d ∈ tables_1, d.before a0 Z = true) (hEL : EW Z a0 EL) (hO : Old Z Z.heap.size h0) (hFM : Sta Z Z.heap "jdk/internal/util/Preconditions" "SIOOBE_FORMATTER" "Ljava/util/function/BiFunction;" fm) (hfm : fm = .null ∨ ∃ a, fm = .ref a) (h1 : ¬ i < 0) (h2 : i < n) :
    Ct true false Z EL l (⟨"java/lang/String", "checkIndex", "(II)V"⟩ : MethodName) jdk_42_method_155_code 2 none ({ frames := 1, cells := 0, slots := 0, locals := 16 } : Room) #[(.int i), (.int n)] h0 [] (QN h0) := by
  refine ctOf (plainFor_of_name pn_java_lang_String) hO hEL ?_
  intro p e s m below meth c s₁ S0 X0 hby hml hret hnm hsf
  refine Go.entry (ef_jdk_42_method_155_code m i n) ?_
  show Go _ _ _ _ (s₁.setTop (mkF m 0 #[.val (.int i), .val (.int n)] []))
  refine blk X0 hby b73 (pc' := 2) (Ls' := #[.val (.int i), .val (.int n)]) (st' := [(.int n), (.int i)]) rfl ?_
  rcases hfm with rfl | ⟨fa, rfl⟩
  · skip
    show Go _ _ _ _ (s₁.setTop (mkF m 2 #[.val (.int i), .val (.int n)] [(.int n), (.int i)]))
    refine gGetS X0 hby (hw _ (List.mem_of_getElem? (i := 77) rfl)) Via.refl hFM d_jdk_42_method_155_code_2 (fun T1 X1 => ?_)
    show Go _ _ _ _ (T1.setTop (mkF m 5 #[.val (.int i), .val (.int n)] [.null, (.int n), (.int i)]))
    refine gStatic X1 hby (argsL := [(.int i), (.int n), .null]) (st := []) (ct_pci_n hw hEL X1.old h1 h2) (hw _ (List.mem_of_getElem? (i := 79) rfl)) (hw _ (List.mem_of_getElem? (i := 80) rfl)) (hw _ (List.mem_of_getElem? (i := 78) rfl)) (hw _ (List.mem_of_getElem? (i := 81) rfl)) pd__IILjava_util_function_BiFunction__I rfl d_jdk_42_method_155_code_5 rfl (by rw [hml]; rfl) all0 (by decide) (Nat.le_of_ble_eq_true rfl) (by decide) (by decide) (fun v2 T2 h2 S2 X2 q2 sS2 sz2 => ?_)
    obtain ⟨rfl, rfl⟩ := q2
    show Go _ _ _ _ (T2.setTop (mkF m 8 #[.val (.int i), .val (.int n)] [(.int i)]))
    refine blk X2 hby b74 (pc' := 9) (Ls' := #[.val (.int i), .val (.int n)]) (st' := []) rfl ?_
    exact retV' X2 hby hret d_jdk_42_method_155_code_9 (fun S' hS' => ⟨rfl, rfl⟩)
  · skip
    show Go _ _ _ _ (s₁.setTop (mkF m 2 #[.val (.int i), .val (.int n)] [(.int n), (.int i)]))
    refine gGetS X0 hby (hw _ (List.mem_of_getElem? (i := 77) rfl)) Via.refl hFM d_jdk_42_method_155_code_2 (fun T1 X1 => ?_)
    show Go _ _ _ _ (T1.setTop (mkF m 5 #[.val (.int i), .val (.int n)] [(.ref fa), (.int n), (.int i)]))
    refine gStatic X1 hby (argsL := [(.int i), (.int n), (.ref fa)]) (st := []) (ct_pci_r hw hEL X1.old h1 h2) (hw _ (List.mem_of_getElem? (i := 79) rfl)) (hw _ (List.mem_of_getElem? (i := 80) rfl)) (hw _ (List.mem_of_getElem? (i := 78) rfl)) (hw _ (List.mem_of_getElem? (i := 81) rfl)) pd__IILjava_util_function_BiFunction__I rfl d_jdk_42_method_155_code_5 rfl (by rw [hml]; rfl) all0 (by decide) (Nat.le_of_ble_eq_true rfl) (by decide) (by decide) (fun v2 T2 h2 S2 X2 q2 sS2 sz2 => ?_)
    obtain ⟨rfl, rfl⟩ := q2
    show Go _ _ _ _ (T2.setTop (mkF m 8 #[.val (.int i), .val (.int n)] [(.int i)]))
    refine blk X2 hby b75 (pc' := 9) (Ls' := #[.val (.int i), .val (.int n)]) (st' := []) rfl ?_
    exact retV' X2 hby hret d_jdk_42_method_155_code_9 (fun S' hS' => ⟨rfl, rfl⟩)
theorem pn_java_lang_StringLatin1 : plainName "java/lang/StringLatin1" = true := by first | (simp [plainName, overriddenIn]; done) | decide +kernel
theorem ef_jdk_43_method_2_code (m : MethodId) (x0 : Addr) (x1 : Int32) : entryFrame m #[(.ref x0), (.int x1)] 2 = mkF m 0 #[.val (.ref x0), .val (.int x1)] [] := by first | (simp [entryFrame, mkF, argsToLocals, Value.category]; done) | rfl
theorem b76 : decs jdk_43_method_2_code 0 [.iload_n 1, .aload_n 0] = true := by decide +kernel
theorem d_jdk_43_method_2_code_2 : decode jdk_43_method_2_code 2 = .ok (.arraylength, 1) := by decide +kernel
theorem d_jdk_43_method_2_code_3 : decode jdk_43_method_2_code 3 = .ok (.invokestatic 9, 3) := by decide +kernel
theorem pd__II_V : parseMethodDescriptor "(II)V" = some ⟨[.int, .int], none⟩ := by decide +kernel
theorem b77 : decs jdk_43_method_2_code 6 [.aload_n 0, .iload_n 1] = true := by decide +kernel
theorem d_jdk_43_method_2_code_8 : decode jdk_43_method_2_code 8 = .ok (.baload, 1) := by decide +kernel
theorem b78 : decs jdk_43_method_2_code 9 [.sipush 255, .iand, .i2c] = true := by decide +kernel
theorem d_jdk_43_method_2_code_14 : decode jdk_43_method_2_code 14 = .ok (.ireturn, 1) := by decide +kernel
set_option maxRecDepth 65536 in
set_option maxHeartbeats 40000000 in
theorem ct_l1c {h0 : Heap} {b : Addr} {cs : List Int32} {i : Nat} {fm : Value} (hw : ∀ d ∈ tables_1, d.before a0 Z = true) (hEL : EW Z a0 EL) (hO : Old Z Z.heap.size h0) (hFM : Sta Z Z.heap "jdk/internal/util/Preconditions" "SIOOBE_FORMATTER" "Ljava/util/function/BiFunction;" fm) (hfm : fm = .null ∨ ∃ a, fm = .ref a) (VB : Ari Z h0 b .byte (cs.map lo8)) (hi : i < cs.length) (hR : ∀ c ∈ cs, ¬ c < 0 ∧ ¬ 65535 < c) (hlat : ∀ c ∈ cs, ¬ 255 < c) :
    Ct true false Z EL l (⟨"java/lang/StringLatin1", "charAt", "([BI)C"⟩ : MethodName) jdk_43_method_2_code 2 (some .char) ({ frames := 2, cells := 0, slots := 0, locals := 32 } : Room) #[(.ref b), (.int (Int32.ofNat i))] h0 [] (QI h0 (cs.getD i 0)) := by
  refine ctOf (plainFor_of_name pn_java_lang_StringLatin1) hO hEL ?_
  intro p e s m below meth c s₁ S0 X0 hby hml hret hnm hsf
  refine Go.entry (ef_jdk_43_method_2_code m b (Int32.ofNat i)) ?_
  show Go _ _ _ _ (s₁.setTop (mkF m 0 #[.val (.ref b), .val (.int (Int32.ofNat i))] []))
  have hL := VB.len
  rw [List.length_map] at hL
  refine blk X0 hby b76 (pc' := 2) (Ls' := #[.val (.ref b), .val (.int (Int32.ofNat i))]) (st' := [(.ref b), (.int (Int32.ofNat i))]) rfl ?_
  refine gLen X0 hby VB d_jdk_43_method_2_code_2 ?_
  show Go _ _ _ _ (s₁.setTop (mkF m 3 #[.val (.ref b), .val (.int (Int32.ofNat i))] [(.int (Int32.ofNat (cs.map lo8).length)), (.int (Int32.ofNat i))]))
  refine gStatic X0 hby (argsL := [(.int (Int32.ofNat i)), (.int (Int32.ofNat (cs.map lo8).length))]) (st := []) (ct_chk hw hEL X0.old hFM hfm (nn32 (by omega)) (by rw [List.length_map]; exact (lt32 (by omega) hL).mpr hi)) (hw _ (List.mem_of_getElem? (i := 74) rfl)) (hw _ (List.mem_of_getElem? (i := 75) rfl)) (hw _ (List.mem_of_getElem? (i := 7) rfl)) (hw _ (List.mem_of_getElem? (i := 76) rfl)) pd__II_V rfl d_jdk_43_method_2_code_3 rfl (by rw [hml]; rfl) all0 (by decide) (Nat.le_of_ble_eq_true rfl) (by decide) (by decide) (fun v1 T1 h1 S1 X1 q1 sS1 sz1 => ?_)
  obtain ⟨rfl, rfl⟩ := q1
  show Go _ _ _ _ (T1.setTop (mkF m 6 #[.val (.ref b), .val (.int (Int32.ofNat i))] []))
  refine blk X1 hby b77 (pc' := 8) (Ls' := #[.val (.ref b), .val (.int (Int32.ofNat i))]) (st' := [(.int (Int32.ofNat i)), (.ref b)]) rfl ?_
  refine gLd X1 hby VB (Or.inr (Or.inr ⟨rfl, rfl⟩)) d_jdk_43_method_2_code_8 (i := i) rfl (by rw [List.length_map]; exact hi) ?_
  show Go _ _ _ _ (T1.setTop (mkF m 9 #[.val (.ref b), .val (.int (Int32.ofNat i))] [(.int ((cs.map lo8).getD i 0))]))
  rw [getD_map hi]
  show Go _ _ _ _ (T1.setTop (mkF m 9 #[.val (.ref b), .val (.int (Int32.ofNat i))] [(.int (lo8 (cs.getD i 0)))]))
  refine blk X1 hby b78 (pc' := 14) (Ls' := #[.val (.ref b), .val (.int (Int32.ofNat i))]) (st' := [(.int (chr16 ((lo8 (cs.getD i 0)) &&& (255 : Int32))))]) rfl ?_
  exact retI' X1 hby hret d_jdk_43_method_2_code_14 (XT.narrow_c _) (fun S' hS' => ⟨by rw [lo8_mask _ (hR _ (getD_mem hi)).1 (hlat _ (getD_mem hi))], rfl⟩)
theorem ef_jdk_52_method_6_code (m : MethodId) (x0 : Addr) : entryFrame m #[(.ref x0)] 1 = mkF m 0 #[.val (.ref x0)] [] := by first | (simp [entryFrame, mkF, argsToLocals, Value.category]; done) | rfl
theorem b79 : decs jdk_52_method_6_code 0 [.aload_n 0] = true := by decide +kernel
theorem d_jdk_52_method_6_code_1 : decode jdk_52_method_6_code 1 = .ok (.arraylength, 1) := by decide +kernel
theorem b80 : decs jdk_52_method_6_code 2 [.iconst 1, .ishr] = true := by decide +kernel
theorem d_jdk_52_method_6_code_4 : decode jdk_52_method_6_code 4 = .ok (.ireturn, 1) := by decide +kernel
set_option maxRecDepth 65536 in
set_option maxHeartbeats 40000000 in
theorem ct_ulen {h0 : Heap} {b : Addr} {cs : List Int32} (hw : ∀ d ∈ tables_1, d.before a0 Z = true) (hEL : EW Z a0 EL) (hO : Old Z Z.heap.size h0) (VB : Ari Z h0 b .byte (u16 cs)) :
    Ct true false Z EL l (⟨"java/lang/StringUTF16", "length", "([B)I"⟩ : MethodName) jdk_52_method_6_code 1 (some .int) ({ frames := 0, cells := 0, slots := 0, locals := 0 } : Room) #[(.ref b)] h0 [] (QI h0 (Int32.ofNat cs.length)) := by
  refine ctOf (plainFor_of_name pn_java_lang_StringUTF16) hO hEL ?_
  intro p e s m below meth c s₁ S0 X0 hby hml hret hnm hsf
  refine Go.entry (ef_jdk_52_method_6_code m b) ?_
  show Go _ _ _ _ (s₁.setTop (mkF m 0 #[.val (.ref b)] []))
  refine blk X0 hby b79 (pc' := 1) (Ls' := #[.val (.ref b)]) (st' := [(.ref b)]) rfl ?_
  refine gLen X0 hby VB d_jdk_52_method_6_code_1 ?_
  show Go _ _ _ _ (s₁.setTop (mkF m 2 #[.val (.ref b)] [(.int (Int32.ofNat (u16 cs).length))]))
  refine blk X0 hby b80 (pc' := 4) (Ls' := #[.val (.ref b)]) (st' := [(.int ((Int32.ofNat (u16 cs).length) >>> ((1 : Int32) &&& 31)))]) rfl ?_
  exact retI' X0 hby hret d_jdk_52_method_6_code_4 rfl (fun S' hS' => ⟨by rw [u16_length, shr1 (by have := VB.len; rw [u16_length] at this; omega)], rfl⟩)
theorem ef_jdk_52_method_91_code (m : MethodId) (x0 : Int32) (x1 : Addr) : entryFrame m #[(.int x0), (.ref x1)] 2 = mkF m 0 #[.val (.int x0), .val (.ref x1)] [] := by first | (simp [entryFrame, mkF, argsToLocals, Value.category]; done) | rfl
theorem b81 : decs jdk_52_method_91_code 0 [.iload_n 0, .aload_n 1] = true := by decide +kernel
theorem d_jdk_52_method_91_code_2 : decode jdk_52_method_91_code 2 = .ok (.invokestatic 48, 3) := by decide +kernel
theorem pd___B_I : parseMethodDescriptor "([B)I" = some ⟨[(.array .byte)], (some .int)⟩ := by decide +kernel
theorem d_jdk_52_method_91_code_5 : decode jdk_52_method_91_code 5 = .ok (.invokestatic 414, 3) := by decide +kernel
theorem d_jdk_52_method_91_code_8 : decode jdk_52_method_91_code 8 = .ok (.return_, 1) := by decide +kernel
set_option maxRecDepth 65536 in
set_option maxHeartbeats 40000000 in
theorem ct_uchk {h0 : Heap} {b : Addr} {cs : List Int32} {i : Nat} {fm : Value} (hw : ∀ d ∈ tables_1, d.before a0 Z = true) (hEL : EW Z a0 EL) (hO : Old Z Z.heap.size h0) (hFM : Sta Z Z.heap "jdk/internal/util/Preconditions" "SIOOBE_FORMATTER" "Ljava/util/function/BiFunction;" fm) (hfm : fm = .null ∨ ∃ a, fm = .ref a) (VB : Ari Z h0 b .byte (u16 cs)) (hi : i < cs.length) :
    Ct true false Z EL l (⟨"java/lang/StringUTF16", "checkIndex", "(I[B)V"⟩ : MethodName) jdk_52_method_91_code 2 none ({ frames := 2, cells := 0, slots := 0, locals := 32 } : Room) #[(.int (Int32.ofNat i)), (.ref b)] h0 [] (QN h0) := by
  refine ctOf (plainFor_of_name pn_java_lang_StringUTF16) hO hEL ?_
  intro p e s m below meth c s₁ S0 X0 hby hml hret hnm hsf
  refine Go.entry (ef_jdk_52_method_91_code m (Int32.ofNat i) b) ?_
  show Go _ _ _ _ (s₁.setTop (mkF m 0 #[.val (.int (Int32.ofNat i)), .val (.ref b)] []))
  have hL := VB.len
  rw [u16_length] at hL
  refine blk X0 hby b81 (pc' := 2) (Ls' := #[.val (.int (Int32.ofNat i)), .val (.ref b)]) (st' := [(.ref b), (.int (Int32.ofNat i))]) rfl ?_
  refine gStatic X0 hby (argsL := [(.ref b)]) (st := [(.int (Int32.ofNat i))]) (ct_ulen hw hEL X0.old VB) (hw _ (List.mem_of_getElem? (i := 135) rfl)) (hw _ (List.mem_of_getElem? (i := 136) rfl)) (hw _ (List.mem_of_getElem? (i := 39) rfl)) (hw _ (List.mem_of_getElem? (i := 137) rfl)) pd___B_I rfl d_jdk_52_method_91_code_2 rfl (by rw [hml]; rfl) all0 (by decide) (Nat.le_of_ble_eq_true rfl) (by decide) (by decide) (fun v1 T1 h1 S1 X1 q1 sS1 sz1 => ?_)
  obtain ⟨rfl, rfl⟩ := q1
  show Go _ _ _ _ (T1.setTop (mkF m 5 #[.val (.int (Int32.ofNat i)), .val (.ref b)] [(.int (Int32.ofNat cs.length)), (.int (Int32.ofNat i))]))
  refine gStatic X1 hby (argsL := [(.int (Int32.ofNat i)), (.int (Int32.ofNat cs.length))]) (st := []) (ct_chk hw hEL X1.old hFM hfm (nn32 (by omega)) ((lt32 (by omega) (by omega)).mpr hi)) (hw _ (List.mem_of_getElem? (i := 138) rfl)) (hw _ (List.mem_of_getElem? (i := 75) rfl)) (hw _ (List.mem_of_getElem? (i := 7) rfl)) (hw _ (List.mem_of_getElem? (i := 76) rfl)) pd__II_V rfl d_jdk_52_method_91_code_5 rfl (by rw [hml]; rfl) all0 (by decide) (Nat.le_of_ble_eq_true rfl) (by decide) (by decide) (fun v2 T2 h2 S2 X2 q2 sS2 sz2 => ?_)
  obtain ⟨rfl, rfl⟩ := q2
  show Go _ _ _ _ (T2.setTop (mkF m 8 #[.val (.int (Int32.ofNat i)), .val (.ref b)] []))
  exact retV' X2 hby hret d_jdk_52_method_91_code_8 (fun S' hS' => ⟨rfl, rfl⟩)
theorem ef_jdk_52_method_83_code (m : MethodId) (x0 : Addr) (x1 : Int32) : entryFrame m #[(.ref x0), (.int x1)] 2 = mkF m 0 #[.val (.ref x0), .val (.int x1)] [] := by first | (simp [entryFrame, mkF, argsToLocals, Value.category]; done) | rfl
theorem b82 : decs jdk_52_method_83_code 0 [.iload_n 1, .aload_n 0] = true := by decide +kernel
theorem d_jdk_52_method_83_code_2 : decode jdk_52_method_83_code 2 = .ok (.invokestatic 67, 3) := by decide +kernel
theorem pd__I_B_V : parseMethodDescriptor "(I[B)V" = some ⟨[.int, (.array .byte)], none⟩ := by decide +kernel
theorem b83 : decs jdk_52_method_83_code 5 [.aload_n 0, .iload_n 1] = true := by decide +kernel
theorem d_jdk_52_method_83_code_7 : decode jdk_52_method_83_code 7 = .ok (.invokestatic 71, 3) := by decide +kernel
theorem d_jdk_52_method_83_code_10 : decode jdk_52_method_83_code 10 = .ok (.ireturn, 1) := by decide +kernel
set_option maxRecDepth 65536 in
set_option maxHeartbeats 40000000 in
theorem ct_uca {h0 : Heap} {b : Addr} {cs : List Int32} {i : Nat} {fm : Value} {zc : Int32} (hw : ∀ d ∈ tables_1, d.before a0 Z = true) (hEL : EW Z a0 EL) (hO : Old Z Z.heap.size h0) (U : US Z zc)(hFM : Sta Z Z.heap "jdk/internal/util/Preconditions" "SIOOBE_FORMATTER" "Ljava/util/function/BiFunction;" fm) (hfm : fm = .null ∨ ∃ a, fm = .ref a) (VB : Ari Z h0 b .byte (u16 cs)) (hi : i < cs.length) (hR : ∀ c ∈ cs, ¬ c < 0 ∧ ¬ 65535 < c) :
    Ct true false Z EL l (⟨"java/lang/StringUTF16", "charAt", "([BI)C"⟩ : MethodName) jdk_52_method_83_code 2 (some .char) ({ frames := 3, cells := 0, slots := 0, locals := 48 } : Room) #[(.ref b), (.int (Int32.ofNat i))] h0 [] (QI h0 (cs.getD i 0)) := by
  refine ctOf (plainFor_of_name pn_java_lang_StringUTF16) hO hEL ?_
  intro p e s m below meth c s₁ S0 X0 hby hml hret hnm hsf
  refine Go.entry (ef_jdk_52_method_83_code m b (Int32.ofNat i)) ?_
  show Go _ _ _ _ (s₁.setTop (mkF m 0 #[.val (.ref b), .val (.int (Int32.ofNat i))] []))
  refine blk X0 hby b82 (pc' := 2) (Ls' := #[.val (.ref b), .val (.int (Int32.ofNat i))]) (st' := [(.ref b), (.int (Int32.ofNat i))]) rfl ?_
  refine gStatic X0 hby (argsL := [(.int (Int32.ofNat i)), (.ref b)]) (st := []) (ct_uchk hw hEL X0.old hFM hfm VB hi) (hw _ (List.mem_of_getElem? (i := 132) rfl)) (hw _ (List.mem_of_getElem? (i := 133) rfl)) (hw _ (List.mem_of_getElem? (i := 39) rfl)) (hw _ (List.mem_of_getElem? (i := 134) rfl)) pd__I_B_V rfl d_jdk_52_method_83_code_2 rfl (by rw [hml]; rfl) all0 (by decide) (Nat.le_of_ble_eq_true rfl) (by decide) (by decide) (fun v1 T1 h1 S1 X1 q1 sS1 sz1 => ?_)
  obtain ⟨rfl, rfl⟩ := q1
  show Go _ _ _ _ (T1.setTop (mkF m 5 #[.val (.ref b), .val (.int (Int32.ofNat i))] []))
  refine blk X1 hby b83 (pc' := 7) (Ls' := #[.val (.ref b), .val (.int (Int32.ofNat i))]) (st' := [(.int (Int32.ofNat i)), (.ref b)]) rfl ?_
  refine gStatic X1 hby (argsL := [(.ref b), (.int (Int32.ofNat i))]) (st := []) (ct_get hw hEL X1.old U VB hi hR) (hw _ (List.mem_of_getElem? (i := 126) rfl)) (hw _ (List.mem_of_getElem? (i := 127) rfl)) (hw _ (List.mem_of_getElem? (i := 39) rfl)) (hw _ (List.mem_of_getElem? (i := 128) rfl)) pd___BI_C rfl d_jdk_52_method_83_code_7 rfl (by rw [hml]; rfl) all0 (by decide) (Nat.le_of_ble_eq_true rfl) (by decide) (by decide) (fun v2 T2 h2 S2 X2 q2 sS2 sz2 => ?_)
  obtain ⟨rfl, rfl⟩ := q2
  show Go _ _ _ _ (T2.setTop (mkF m 10 #[.val (.ref b), .val (.int (Int32.ofNat i))] [(.int (cs.getD i 0))]))
  exact retI' X2 hby hret d_jdk_52_method_83_code_10 (narC (hR _ (getD_mem hi))) (fun S' hS' => ⟨rfl, rfl⟩)
theorem ef_jdk_42_method_56_code (m : MethodId) (x0 : Addr) (x1 : Int32) : entryFrame m #[(.ref x0), (.int x1)] 2 = mkF m 0 #[.val (.ref x0), .val (.int x1)] [] := by first | (simp [entryFrame, mkF, argsToLocals, Value.category]; done) | rfl
theorem b84 : decs jdk_42_method_56_code 0 [.aload_n 0] = true := by decide +kernel
theorem d_jdk_42_method_56_code_1 : decode jdk_42_method_56_code 1 = .ok (.invokevirtual 492, 3) := by decide +kernel
theorem pd___Z : parseMethodDescriptor "()Z" = some ⟨[], (some .boolean)⟩ := by decide +kernel
theorem d_jdk_42_method_56_code_4 : decode jdk_42_method_56_code 4 = .ok (.ifCond .eq 12, 3) := by decide +kernel
theorem b85 : decs jdk_42_method_56_code 7 [.aload_n 0] = true := by decide +kernel
theorem d_jdk_42_method_56_code_8 : decode jdk_42_method_56_code 8 = .ok (.getfield 9, 3) := by decide +kernel
theorem b86 : decs jdk_42_method_56_code 11 [.iload_n 1] = true := by decide +kernel
theorem d_jdk_42_method_56_code_12 : decode jdk_42_method_56_code 12 = .ok (.invokestatic 495, 3) := by decide +kernel
theorem d_jdk_42_method_56_code_15 : decode jdk_42_method_56_code 15 = .ok (.ireturn, 1) := by decide +kernel
theorem b87 : decs jdk_42_method_56_code 16 [.aload_n 0] = true := by decide +kernel
theorem d_jdk_42_method_56_code_17 : decode jdk_42_method_56_code 17 = .ok (.getfield 9, 3) := by decide +kernel
theorem b88 : decs jdk_42_method_56_code 20 [.iload_n 1] = true := by decide +kernel
theorem d_jdk_42_method_56_code_21 : decode jdk_42_method_56_code 21 = .ok (.invokestatic 498, 3) := by decide +kernel
theorem d_jdk_42_method_56_code_24 : decode jdk_42_method_56_code 24 = .ok (.ireturn, 1) := by decide +kernel
set_option maxRecDepth 65536 in
set_option maxHeartbeats 40000000 in
theorem ct_chr {h0 : Heap} {x b : Addr} {cs : List Int32} {i : Nat} {fm : Value} {zc : Int32} (hw : ∀ d ∈ tables_1, d.before a0 Z = true) (hEL : EW Z a0 EL) (hO : Old Z Z.heap.size h0) (U : US Z zc)(hFM : Sta Z Z.heap "jdk/internal/util/Preconditions" "SIOOBE_FORMATTER" "Ljava/util/function/BiFunction;" fm) (hfm : fm = .null ∨ ∃ a, fm = .ref a)(F : Str Z h0 x b cs) (hi : i < cs.length) :
    Ct true false Z EL l (⟨"java/lang/String", "charAt", "(I)C"⟩ : MethodName) jdk_42_method_56_code 2 (some .char) ({ frames := 4, cells := 0, slots := 0, locals := 64 } : Room) #[(.ref x), (.int (Int32.ofNat i))] h0 [] (QI h0 (cs.getD i 0)) := by
  refine ctOf (plainFor_of_name pn_java_lang_String) hO hEL ?_
  intro p e s m below meth c s₁ S0 X0 hby hml hret hnm hsf
  refine Go.entry (ef_jdk_42_method_56_code m x (Int32.ofNat i)) ?_
  show Go _ _ _ _ (s₁.setTop (mkF m 0 #[.val (.ref x), .val (.int (Int32.ofNat i))] []))
  refine blk X0 hby b84 (pc' := 1) (Ls' := #[.val (.ref x), .val (.int (Int32.ofNat i))]) (st' := [(.ref x)]) rfl ?_
  obtain ⟨hE, hV, hR, hC⟩ := F
  rcases hC with ⟨FC, VB, hl⟩ | ⟨FC, VB, hl⟩
  · skip
    show Go _ _ _ _ (s₁.setTop (mkF m 1 #[.val (.ref x), .val (.int (Int32.ofNat i))] [(.ref x)]))
    refine gVirt X0 hby (argsL := []) (st := []) (ct_isL hw hEL X0.old U FC) hE (hw _ (List.mem_of_getElem? (i := 65) rfl)) (hw _ (List.mem_of_getElem? (i := 66) rfl)) (hw _ (List.mem_of_getElem? (i := 68) rfl)) (hw _ (List.mem_of_getElem? (i := 67) rfl)) (hw _ (List.mem_of_getElem? (i := 7) rfl)) (hw _ (List.mem_of_getElem? (i := 69) rfl)) pd___Z rfl d_jdk_42_method_56_code_1 rfl (by rw [hml]; rfl) all0 (by decide) (Nat.le_of_ble_eq_true rfl) (by decide) (by decide) (fun v1 T1 h1 S1 X1 q1 sS1 sz1 => ?_)
    obtain ⟨rfl, rfl⟩ := q1
    show Go _ _ _ _ (T1.setTop (mkF m 4 #[.val (.ref x), .val (.int (Int32.ofNat i))] [(.int (if (0 : Int32) = 0 then 1 else 0))]))
    rw [show (if (0 : Int32) = 0 then (1 : Int32) else 0) = (1 : Int32) from by decide]
    show Go _ _ _ _ (T1.setTop (mkF m 4 #[.val (.ref x), .val (.int (Int32.ofNat i))] [(.int (1 : Int32))]))
    refine br0 X1 hby d_jdk_42_method_56_code_4 (pc1 := 16) (by decide) (fun hc => absurd (eqT hc) (by decide)) (fun hc => ?_)
    show Go _ _ _ _ (T1.setTop (mkF m 7 #[.val (.ref x), .val (.int (Int32.ofNat i))] []))
    refine blk X1 hby b85 (pc' := 8) (Ls' := #[.val (.ref x), .val (.int (Int32.ofNat i))]) (st' := [(.ref x)]) rfl ?_
    refine gGetF X1 hby (hw _ (List.mem_of_getElem? (i := 25) rfl)) Via.refl hV d_jdk_42_method_56_code_8 (fun T2 X2 => ?_)
    show Go _ _ _ _ (T2.setTop (mkF m 11 #[.val (.ref x), .val (.int (Int32.ofNat i))] [(.ref b)]))
    refine blk X2 hby b86 (pc' := 12) (Ls' := #[.val (.ref x), .val (.int (Int32.ofNat i))]) (st' := [(.int (Int32.ofNat i)), (.ref b)]) rfl ?_
    refine gStatic X2 hby (argsL := [(.ref b), (.int (Int32.ofNat i))]) (st := []) (ct_l1c hw hEL X2.old hFM hfm VB hi hR hl) (hw _ (List.mem_of_getElem? (i := 70) rfl)) (hw _ (List.mem_of_getElem? (i := 71) rfl)) (hw _ (List.mem_of_getElem? (i := 72) rfl)) (hw _ (List.mem_of_getElem? (i := 73) rfl)) pd___BI_C rfl d_jdk_42_method_56_code_12 rfl (by rw [hml]; rfl) all0 (by decide) (Nat.le_of_ble_eq_true rfl) (by decide) (by decide) (fun v3 T3 h3 S3 X3 q3 sS3 sz3 => ?_)
    obtain ⟨rfl, rfl⟩ := q3
    show Go _ _ _ _ (T3.setTop (mkF m 15 #[.val (.ref x), .val (.int (Int32.ofNat i))] [(.int (cs.getD i 0))]))
    exact retI' X3 hby hret d_jdk_42_method_56_code_15 (narC (hR _ (getD_mem hi))) (fun S' hS' => ⟨rfl, rfl⟩)
  · skip
    show Go _ _ _ _ (s₁.setTop (mkF m 1 #[.val (.ref x), .val (.int (Int32.ofNat i))] [(.ref x)]))
    refine gVirt X0 hby (argsL := []) (st := []) (ct_isL hw hEL X0.old U FC) hE (hw _ (List.mem_of_getElem? (i := 65) rfl)) (hw _ (List.mem_of_getElem? (i := 66) rfl)) (hw _ (List.mem_of_getElem? (i := 68) rfl)) (hw _ (List.mem_of_getElem? (i := 67) rfl)) (hw _ (List.mem_of_getElem? (i := 7) rfl)) (hw _ (List.mem_of_getElem? (i := 69) rfl)) pd___Z rfl d_jdk_42_method_56_code_1 rfl (by rw [hml]; rfl) all0 (by decide) (Nat.le_of_ble_eq_true rfl) (by decide) (by decide) (fun v1 T1 h1 S1 X1 q1 sS1 sz1 => ?_)
    obtain ⟨rfl, rfl⟩ := q1
    show Go _ _ _ _ (T1.setTop (mkF m 4 #[.val (.ref x), .val (.int (Int32.ofNat i))] [(.int (if (1 : Int32) = 0 then 1 else 0))]))
    rw [show (if (1 : Int32) = 0 then (1 : Int32) else 0) = (0 : Int32) from by decide]
    show Go _ _ _ _ (T1.setTop (mkF m 4 #[.val (.ref x), .val (.int (Int32.ofNat i))] [(.int (0 : Int32))]))
    refine br0 X1 hby d_jdk_42_method_56_code_4 (pc1 := 16) (by decide) (fun hc => ?_) (fun hc => absurd (eqF hc) (fun q => q rfl))
    show Go _ _ _ _ (T1.setTop (mkF m 16 #[.val (.ref x), .val (.int (Int32.ofNat i))] []))
    refine blk X1 hby b87 (pc' := 17) (Ls' := #[.val (.ref x), .val (.int (Int32.ofNat i))]) (st' := [(.ref x)]) rfl ?_
    refine gGetF X1 hby (hw _ (List.mem_of_getElem? (i := 25) rfl)) Via.refl hV d_jdk_42_method_56_code_17 (fun T2 X2 => ?_)
    show Go _ _ _ _ (T2.setTop (mkF m 20 #[.val (.ref x), .val (.int (Int32.ofNat i))] [(.ref b)]))
    refine blk X2 hby b88 (pc' := 21) (Ls' := #[.val (.ref x), .val (.int (Int32.ofNat i))]) (st' := [(.int (Int32.ofNat i)), (.ref b)]) rfl ?_
    refine gStatic X2 hby (argsL := [(.ref b), (.int (Int32.ofNat i))]) (st := []) (ct_uca hw hEL X2.old U hFM hfm VB hi hR) (hw _ (List.mem_of_getElem? (i := 129) rfl)) (hw _ (List.mem_of_getElem? (i := 130) rfl)) (hw _ (List.mem_of_getElem? (i := 39) rfl)) (hw _ (List.mem_of_getElem? (i := 131) rfl)) pd___BI_C rfl d_jdk_42_method_56_code_21 rfl (by rw [hml]; rfl) all0 (by decide) (Nat.le_of_ble_eq_true rfl) (by decide) (by decide) (fun v3 T3 h3 S3 X3 q3 sS3 sz3 => ?_)
    obtain ⟨rfl, rfl⟩ := q3
    show Go _ _ _ _ (T3.setTop (mkF m 24 #[.val (.ref x), .val (.int (Int32.ofNat i))] [(.int (cs.getD i 0))]))
    exact retI' X3 hby hret d_jdk_42_method_56_code_24 (narC (hR _ (getD_mem hi))) (fun S' hS' => ⟨rfl, rfl⟩)
theorem pf_java_lang_Mathmax_II_I : plainFor (⟨"java/lang/Math", "max", "(II)I"⟩ : MethodName) = true := by decide +kernel
theorem ef_jdk_29_method_65_code (m : MethodId) (x0 : Int32) (x1 : Int32) : entryFrame m #[(.int x0), (.int x1)] 2 = mkF m 0 #[.val (.int x0), .val (.int x1)] [] := by first | (simp [entryFrame, mkF, argsToLocals, Value.category]; done) | rfl
theorem b89 : decs jdk_29_method_65_code 0 [.iload_n 0, .iload_n 1] = true := by decide +kernel
theorem d_jdk_29_method_65_code_2 : decode jdk_29_method_65_code 2 = .ok (.if_icmp .lt 7, 3) := by decide +kernel
theorem b90 : decs jdk_29_method_65_code 9 [.iload_n 1] = true := by decide +kernel
theorem d_jdk_29_method_65_code_10 : decode jdk_29_method_65_code 10 = .ok (.ireturn, 1) := by decide +kernel
theorem b91 : decs jdk_29_method_65_code 5 [.iload_n 0, .goto 4] = true := by decide +kernel
set_option maxRecDepth 65536 in
set_option maxHeartbeats 40000000 in
theorem ct_max {h0 : Heap} {x y : Int32} (hw : ∀ d ∈ tables_1, d.before a0 Z = true) (hEL : EW Z a0 EL) (hO : Old Z Z.heap.size h0)  :
    Ct true false Z EL l (⟨"java/lang/Math", "max", "(II)I"⟩ : MethodName) jdk_29_method_65_code 2 (some .int) ({ frames := 0, cells := 0, slots := 0, locals := 0 } : Room) #[(.int x), (.int y)] h0 [] (QI h0 (if x < y then y else x)) := by
  refine ctOf pf_java_lang_Mathmax_II_I hO hEL ?_
  intro p e s m below meth c s₁ S0 X0 hby hml hret hnm hsf
  refine Go.entry (ef_jdk_29_method_65_code m x y) ?_
  show Go _ _ _ _ (s₁.setTop (mkF m 0 #[.val (.int x), .val (.int y)] []))
  refine blk X0 hby b89 (pc' := 2) (Ls' := #[.val (.int x), .val (.int y)]) (st' := [(.int y), (.int x)]) rfl ?_
  refine brI X0 hby d_jdk_29_method_65_code_2 (pc1 := 9) (by decide) (fun hc => ?_) (fun hc => ?_)
  · replace hc := ltT hc
    show Go _ _ _ _ (s₁.setTop (mkF m 9 #[.val (.int x), .val (.int y)] []))
    refine blk X0 hby b90 (pc' := 10) (Ls' := #[.val (.int x), .val (.int y)]) (st' := [(.int y)]) rfl ?_
    exact retI' X0 hby hret d_jdk_29_method_65_code_10 rfl (fun S' hS' => ⟨by rw [if_pos hc], rfl⟩)
  · replace hc := ltF hc
    show Go _ _ _ _ (s₁.setTop (mkF m 5 #[.val (.int x), .val (.int y)] []))
    refine blk X0 hby b91 (pc' := 10) (Ls' := #[.val (.int x), .val (.int y)]) (st' := [(.int x)]) rfl ?_
    exact retI' X0 hby hret d_jdk_29_method_65_code_10 rfl (fun S' hS' => ⟨by rw [if_neg hc], rfl⟩)
theorem pf_java_lang_Mathmin_II_I : plainFor (⟨"java/lang/Math", "min", "(II)I"⟩ : MethodName) = true := by decide +kernel
theorem ef_jdk_29_method_69_code (m : MethodId) (x0 : Int32) (x1 : Int32) : entryFrame m #[(.int x0), (.int x1)] 2 = mkF m 0 #[.val (.int x0), .val (.int x1)] [] := by first | (simp [entryFrame, mkF, argsToLocals, Value.category]; done) | rfl
theorem b92 : decs jdk_29_method_69_code 0 [.iload_n 0, .iload_n 1] = true := by decide +kernel
theorem d_jdk_29_method_69_code_2 : decode jdk_29_method_69_code 2 = .ok (.if_icmp .gt 7, 3) := by decide +kernel
theorem b93 : decs jdk_29_method_69_code 9 [.iload_n 1] = true := by decide +kernel
theorem d_jdk_29_method_69_code_10 : decode jdk_29_method_69_code 10 = .ok (.ireturn, 1) := by decide +kernel
theorem b94 : decs jdk_29_method_69_code 5 [.iload_n 0, .goto 4] = true := by decide +kernel
set_option maxRecDepth 65536 in
set_option maxHeartbeats 40000000 in
theorem ct_min {h0 : Heap} {x y : Int32} (hw : ∀ d ∈ tables_1, d.before a0 Z = true) (hEL : EW Z a0 EL) (hO : Old Z Z.heap.size h0)  :
    Ct true false Z EL l (⟨"java/lang/Math", "min", "(II)I"⟩ : MethodName) jdk_29_method_69_code 2 (some .int) ({ frames := 0, cells := 0, slots := 0, locals := 0 } : Room) #[(.int x), (.int y)] h0 [] (QI h0 (if y < x then y else x)) := by
  refine ctOf pf_java_lang_Mathmin_II_I hO hEL ?_
  intro p e s m below meth c s₁ S0 X0 hby hml hret hnm hsf
  refine Go.entry (ef_jdk_29_method_69_code m x y) ?_
  show Go _ _ _ _ (s₁.setTop (mkF m 0 #[.val (.int x), .val (.int y)] []))
  refine blk X0 hby b92 (pc' := 2) (Ls' := #[.val (.int x), .val (.int y)]) (st' := [(.int y), (.int x)]) rfl ?_
  refine brI X0 hby d_jdk_29_method_69_code_2 (pc1 := 9) (by decide) (fun hc => ?_) (fun hc => ?_)
  · replace hc := gtT hc
    show Go _ _ _ _ (s₁.setTop (mkF m 9 #[.val (.int x), .val (.int y)] []))
    refine blk X0 hby b93 (pc' := 10) (Ls' := #[.val (.int x), .val (.int y)]) (st' := [(.int y)]) rfl ?_
    exact retI' X0 hby hret d_jdk_29_method_69_code_10 rfl (fun S' hS' => ⟨by rw [if_pos hc], rfl⟩)
  · replace hc := gtF hc
    show Go _ _ _ _ (s₁.setTop (mkF m 5 #[.val (.int x), .val (.int y)] []))
    refine blk X0 hby b94 (pc' := 10) (Ls' := #[.val (.int x), .val (.int y)]) (st' := [(.int x)]) rfl ?_
    exact retI' X0 hby hret d_jdk_29_method_69_code_10 rfl (fun S' hS' => ⟨by rw [if_neg hc], rfl⟩)
theorem ef_jdk_43_method_4_code (m : MethodId) (x0 : Int32) : entryFrame m #[(.int x0)] 1 = mkF m 0 #[.val (.int x0)] [] := by first | (simp [entryFrame, mkF, argsToLocals, Value.category]; done) | rfl
theorem b95 : decs jdk_43_method_4_code 0 [.iload_n 0] = true := by decide +kernel
theorem d_jdk_43_method_4_code_1 : decode jdk_43_method_4_code 1 = .ok (.ifCond .lt 14, 3) := by decide +kernel
theorem b96 : decs jdk_43_method_4_code 4 [.iload_n 0, .sipush 255] = true := by decide +kernel
theorem d_jdk_43_method_4_code_8 : decode jdk_43_method_4_code 8 = .ok (.if_icmp .gt 7, 3) := by decide +kernel
theorem b97 : decs jdk_43_method_4_code 15 [.iconst 0] = true := by decide +kernel
theorem d_jdk_43_method_4_code_16 : decode jdk_43_method_4_code 16 = .ok (.ireturn, 1) := by decide +kernel
theorem b98 : decs jdk_43_method_4_code 11 [.iconst 1, .goto 4] = true := by decide +kernel
set_option maxRecDepth 65536 in
set_option maxHeartbeats 40000000 in
theorem ct_cen {h0 : Heap} {x : Int32} (hw : ∀ d ∈ tables_1, d.before a0 Z = true) (hEL : EW Z a0 EL) (hO : Old Z Z.heap.size h0) (h0x : ¬ x < 0) :
    Ct true false Z EL l (⟨"java/lang/StringLatin1", "canEncode", "(I)Z"⟩ : MethodName) jdk_43_method_4_code 1 (some .boolean) ({ frames := 0, cells := 0, slots := 0, locals := 0 } : Room) #[(.int x)] h0 [] (QI h0 (if 255 < x then 0 else 1)) := by
  refine ctOf (plainFor_of_name pn_java_lang_StringLatin1) hO hEL ?_
  intro p e s m below meth c s₁ S0 X0 hby hml hret hnm hsf
  refine Go.entry (ef_jdk_43_method_4_code m x) ?_
  show Go _ _ _ _ (s₁.setTop (mkF m 0 #[.val (.int x)] []))
  refine blk X0 hby b95 (pc' := 1) (Ls' := #[.val (.int x)]) (st' := [(.int x)]) rfl ?_
  refine br0 X0 hby d_jdk_43_method_4_code_1 (pc1 := 15) (by decide) (fun hc => absurd (ltT hc) (h0x)) (fun hc => ?_)
  show Go _ _ _ _ (s₁.setTop (mkF m 4 #[.val (.int x)] []))
  refine blk X0 hby b96 (pc' := 8) (Ls' := #[.val (.int x)]) (st' := [(.int (255 : Int32)), (.int x)]) rfl ?_
  refine brI X0 hby d_jdk_43_method_4_code_8 (pc1 := 15) (by decide) (fun hd => ?_) (fun hd => ?_)
  · replace hd := gtT hd
    show Go _ _ _ _ (s₁.setTop (mkF m 15 #[.val (.int x)] []))
    refine blk X0 hby b97 (pc' := 16) (Ls' := #[.val (.int x)]) (st' := [(.int (0 : Int32))]) rfl ?_
    exact retI' X0 hby hret d_jdk_43_method_4_code_16 rfl (fun S' hS' => ⟨by rw [if_pos hd], rfl⟩)
  · replace hd := gtF hd
    show Go _ _ _ _ (s₁.setTop (mkF m 11 #[.val (.int x)] []))
    refine blk X0 hby b98 (pc' := 16) (Ls' := #[.val (.int x)]) (st' := [(.int (1 : Int32))]) rfl ?_
    exact retI' X0 hby hret d_jdk_43_method_4_code_16 rfl (fun S' hS' => ⟨by rw [if_neg hd], rfl⟩)
theorem ef_jdk_43_method_23_code (m : MethodId) (x0 : Addr) (x1 : Int32) (x2 : Int32) (x3 : Int32) : entryFrame m #[(.ref x0), (.int x1), (.int x2), (.int x3)] 6 = mkF m 0 #[.val (.ref x0), .val (.int x1), .val (.int x2), .val (.int x3), .unset, .unset] [] := by first | (simp [entryFrame, mkF, argsToLocals, Value.category]; done) | rfl
theorem b99 : decs jdk_43_method_23_code 0 [.iload_n 1, .i2b, .istore 4, .iload_n 2, .istore 5] = true := by decide +kernel
theorem b100 : decs jdk_43_method_23_code 7 [.iload 5, .iload_n 3] = true := by decide +kernel
theorem d_jdk_43_method_23_code_10 : decode jdk_43_method_23_code 10 = .ok (.if_icmp .ge 21, 3) := by decide +kernel
theorem b101 : decs jdk_43_method_23_code 31 [.iconst (-1)] = true := by decide +kernel
theorem d_jdk_43_method_23_code_32 : decode jdk_43_method_23_code 32 = .ok (.ireturn, 1) := by decide +kernel
theorem b102 : decs jdk_43_method_23_code 7 [.iload 5, .iload_n 3] = true := by decide +kernel
theorem b103 : decs jdk_43_method_23_code 13 [.aload_n 0, .iload 5] = true := by decide +kernel
theorem d_jdk_43_method_23_code_16 : decode jdk_43_method_23_code 16 = .ok (.baload, 1) := by decide +kernel
theorem b104 : decs jdk_43_method_23_code 17 [.iload 4] = true := by decide +kernel
theorem d_jdk_43_method_23_code_19 : decode jdk_43_method_23_code 19 = .ok (.if_icmp .ne 6, 3) := by decide +kernel
theorem b105 : decs jdk_43_method_23_code 25 [.iinc 5 1, .goto (-21)] = true := by decide +kernel
theorem b106 : decs jdk_43_method_23_code 22 [.iload 5] = true := by decide +kernel
theorem d_jdk_43_method_23_code_24 : decode jdk_43_method_23_code 24 = .ok (.ireturn, 1) := by decide +kernel
def QX (h0 : Heap) (P : Prop) (v : Option Value) (h : Heap) (S : Addr → Prop) : Prop := ∃ r, v = some (.int r) ∧ h0 = h ∧ (¬ r < 0 ↔ P)
set_option maxRecDepth 65536 in
set_option maxHeartbeats 40000000 in
theorem ct_ioc {h0 : Heap} {b : Addr} {ys : List Int32} {x : Int32} (hw : ∀ d ∈ tables_1, d.before a0 Z = true) (hEL : EW Z a0 EL) (hO : Old Z Z.heap.size h0) (VB : Ari Z h0 b .byte ys) :
    Ct true false Z EL l (⟨"java/lang/StringLatin1", "indexOfChar", "([BIII)I"⟩ : MethodName) jdk_43_method_23_code 6 (some .int) ({ frames := 0, cells := 0, slots := 0, locals := 0 } : Room) #[(.ref b), (.int x), (.int (0 : Int32)), (.int (Int32.ofNat ys.length))] h0 [] (QX h0 (lo8 x ∈ ys)) := by
  refine ctOf (plainFor_of_name pn_java_lang_StringLatin1) hO hEL ?_
  intro p e s m below meth c s₁ S0 X0 hby hml hret hnm hsf
  refine Go.entry (ef_jdk_43_method_23_code m b x (0 : Int32) (Int32.ofNat ys.length)) ?_
  show Go _ _ _ _ (s₁.setTop (mkF m 0 #[.val (.ref b), .val (.int x), .val (.int (0 : Int32)), .val (.int (Int32.ofNat ys.length)), .unset, .unset] []))
  refine blk X0 hby b99 (pc' := 7) (Ls' := #[.val (.ref b), .val (.int x), .val (.int (0 : Int32)), .val (.int (Int32.ofNat ys.length)), .val (.int (lo8 x)), .val (.int (0 : Int32))]) (st' := []) rfl ?_
  have hL := VB.len
  have loop : ∀ (n i : Nat), n + i = ys.length → (∀ j, j < i → ¬ ys.getD j 0 = lo8 x) → Go p e below (Pst true Z EL ({ frames := 0, cells := 0, slots := 0, locals := 0 } : Room).cells ({ frames := 0, cells := 0, slots := 0, locals := 0 } : Room).slots (QX h0 (lo8 x ∈ ys)) s) (s₁.setTop (mkF m 7 #[.val (.ref b), .val (.int x), .val (.int (0 : Int32)), .val (.int (Int32.ofNat ys.length)), .val (.int (lo8 x)), .val (.int (Int32.ofNat i))] [])) := by
    intro n
    induction n with
    | zero =>
      intro i hn hy
      have hi31 : i < 2147483648 := by omega
      refine blk X0 hby b100 (pc' := 10) (Ls' := #[.val (.ref b), .val (.int x), .val (.int (0 : Int32)), .val (.int (Int32.ofNat ys.length)), .val (.int (lo8 x)), .val (.int (Int32.ofNat i))]) (st' := [(.int (Int32.ofNat ys.length)), (.int (Int32.ofNat i))]) rfl ?_
      refine brI X0 hby d_jdk_43_method_23_code_10 (pc1 := 31) (by decide) (fun hc => ?_) (fun hc => absurd (geF hc) (by rw [lt32 hi31 hL]; omega))
      show Go _ _ _ _ (s₁.setTop (mkF m 31 #[.val (.ref b), .val (.int x), .val (.int (0 : Int32)), .val (.int (Int32.ofNat ys.length)), .val (.int (lo8 x)), .val (.int (Int32.ofNat i))] []))
      refine blk X0 hby b101 (pc' := 32) (Ls' := #[.val (.ref b), .val (.int x), .val (.int (0 : Int32)), .val (.int (Int32.ofNat ys.length)), .val (.int (lo8 x)), .val (.int (Int32.ofNat i))]) (st' := [(.int (-1 : Int32))]) rfl ?_
      exact retI' X0 hby hret d_jdk_43_method_23_code_32 rfl (fun S' hS' => ⟨_, rfl, rfl, ⟨fun q => absurd (by decide) q, fun q => by obtain ⟨j, hj, e⟩ := List.mem_iff_getElem.mp q; exact absurd (by simp [List.getD_eq_getElem?_getD, hj, e]) (hy j (by omega))⟩⟩)
    | succ n ih =>
      intro i hn hy
      have hi31 : i < 2147483648 := by omega
      refine blk X0 hby b102 (pc' := 10) (Ls' := #[.val (.ref b), .val (.int x), .val (.int (0 : Int32)), .val (.int (Int32.ofNat ys.length)), .val (.int (lo8 x)), .val (.int (Int32.ofNat i))]) (st' := [(.int (Int32.ofNat ys.length)), (.int (Int32.ofNat i))]) rfl ?_
      have hil : i < ys.length := by omega
      refine brI X0 hby d_jdk_43_method_23_code_10 (pc1 := 31) (by decide) (fun hc => absurd (geT hc) (fun q => q (by rw [lt32 hi31 hL]; omega))) (fun hc => ?_)
      show Go _ _ _ _ (s₁.setTop (mkF m 13 #[.val (.ref b), .val (.int x), .val (.int (0 : Int32)), .val (.int (Int32.ofNat ys.length)), .val (.int (lo8 x)), .val (.int (Int32.ofNat i))] []))
      refine blk X0 hby b103 (pc' := 16) (Ls' := #[.val (.ref b), .val (.int x), .val (.int (0 : Int32)), .val (.int (Int32.ofNat ys.length)), .val (.int (lo8 x)), .val (.int (Int32.ofNat i))]) (st' := [(.int (Int32.ofNat i)), (.ref b)]) rfl ?_
      refine gLd X0 hby VB (Or.inr (Or.inr ⟨rfl, rfl⟩)) d_jdk_43_method_23_code_16 (i := i) rfl hil ?_
      show Go _ _ _ _ (s₁.setTop (mkF m 17 #[.val (.ref b), .val (.int x), .val (.int (0 : Int32)), .val (.int (Int32.ofNat ys.length)), .val (.int (lo8 x)), .val (.int (Int32.ofNat i))] [(.int (ys.getD i 0))]))
      refine blk X0 hby b104 (pc' := 19) (Ls' := #[.val (.ref b), .val (.int x), .val (.int (0 : Int32)), .val (.int (Int32.ofNat ys.length)), .val (.int (lo8 x)), .val (.int (Int32.ofNat i))]) (st' := [(.int (lo8 x)), (.int (ys.getD i 0))]) rfl ?_
      refine brI X0 hby d_jdk_43_method_23_code_19 (pc1 := 25) (by decide) (fun hd => ?_) (fun hd => ?_)
      · replace hd := neT hd
        show Go _ _ _ _ (s₁.setTop (mkF m 25 #[.val (.ref b), .val (.int x), .val (.int (0 : Int32)), .val (.int (Int32.ofNat ys.length)), .val (.int (lo8 x)), .val (.int (Int32.ofNat i))] []))
        refine blk X0 hby b105 (pc' := 7) (Ls' := #[.val (.ref b), .val (.int x), .val (.int (0 : Int32)), .val (.int (Int32.ofNat ys.length)), .val (.int (lo8 x)), .val (.int ((Int32.ofNat i) + (1 : Int32)))]) (st' := []) rfl ?_
        rw [succ32]
        refine ih (i + 1) (by omega) (fun j hj => ?_)
        by_cases q : j = i
        · subst q; exact hd
        · exact hy j (by omega)
      · replace hd := neF hd
        show Go _ _ _ _ (s₁.setTop (mkF m 22 #[.val (.ref b), .val (.int x), .val (.int (0 : Int32)), .val (.int (Int32.ofNat ys.length)), .val (.int (lo8 x)), .val (.int (Int32.ofNat i))] []))
        refine blk X0 hby b106 (pc' := 24) (Ls' := #[.val (.ref b), .val (.int x), .val (.int (0 : Int32)), .val (.int (Int32.ofNat ys.length)), .val (.int (lo8 x)), .val (.int (Int32.ofNat i))]) (st' := [(.int (Int32.ofNat i))]) rfl ?_
        exact retI' X0 hby hret d_jdk_43_method_23_code_24 rfl (fun S' hS' => ⟨_, rfl, rfl, ⟨fun _ => hd ▸ getD_mem hil, fun _ => nn32 hi31⟩⟩)
  exact loop ys.length 0 (by omega) (fun j hj => absurd hj (Nat.not_lt_zero _))
theorem ef_jdk_43_method_22_code (m : MethodId) (x0 : Addr) (x1 : Int32) (x2 : Int32) (x3 : Int32) : entryFrame m #[(.ref x0), (.int x1), (.int x2), (.int x3)] 4 = mkF m 0 #[.val (.ref x0), .val (.int x1), .val (.int x2), .val (.int x3)] [] := by first | (simp [entryFrame, mkF, argsToLocals, Value.category]; done) | rfl
theorem b107 : decs jdk_43_method_22_code 0 [.iload_n 1] = true := by decide +kernel
theorem d_jdk_43_method_22_code_1 : decode jdk_43_method_22_code 1 = .ok (.invokestatic 88, 3) := by decide +kernel
theorem pd__I_Z : parseMethodDescriptor "(I)Z" = some ⟨[.int], (some .boolean)⟩ := by decide +kernel
theorem d_jdk_43_method_22_code_4 : decode jdk_43_method_22_code 4 = .ok (.ifCond .ne 5, 3) := by decide +kernel
theorem b108 : decs jdk_43_method_22_code 9 [.iload_n 2, .iconst 0] = true := by decide +kernel
theorem d_jdk_43_method_22_code_11 : decode jdk_43_method_22_code 11 = .ok (.invokestatic 92, 3) := by decide +kernel
theorem pd__II_I : parseMethodDescriptor "(II)I" = some ⟨[.int, .int], (some .int)⟩ := by decide +kernel
theorem b109 : decs jdk_43_method_22_code 14 [.istore_n 2, .iload_n 3, .aload_n 0] = true := by decide +kernel
theorem d_jdk_43_method_22_code_17 : decode jdk_43_method_22_code 17 = .ok (.arraylength, 1) := by decide +kernel
theorem d_jdk_43_method_22_code_18 : decode jdk_43_method_22_code 18 = .ok (.invokestatic 38, 3) := by decide +kernel
theorem b110 : decs jdk_43_method_22_code 21 [.istore_n 3, .iload_n 2, .iload_n 3] = true := by decide +kernel
theorem d_jdk_43_method_22_code_24 : decode jdk_43_method_22_code 24 = .ok (.if_icmp .lt 5, 3) := by decide +kernel
theorem b111 : decs jdk_43_method_22_code 29 [.aload_n 0, .iload_n 1, .iload_n 2, .iload_n 3] = true := by decide +kernel
theorem d_jdk_43_method_22_code_33 : decode jdk_43_method_22_code 33 = .ok (.invokestatic 95, 3) := by decide +kernel
theorem pd___BIII_I : parseMethodDescriptor "([BIII)I" = some ⟨[(.array .byte), .int, .int, .int], (some .int)⟩ := by decide +kernel
theorem d_jdk_43_method_22_code_36 : decode jdk_43_method_22_code 36 = .ok (.ireturn, 1) := by decide +kernel
theorem b112 : decs jdk_43_method_22_code 27 [.iconst (-1)] = true := by decide +kernel
theorem d_jdk_43_method_22_code_28 : decode jdk_43_method_22_code 28 = .ok (.ireturn, 1) := by decide +kernel
theorem b113 : decs jdk_43_method_22_code 7 [.iconst (-1)] = true := by decide +kernel
theorem d_jdk_43_method_22_code_8 : decode jdk_43_method_22_code 8 = .ok (.ireturn, 1) := by decide +kernel
set_option maxRecDepth 65536 in
set_option maxHeartbeats 40000000 in
theorem ct_lio {h0 : Heap} {b : Addr} {ys : List Int32} {x : Int32} (hw : ∀ d ∈ tables_1, d.before a0 Z = true) (hEL : EW Z a0 EL) (hO : Old Z Z.heap.size h0) (VB : Ari Z h0 b .byte ys) (h0x : ¬ x < 0) :
    Ct true false Z EL l (⟨"java/lang/StringLatin1", "indexOf", "([BIII)I"⟩ : MethodName) jdk_43_method_22_code 4 (some .int) ({ frames := 1, cells := 0, slots := 0, locals := 20 } : Room) #[(.ref b), (.int x), (.int (0 : Int32)), (.int (Int32.ofNat ys.length))] h0 [] (QX h0 (¬ 255 < x ∧ lo8 x ∈ ys)) := by
  refine ctOf (plainFor_of_name pn_java_lang_StringLatin1) hO hEL ?_
  intro p e s m below meth c s₁ S0 X0 hby hml hret hnm hsf
  refine Go.entry (ef_jdk_43_method_22_code m b x (0 : Int32) (Int32.ofNat ys.length)) ?_
  show Go _ _ _ _ (s₁.setTop (mkF m 0 #[.val (.ref b), .val (.int x), .val (.int (0 : Int32)), .val (.int (Int32.ofNat ys.length))] []))
  refine blk X0 hby b107 (pc' := 1) (Ls' := #[.val (.ref b), .val (.int x), .val (.int (0 : Int32)), .val (.int (Int32.ofNat ys.length))]) (st' := [(.int x)]) rfl ?_
  refine gStatic X0 hby (argsL := [(.int x)]) (st := []) (ct_cen hw hEL X0.old h0x) (hw _ (List.mem_of_getElem? (i := 97) rfl)) (hw _ (List.mem_of_getElem? (i := 98) rfl)) (hw _ (List.mem_of_getElem? (i := 72) rfl)) (hw _ (List.mem_of_getElem? (i := 99) rfl)) pd__I_Z rfl d_jdk_43_method_22_code_1 rfl (by rw [hml]; rfl) all0 (by decide) (Nat.le_of_ble_eq_true rfl) (by decide) (by decide) (fun v1 T1 h1 S1 X1 q1 sS1 sz1 => ?_)
  obtain ⟨rfl, rfl⟩ := q1
  show Go _ _ _ _ (T1.setTop (mkF m 4 #[.val (.ref b), .val (.int x), .val (.int (0 : Int32)), .val (.int (Int32.ofNat ys.length))] [(.int (if 255 < x then 0 else 1))]))
  refine br0 X1 hby d_jdk_43_method_22_code_4 (pc1 := 9) (by decide) (fun hc => ?_) (fun hc => ?_)
  · replace hc := neT hc
    show Go _ _ _ _ (T1.setTop (mkF m 9 #[.val (.ref b), .val (.int x), .val (.int (0 : Int32)), .val (.int (Int32.ofNat ys.length))] []))
    have hx : ¬ 255 < x := fun q => hc (by rw [if_pos q])
    refine blk X1 hby b108 (pc' := 11) (Ls' := #[.val (.ref b), .val (.int x), .val (.int (0 : Int32)), .val (.int (Int32.ofNat ys.length))]) (st' := [(.int (0 : Int32)), (.int (0 : Int32))]) rfl ?_
    refine gStatic X1 hby (argsL := [(.int (0 : Int32)), (.int (0 : Int32))]) (st := []) (ct_max hw hEL X1.old) (hw _ (List.mem_of_getElem? (i := 100) rfl)) (hw _ (List.mem_of_getElem? (i := 101) rfl)) (hw _ (List.mem_of_getElem? (i := 102) rfl)) (hw _ (List.mem_of_getElem? (i := 103) rfl)) pd__II_I rfl d_jdk_43_method_22_code_11 rfl (by rw [hml]; rfl) all0 (by decide) (Nat.le_of_ble_eq_true rfl) (by decide) (by decide) (fun v2 T2 h2 S2 X2 q2 sS2 sz2 => ?_)
    obtain ⟨rfl, rfl⟩ := q2
    show Go _ _ _ _ (T2.setTop (mkF m 14 #[.val (.ref b), .val (.int x), .val (.int (0 : Int32)), .val (.int (Int32.ofNat ys.length))] [(.int (if (0 : Int32) < 0 then 0 else 0))]))
    rw [ite_self]
    show Go _ _ _ _ (T2.setTop (mkF m 14 #[.val (.ref b), .val (.int x), .val (.int (0 : Int32)), .val (.int (Int32.ofNat ys.length))] [(.int (0 : Int32))]))
    refine blk X2 hby b109 (pc' := 17) (Ls' := #[.val (.ref b), .val (.int x), .val (.int (0 : Int32)), .val (.int (Int32.ofNat ys.length))]) (st' := [(.ref b), (.int (Int32.ofNat ys.length))]) rfl ?_
    refine gLen X2 hby VB d_jdk_43_method_22_code_17 ?_
    show Go _ _ _ _ (T2.setTop (mkF m 18 #[.val (.ref b), .val (.int x), .val (.int (0 : Int32)), .val (.int (Int32.ofNat ys.length))] [(.int (Int32.ofNat ys.length)), (.int (Int32.ofNat ys.length))]))
    refine gStatic X2 hby (argsL := [(.int (Int32.ofNat ys.length)), (.int (Int32.ofNat ys.length))]) (st := []) (ct_min hw hEL X2.old) (hw _ (List.mem_of_getElem? (i := 104) rfl)) (hw _ (List.mem_of_getElem? (i := 105) rfl)) (hw _ (List.mem_of_getElem? (i := 102) rfl)) (hw _ (List.mem_of_getElem? (i := 106) rfl)) pd__II_I rfl d_jdk_43_method_22_code_18 rfl (by rw [hml]; rfl) all0 (by decide) (Nat.le_of_ble_eq_true rfl) (by decide) (by decide) (fun v3 T3 h3 S3 X3 q3 sS3 sz3 => ?_)
    obtain ⟨rfl, rfl⟩ := q3
    show Go _ _ _ _ (T3.setTop (mkF m 21 #[.val (.ref b), .val (.int x), .val (.int (0 : Int32)), .val (.int (Int32.ofNat ys.length))] [(.int (if Int32.ofNat ys.length < Int32.ofNat ys.length then Int32.ofNat ys.length else Int32.ofNat ys.length))]))
    rw [ite_self]
    show Go _ _ _ _ (T3.setTop (mkF m 21 #[.val (.ref b), .val (.int x), .val (.int (0 : Int32)), .val (.int (Int32.ofNat ys.length))] [(.int (Int32.ofNat ys.length))]))
    refine blk X3 hby b110 (pc' := 24) (Ls' := #[.val (.ref b), .val (.int x), .val (.int (0 : Int32)), .val (.int (Int32.ofNat ys.length))]) (st' := [(.int (Int32.ofNat ys.length)), (.int (0 : Int32))]) rfl ?_
    refine brI X3 hby d_jdk_43_method_22_code_24 (pc1 := 29) (by decide) (fun hd => ?_) (fun hd => ?_)
    · replace hd := ltT hd
      show Go _ _ _ _ (T3.setTop (mkF m 29 #[.val (.ref b), .val (.int x), .val (.int (0 : Int32)), .val (.int (Int32.ofNat ys.length))] []))
      refine blk X3 hby b111 (pc' := 33) (Ls' := #[.val (.ref b), .val (.int x), .val (.int (0 : Int32)), .val (.int (Int32.ofNat ys.length))]) (st' := [(.int (Int32.ofNat ys.length)), (.int (0 : Int32)), (.int x), (.ref b)]) rfl ?_
      refine gStatic X3 hby (argsL := [(.ref b), (.int x), (.int (0 : Int32)), (.int (Int32.ofNat ys.length))]) (st := []) (ct_ioc hw hEL X3.old VB) (hw _ (List.mem_of_getElem? (i := 107) rfl)) (hw _ (List.mem_of_getElem? (i := 108) rfl)) (hw _ (List.mem_of_getElem? (i := 72) rfl)) (hw _ (List.mem_of_getElem? (i := 109) rfl)) pd___BIII_I rfl d_jdk_43_method_22_code_33 rfl (by rw [hml]; rfl) all0 (by decide) (Nat.le_of_ble_eq_true rfl) (by decide) (by decide) (fun v4 T4 h4 S4 X4 q4 sS4 sz4 => ?_)
      obtain ⟨r, rfl, rfl, hr⟩ := q4
      show Go _ _ _ _ (T4.setTop (mkF m 36 #[.val (.ref b), .val (.int x), .val (.int (0 : Int32)), .val (.int (Int32.ofNat ys.length))] [(.int r)]))
      exact retI' X4 hby hret d_jdk_43_method_22_code_36 rfl (fun S' hS' => ⟨_, rfl, rfl, hr.trans ⟨fun q => ⟨hx, q⟩, fun q => q.2⟩⟩)
    · replace hd := ltF hd
      show Go _ _ _ _ (T3.setTop (mkF m 27 #[.val (.ref b), .val (.int x), .val (.int (0 : Int32)), .val (.int (Int32.ofNat ys.length))] []))
      refine blk X3 hby b112 (pc' := 28) (Ls' := #[.val (.ref b), .val (.int x), .val (.int (0 : Int32)), .val (.int (Int32.ofNat ys.length))]) (st' := [(.int (-1 : Int32))]) rfl ?_
      have he : ys = [] := List.length_eq_zero_iff.mp (Nat.eq_zero_of_not_pos (fun q => hd ((lt32 (i := 0) (by omega) VB.len).mpr q)))
      exact retI' X3 hby hret d_jdk_43_method_22_code_28 rfl (fun S' hS' => ⟨_, rfl, rfl, ⟨fun q => absurd (by decide) q, fun q => by rw [he] at q; exact absurd q.2 (by simp)⟩⟩)
  · replace hc := neF hc
    show Go _ _ _ _ (T1.setTop (mkF m 7 #[.val (.ref b), .val (.int x), .val (.int (0 : Int32)), .val (.int (Int32.ofNat ys.length))] []))
    have hx : 255 < x := Classical.byContradiction fun q => by rw [if_neg q] at hc; exact absurd hc (by decide)
    refine blk X1 hby b113 (pc' := 8) (Ls' := #[.val (.ref b), .val (.int x), .val (.int (0 : Int32)), .val (.int (Int32.ofNat ys.length))]) (st' := [(.int (-1 : Int32))]) rfl ?_
    exact retI' X1 hby hret d_jdk_43_method_22_code_8 rfl (fun S' hS' => ⟨_, rfl, rfl, ⟨fun q => absurd (by decide) q, fun q => absurd hx q.1⟩⟩)
theorem ef_jdk_42_method_80_code (m : MethodId) (x0 : Addr) (x1 : Int32) (x2 : Int32) : entryFrame m #[(.ref x0), (.int x1), (.int x2)] 3 = mkF m 0 #[.val (.ref x0), .val (.int x1), .val (.int x2)] [] := by first | (simp [entryFrame, mkF, argsToLocals, Value.category]; done) | rfl
theorem b114 : decs jdk_42_method_80_code 0 [.aload_n 0] = true := by decide +kernel
theorem d_jdk_42_method_80_code_1 : decode jdk_42_method_80_code 1 = .ok (.invokevirtual 492, 3) := by decide +kernel
theorem d_jdk_42_method_80_code_4 : decode jdk_42_method_80_code 4 = .ok (.ifCond .eq 19, 3) := by decide +kernel
theorem b115 : decs jdk_42_method_80_code 7 [.aload_n 0] = true := by decide +kernel
theorem d_jdk_42_method_80_code_8 : decode jdk_42_method_80_code 8 = .ok (.getfield 9, 3) := by decide +kernel
theorem b116 : decs jdk_42_method_80_code 11 [.iload_n 1, .iload_n 2, .aload_n 0] = true := by decide +kernel
theorem d_jdk_42_method_80_code_14 : decode jdk_42_method_80_code 14 = .ok (.invokevirtual 505, 3) := by decide +kernel
theorem pd___I : parseMethodDescriptor "()I" = some ⟨[], (some .int)⟩ := by decide +kernel
theorem d_jdk_42_method_80_code_17 : decode jdk_42_method_80_code 17 = .ok (.invokestatic 637, 3) := by decide +kernel
theorem b117 : decs jdk_42_method_80_code 20 [.goto 16] = true := by decide +kernel
theorem d_jdk_42_method_80_code_36 : decode jdk_42_method_80_code 36 = .ok (.ireturn, 1) := by decide +kernel
set_option maxRecDepth 65536 in
set_option maxHeartbeats 40000000 in
theorem ct_io2 {h0 : Heap} {x b : Addr} {cs : List Int32} {y zc : Int32} (hw : ∀ d ∈ tables_1, d.before a0 Z = true) (hEL : EW Z a0 EL) (hO : Old Z Z.heap.size h0) (U : US Z zc) (hE : Exa Z h0 x "java/lang/String") (hV : Fld Z h0 x "java/lang/String" "value" "[B" (.ref b)) (FC : Fld Z h0 x "java/lang/String" "coder" "B" (.int 0)) (VB : Ari Z h0 b .byte (cs.map lo8)) (hR : ∀ c ∈ cs, ¬ c < 0 ∧ ¬ 65535 < c) (hl : ∀ c ∈ cs, ¬ 255 < c) (h0x : ¬ y < 0) :
    Ct true false Z EL l (⟨"java/lang/String", "indexOf", "(II)I"⟩ : MethodName) jdk_42_method_80_code 3 (some .int) ({ frames := 2, cells := 0, slots := 0, locals := 40 } : Room) #[(.ref x), (.int y), (.int (0 : Int32))] h0 [] (QX h0 (y ∈ cs)) := by
  refine ctOf (plainFor_of_name pn_java_lang_String) hO hEL ?_
  intro p e s m below meth c s₁ S0 X0 hby hml hret hnm hsf
  refine Go.entry (ef_jdk_42_method_80_code m x y (0 : Int32)) ?_
  show Go _ _ _ _ (s₁.setTop (mkF m 0 #[.val (.ref x), .val (.int y), .val (.int (0 : Int32))] []))
  refine blk X0 hby b114 (pc' := 1) (Ls' := #[.val (.ref x), .val (.int y), .val (.int (0 : Int32))]) (st' := [(.ref x)]) rfl ?_
  refine gVirt X0 hby (argsL := []) (st := []) (ct_isL hw hEL X0.old U FC) hE (hw _ (List.mem_of_getElem? (i := 65) rfl)) (hw _ (List.mem_of_getElem? (i := 66) rfl)) (hw _ (List.mem_of_getElem? (i := 68) rfl)) (hw _ (List.mem_of_getElem? (i := 67) rfl)) (hw _ (List.mem_of_getElem? (i := 7) rfl)) (hw _ (List.mem_of_getElem? (i := 69) rfl)) pd___Z rfl d_jdk_42_method_80_code_1 rfl (by rw [hml]; rfl) all0 (by decide) (Nat.le_of_ble_eq_true rfl) (by decide) (by decide) (fun v1 T1 h1 S1 X1 q1 sS1 sz1 => ?_)
  obtain ⟨rfl, rfl⟩ := q1
  show Go _ _ _ _ (T1.setTop (mkF m 4 #[.val (.ref x), .val (.int y), .val (.int (0 : Int32))] [(.int (if (0 : Int32) = 0 then 1 else 0))]))
  rw [show (if (0 : Int32) = 0 then (1 : Int32) else 0) = (1 : Int32) from by decide]
  show Go _ _ _ _ (T1.setTop (mkF m 4 #[.val (.ref x), .val (.int y), .val (.int (0 : Int32))] [(.int (1 : Int32))]))
  refine br0 X1 hby d_jdk_42_method_80_code_4 (pc1 := 23) (by decide) (fun hc => absurd (eqT hc) (by decide)) (fun hc => ?_)
  show Go _ _ _ _ (T1.setTop (mkF m 7 #[.val (.ref x), .val (.int y), .val (.int (0 : Int32))] []))
  refine blk X1 hby b115 (pc' := 8) (Ls' := #[.val (.ref x), .val (.int y), .val (.int (0 : Int32))]) (st' := [(.ref x)]) rfl ?_
  refine gGetF X1 hby (hw _ (List.mem_of_getElem? (i := 25) rfl)) Via.refl hV d_jdk_42_method_80_code_8 (fun T2 X2 => ?_)
  show Go _ _ _ _ (T2.setTop (mkF m 11 #[.val (.ref x), .val (.int y), .val (.int (0 : Int32))] [(.ref b)]))
  refine blk X2 hby b116 (pc' := 14) (Ls' := #[.val (.ref x), .val (.int y), .val (.int (0 : Int32))]) (st' := [(.ref x), (.int (0 : Int32)), (.int y), (.ref b)]) rfl ?_
  refine gVirt X2 hby (argsL := []) (st := [(.int (0 : Int32)), (.int y), (.ref b)]) (ct_len hw hEL X2.old U ⟨hE, hV, hR, Or.inl ⟨FC, VB, hl⟩⟩) hE (hw _ (List.mem_of_getElem? (i := 93) rfl)) (hw _ (List.mem_of_getElem? (i := 51) rfl)) (hw _ (List.mem_of_getElem? (i := 53) rfl)) (hw _ (List.mem_of_getElem? (i := 52) rfl)) (hw _ (List.mem_of_getElem? (i := 7) rfl)) (hw _ (List.mem_of_getElem? (i := 54) rfl)) pd___I rfl d_jdk_42_method_80_code_14 rfl (by rw [hml]; rfl) all0 (by decide) (Nat.le_of_ble_eq_true rfl) (by decide) (by decide) (fun v3 T3 h3 S3 X3 q3 sS3 sz3 => ?_)
  obtain ⟨rfl, rfl⟩ := q3
  show Go _ _ _ _ (T3.setTop (mkF m 17 #[.val (.ref x), .val (.int y), .val (.int (0 : Int32))] [(.int (Int32.ofNat cs.length)), (.int (0 : Int32)), (.int y), (.ref b)]))
  rw [show Int32.ofNat cs.length = Int32.ofNat (cs.map lo8).length by rw [List.length_map]]
  show Go _ _ _ _ (T3.setTop (mkF m 17 #[.val (.ref x), .val (.int y), .val (.int (0 : Int32))] [(.int (Int32.ofNat (cs.map lo8).length)), (.int (0 : Int32)), (.int y), (.ref b)]))
  refine gStatic X3 hby (argsL := [(.ref b), (.int y), (.int (0 : Int32)), (.int (Int32.ofNat (cs.map lo8).length))]) (st := []) (ct_lio hw hEL X3.old VB h0x) (hw _ (List.mem_of_getElem? (i := 94) rfl)) (hw _ (List.mem_of_getElem? (i := 95) rfl)) (hw _ (List.mem_of_getElem? (i := 72) rfl)) (hw _ (List.mem_of_getElem? (i := 96) rfl)) pd___BIII_I rfl d_jdk_42_method_80_code_17 rfl (by rw [hml]; rfl) all0 (by decide) (Nat.le_of_ble_eq_true rfl) (by decide) (by decide) (fun v4 T4 h4 S4 X4 q4 sS4 sz4 => ?_)
  obtain ⟨r, rfl, rfl, hr⟩ := q4
  show Go _ _ _ _ (T4.setTop (mkF m 20 #[.val (.ref x), .val (.int y), .val (.int (0 : Int32))] [(.int r)]))
  refine blk X4 hby b117 (pc' := 36) (Ls' := #[.val (.ref x), .val (.int y), .val (.int (0 : Int32))]) (st' := [(.int r)]) rfl ?_
  exact retI' X4 hby hret d_jdk_42_method_80_code_36 rfl (fun S' hS' => ⟨_, rfl, rfl, hr.trans (mem_lo8 hR hl h0x)⟩)
theorem ef_jdk_42_method_79_code (m : MethodId) (x0 : Addr) (x1 : Int32) : entryFrame m #[(.ref x0), (.int x1)] 2 = mkF m 0 #[.val (.ref x0), .val (.int x1)] [] := by first | (simp [entryFrame, mkF, argsToLocals, Value.category]; done) | rfl
theorem b118 : decs jdk_42_method_79_code 0 [.aload_n 0, .iload_n 1, .iconst 0] = true := by decide +kernel
theorem d_jdk_42_method_79_code_3 : decode jdk_42_method_79_code 3 = .ok (.invokevirtual 633, 3) := by decide +kernel
theorem d_jdk_42_method_79_code_6 : decode jdk_42_method_79_code 6 = .ok (.ireturn, 1) := by decide +kernel
set_option maxRecDepth 65536 in
set_option maxHeartbeats 40000000 in
theorem ct_io {h0 : Heap} {x b : Addr} {cs : List Int32} {y zc : Int32} (hw : ∀ d ∈ tables_1, d.before a0 Z = true) (hEL : EW Z a0 EL) (hO : Old Z Z.heap.size h0) (U : US Z zc) (hE : Exa Z h0 x "java/lang/String") (hV : Fld Z h0 x "java/lang/String" "value" "[B" (.ref b)) (FC : Fld Z h0 x "java/lang/String" "coder" "B" (.int 0)) (VB : Ari Z h0 b .byte (cs.map lo8)) (hR : ∀ c ∈ cs, ¬ c < 0 ∧ ¬ 65535 < c) (hl : ∀ c ∈ cs, ¬ 255 < c) (h0x : ¬ y < 0) :
    Ct true false Z EL l (⟨"java/lang/String", "indexOf", "(I)I"⟩ : MethodName) jdk_42_method_79_code 2 (some .int) ({ frames := 3, cells := 0, slots := 0, locals := 58 } : Room) #[(.ref x), (.int y)] h0 [] (QX h0 (y ∈ cs)) := by
  refine ctOf (plainFor_of_name pn_java_lang_String) hO hEL ?_
  intro p e s m below meth c s₁ S0 X0 hby hml hret hnm hsf
  refine Go.entry (ef_jdk_42_method_79_code m x y) ?_
  show Go _ _ _ _ (s₁.setTop (mkF m 0 #[.val (.ref x), .val (.int y)] []))
  refine blk X0 hby b118 (pc' := 3) (Ls' := #[.val (.ref x), .val (.int y)]) (st' := [(.int (0 : Int32)), (.int y), (.ref x)]) rfl ?_
  refine gVirt X0 hby (argsL := [(.int y), (.int (0 : Int32))]) (st := []) (ct_io2 hw hEL X0.old U hE hV FC VB hR hl h0x) hE (hw _ (List.mem_of_getElem? (i := 88) rfl)) (hw _ (List.mem_of_getElem? (i := 89) rfl)) (hw _ (List.mem_of_getElem? (i := 91) rfl)) (hw _ (List.mem_of_getElem? (i := 90) rfl)) (hw _ (List.mem_of_getElem? (i := 7) rfl)) (hw _ (List.mem_of_getElem? (i := 92) rfl)) pd__II_I rfl d_jdk_42_method_79_code_3 rfl (by rw [hml]; rfl) all0 (by decide) (Nat.le_of_ble_eq_true rfl) (by decide) (by decide) (fun v1 T1 h1 S1 X1 q1 sS1 sz1 => ?_)
  obtain ⟨r, rfl, rfl, hr⟩ := q1
  show Go _ _ _ _ (T1.setTop (mkF m 6 #[.val (.ref x), .val (.int y)] [(.int r)]))
  exact retI' X1 hby hret d_jdk_42_method_79_code_6 rfl (fun S' hS' => ⟨_, rfl, rfl, hr⟩)
def specL : List Int32 := [33, 35, 36, 37, 38, 39, 42, 43, 45, 46, 94, 95, 96, 124, 126]
def alP (c : Int32) : Prop := (¬ c < 97 ∧ ¬ 122 < c) ∨ (¬ c < 65 ∧ ¬ 90 < c) ∨ (¬ c < 48 ∧ ¬ 57 < c)
instance (c : Int32) : Decidable (alP c) := by unfold alP; infer_instance
def tokB (c : Int32) : Bool := decide (alP c ∨ c ∈ specL)
def isTok (cs : List Int32) : Int32 := if (!cs.isEmpty && cs.all tokB) = true then 1 else 0
theorem spec_rng : ∀ c ∈ specL, ¬ c < 0 ∧ ¬ (65535 : Int32) < c := by decide
theorem spec_lat : ∀ c ∈ specL, ¬ (255 : Int32) < c := by decide
theorem isTok_no {cs : List Int32} {i : Nat} (hi : i < cs.length) (h : tokB (cs.getD i 0) = false) : isTok cs = 0 := by
  have : cs.all tokB = false := by rw [List.all_eq_false]; exact ⟨_, getD_mem hi, by rw [h]; decide⟩
  simp [isTok, this]
theorem isTok_yes {cs : List Int32} (h0 : cs ≠ []) (h : ∀ j, j < cs.length → tokB (cs.getD j 0) = true) : isTok cs = 1 := by
  have q : cs.all tokB = true := by
    rw [List.all_eq_true]; intro c hc; obtain ⟨j, hj, e⟩ := List.mem_iff_getElem.mp hc
    have := h j hj; rwa [show cs.getD j 0 = c by simp [List.getD_eq_getElem?_getD, hj, e]] at this
  have r : cs.isEmpty = false := by cases cs with | nil => exact absurd rfl h0 | cons => rfl
  simp [isTok, q, r]
theorem tok_lo {c : Int32} (h : c < 33) : tokB c = false := by
  rw [Int32.lt_iff_toInt_lt] at h; simp only [tokB, alP, specL, decide_eq_false_iff_not, List.mem_cons, List.not_mem_nil, or_false, Int32.lt_iff_toInt_lt, ← Int32.toInt_inj, not_or] at *
  simp only [show (33 : Int32).toInt = 33 from rfl, show (35 : Int32).toInt = 35 from rfl, show (36 : Int32).toInt = 36 from rfl, show (37 : Int32).toInt = 37 from rfl, show (38 : Int32).toInt = 38 from rfl, show (39 : Int32).toInt = 39 from rfl, show (42 : Int32).toInt = 42 from rfl, show (43 : Int32).toInt = 43 from rfl, show (45 : Int32).toInt = 45 from rfl, show (46 : Int32).toInt = 46 from rfl, show (48 : Int32).toInt = 48 from rfl, show (57 : Int32).toInt = 57 from rfl, show (65 : Int32).toInt = 65 from rfl, show (90 : Int32).toInt = 90 from rfl, show (94 : Int32).toInt = 94 from rfl, show (95 : Int32).toInt = 95 from rfl, show (96 : Int32).toInt = 96 from rfl, show (97 : Int32).toInt = 97 from rfl, show (122 : Int32).toInt = 122 from rfl, show (124 : Int32).toInt = 124 from rfl, show (126 : Int32).toInt = 126 from rfl] at *; omega
theorem tok_hi {c : Int32} (h : 126 < c) : tokB c = false := by
  rw [Int32.lt_iff_toInt_lt] at h; simp only [tokB, alP, specL, decide_eq_false_iff_not, List.mem_cons, List.not_mem_nil, or_false, Int32.lt_iff_toInt_lt, ← Int32.toInt_inj, not_or] at *
  simp only [show (33 : Int32).toInt = 33 from rfl, show (35 : Int32).toInt = 35 from rfl, show (36 : Int32).toInt = 36 from rfl, show (37 : Int32).toInt = 37 from rfl, show (38 : Int32).toInt = 38 from rfl, show (39 : Int32).toInt = 39 from rfl, show (42 : Int32).toInt = 42 from rfl, show (43 : Int32).toInt = 43 from rfl, show (45 : Int32).toInt = 45 from rfl, show (46 : Int32).toInt = 46 from rfl, show (48 : Int32).toInt = 48 from rfl, show (57 : Int32).toInt = 57 from rfl, show (65 : Int32).toInt = 65 from rfl, show (90 : Int32).toInt = 90 from rfl, show (94 : Int32).toInt = 94 from rfl, show (95 : Int32).toInt = 95 from rfl, show (96 : Int32).toInt = 96 from rfl, show (97 : Int32).toInt = 97 from rfl, show (122 : Int32).toInt = 122 from rfl, show (124 : Int32).toInt = 124 from rfl, show (126 : Int32).toInt = 126 from rfl] at *; omega
theorem tok_rest {c : Int32} (h1 : ¬ c < 33) (h2 : ¬ 126 < c) (hn : ¬ c = 34 ∧ ¬ c = 40 ∧ ¬ c = 41 ∧ ¬ c = 44 ∧ ¬ c = 47 ∧ ¬ c = 58 ∧ ¬ c = 59 ∧ ¬ c = 60 ∧ ¬ c = 61 ∧ ¬ c = 62 ∧ ¬ c = 63 ∧ ¬ c = 64 ∧ ¬ c = 91 ∧ ¬ c = 92 ∧ ¬ c = 93 ∧ ¬ c = 123 ∧ ¬ c = 125) : tokB c = true := by
  simp only [tokB, alP, specL, decide_eq_true_eq, List.mem_cons, List.not_mem_nil, or_false, Int32.lt_iff_toInt_lt, ← Int32.toInt_inj] at *
  simp only [show (33 : Int32).toInt = 33 from rfl, show (34 : Int32).toInt = 34 from rfl, show (35 : Int32).toInt = 35 from rfl, show (36 : Int32).toInt = 36 from rfl, show (37 : Int32).toInt = 37 from rfl, show (38 : Int32).toInt = 38 from rfl, show (39 : Int32).toInt = 39 from rfl, show (40 : Int32).toInt = 40 from rfl, show (41 : Int32).toInt = 41 from rfl, show (42 : Int32).toInt = 42 from rfl, show (43 : Int32).toInt = 43 from rfl, show (44 : Int32).toInt = 44 from rfl, show (45 : Int32).toInt = 45 from rfl, show (46 : Int32).toInt = 46 from rfl, show (47 : Int32).toInt = 47 from rfl, show (48 : Int32).toInt = 48 from rfl, show (57 : Int32).toInt = 57 from rfl, show (58 : Int32).toInt = 58 from rfl, show (59 : Int32).toInt = 59 from rfl, show (60 : Int32).toInt = 60 from rfl, show (61 : Int32).toInt = 61 from rfl, show (62 : Int32).toInt = 62 from rfl, show (63 : Int32).toInt = 63 from rfl, show (64 : Int32).toInt = 64 from rfl, show (65 : Int32).toInt = 65 from rfl, show (90 : Int32).toInt = 90 from rfl, show (91 : Int32).toInt = 91 from rfl, show (92 : Int32).toInt = 92 from rfl, show (93 : Int32).toInt = 93 from rfl, show (94 : Int32).toInt = 94 from rfl, show (95 : Int32).toInt = 95 from rfl, show (96 : Int32).toInt = 96 from rfl, show (97 : Int32).toInt = 97 from rfl, show (122 : Int32).toInt = 122 from rfl, show (123 : Int32).toInt = 123 from rfl, show (124 : Int32).toInt = 124 from rfl, show (125 : Int32).toInt = 125 from rfl, show (126 : Int32).toInt = 126 from rfl] at *; omega
theorem pn_com_example_ligature_ligature_http_Headers : plainName "com/example/ligature/ligature/http/Headers" = true := by first | (simp [plainName, overriddenIn]; done) | decide +kernel
theorem ef_prog_62_method_9_code (m : MethodId) (x0 : Addr) : entryFrame m #[(.ref x0)] 4 = mkF m 0 #[.val (.ref x0), .unset, .unset, .unset] [] := by first | (simp [entryFrame, mkF, argsToLocals, Value.category]; done) | rfl
theorem b119 : decs prog_62_method_9_code 0 [.aload_n 0] = true := by decide +kernel
theorem d_prog_62_method_9_code_1 : decode prog_62_method_9_code 1 = .ok (.invokevirtual 96, 3) := by decide +kernel
theorem d_prog_62_method_9_code_4 : decode prog_62_method_9_code 4 = .ok (.ifCond .eq 5, 3) := by decide +kernel
theorem b120 : decs prog_62_method_9_code 9 [.iconst 0, .istore_n 1] = true := by decide +kernel
theorem b121 : decs prog_62_method_9_code 11 [.iload_n 1, .aload_n 0] = true := by decide +kernel
theorem d_prog_62_method_9_code_13 : decode prog_62_method_9_code 13 = .ok (.invokevirtual 99, 3) := by decide +kernel
theorem d_prog_62_method_9_code_16 : decode prog_62_method_9_code 16 = .ok (.if_icmp .ge 72, 3) := by decide +kernel
theorem b122 : decs prog_62_method_9_code 88 [.iconst 1] = true := by decide +kernel
theorem d_prog_62_method_9_code_89 : decode prog_62_method_9_code 89 = .ok (.ireturn, 1) := by decide +kernel
theorem b123 : decs prog_62_method_9_code 11 [.iload_n 1, .aload_n 0] = true := by decide +kernel
theorem b124 : decs prog_62_method_9_code 19 [.aload_n 0, .iload_n 1] = true := by decide +kernel
theorem d_prog_62_method_9_code_21 : decode prog_62_method_9_code 21 = .ok (.invokevirtual 103, 3) := by decide +kernel
theorem pd__I_C : parseMethodDescriptor "(I)C" = some ⟨[.int], (some .char)⟩ := by decide +kernel
theorem d_prog_62_method_9_code_24 : decode prog_62_method_9_code 24 = .ok (.istore_n 2, 1) := by decide +kernel
theorem b125 : decs prog_62_method_9_code 82 [.iinc 1 1, .goto (-74)] = true := by decide +kernel
theorem d_prog_62_method_9_code_71 : decode prog_62_method_9_code 71 = .ok (.ldc 107, 2) := by decide +kernel
theorem b126 : decs prog_62_method_9_code 73 [.iload_n 2] = true := by decide +kernel
theorem d_prog_62_method_9_code_74 : decode prog_62_method_9_code 74 = .ok (.invokevirtual 109, 3) := by decide +kernel
theorem d_prog_62_method_9_code_77 : decode prog_62_method_9_code 77 = .ok (.ifCond .ge 5, 3) := by decide +kernel
theorem b127 : decs prog_62_method_9_code 80 [.iconst 0] = true := by decide +kernel
theorem d_prog_62_method_9_code_81 : decode prog_62_method_9_code 81 = .ok (.ireturn, 1) := by decide +kernel
theorem b128 : decs prog_62_method_9_code 25 [.iload_n 2, .bipush 97] = true := by decide +kernel
theorem d_prog_62_method_9_code_28 : decode prog_62_method_9_code 28 = .ok (.if_icmp .lt 9, 3) := by decide +kernel
theorem b129 : decs prog_62_method_9_code 37 [.iload_n 2, .bipush 65] = true := by decide +kernel
theorem d_prog_62_method_9_code_40 : decode prog_62_method_9_code 40 = .ok (.if_icmp .lt 9, 3) := by decide +kernel
theorem b130 : decs prog_62_method_9_code 49 [.iload_n 2, .bipush 48] = true := by decide +kernel
theorem d_prog_62_method_9_code_52 : decode prog_62_method_9_code 52 = .ok (.if_icmp .lt 13, 3) := by decide +kernel
theorem b131 : decs prog_62_method_9_code 65 [.iconst 0] = true := by decide +kernel
theorem d_prog_62_method_9_code_66 : decode prog_62_method_9_code 66 = .ok (.istore_n 3, 1) := by decide +kernel
theorem b132 : decs prog_62_method_9_code 67 [.iload_n 3] = true := by decide +kernel
theorem d_prog_62_method_9_code_68 : decode prog_62_method_9_code 68 = .ok (.ifCond .ne 14, 3) := by decide +kernel
theorem b133 : decs prog_62_method_9_code 55 [.iload_n 2, .bipush 57] = true := by decide +kernel
theorem d_prog_62_method_9_code_58 : decode prog_62_method_9_code 58 = .ok (.if_icmp .gt 7, 3) := by decide +kernel
theorem b134 : decs prog_62_method_9_code 65 [.iconst 0] = true := by decide +kernel
theorem b135 : decs prog_62_method_9_code 67 [.iload_n 3] = true := by decide +kernel
theorem b136 : decs prog_62_method_9_code 61 [.iconst 1, .goto 4] = true := by decide +kernel
theorem b137 : decs prog_62_method_9_code 67 [.iload_n 3] = true := by decide +kernel
theorem b138 : decs prog_62_method_9_code 43 [.iload_n 2, .bipush 90] = true := by decide +kernel
theorem d_prog_62_method_9_code_46 : decode prog_62_method_9_code 46 = .ok (.if_icmp .le 15, 3) := by decide +kernel
theorem b139 : decs prog_62_method_9_code 61 [.iconst 1, .goto 4] = true := by decide +kernel
theorem b140 : decs prog_62_method_9_code 67 [.iload_n 3] = true := by decide +kernel
theorem b141 : decs prog_62_method_9_code 49 [.iload_n 2, .bipush 48] = true := by decide +kernel
theorem b142 : decs prog_62_method_9_code 65 [.iconst 0] = true := by decide +kernel
theorem b143 : decs prog_62_method_9_code 67 [.iload_n 3] = true := by decide +kernel
theorem b144 : decs prog_62_method_9_code 55 [.iload_n 2, .bipush 57] = true := by decide +kernel
theorem b145 : decs prog_62_method_9_code 65 [.iconst 0] = true := by decide +kernel
theorem b146 : decs prog_62_method_9_code 67 [.iload_n 3] = true := by decide +kernel
theorem b147 : decs prog_62_method_9_code 61 [.iconst 1, .goto 4] = true := by decide +kernel
theorem b148 : decs prog_62_method_9_code 67 [.iload_n 3] = true := by decide +kernel
theorem b149 : decs prog_62_method_9_code 31 [.iload_n 2, .bipush 122] = true := by decide +kernel
theorem d_prog_62_method_9_code_34 : decode prog_62_method_9_code 34 = .ok (.if_icmp .le 27, 3) := by decide +kernel
theorem b150 : decs prog_62_method_9_code 61 [.iconst 1, .goto 4] = true := by decide +kernel
theorem b151 : decs prog_62_method_9_code 67 [.iload_n 3] = true := by decide +kernel
theorem b152 : decs prog_62_method_9_code 37 [.iload_n 2, .bipush 65] = true := by decide +kernel
theorem b153 : decs prog_62_method_9_code 49 [.iload_n 2, .bipush 48] = true := by decide +kernel
theorem b154 : decs prog_62_method_9_code 65 [.iconst 0] = true := by decide +kernel
theorem b155 : decs prog_62_method_9_code 67 [.iload_n 3] = true := by decide +kernel
theorem b156 : decs prog_62_method_9_code 55 [.iload_n 2, .bipush 57] = true := by decide +kernel
theorem b157 : decs prog_62_method_9_code 65 [.iconst 0] = true := by decide +kernel
theorem b158 : decs prog_62_method_9_code 67 [.iload_n 3] = true := by decide +kernel
theorem b159 : decs prog_62_method_9_code 61 [.iconst 1, .goto 4] = true := by decide +kernel
theorem b160 : decs prog_62_method_9_code 67 [.iload_n 3] = true := by decide +kernel
theorem b161 : decs prog_62_method_9_code 43 [.iload_n 2, .bipush 90] = true := by decide +kernel
theorem b162 : decs prog_62_method_9_code 61 [.iconst 1, .goto 4] = true := by decide +kernel
theorem b163 : decs prog_62_method_9_code 67 [.iload_n 3] = true := by decide +kernel
theorem b164 : decs prog_62_method_9_code 49 [.iload_n 2, .bipush 48] = true := by decide +kernel
theorem b165 : decs prog_62_method_9_code 65 [.iconst 0] = true := by decide +kernel
theorem b166 : decs prog_62_method_9_code 67 [.iload_n 3] = true := by decide +kernel
theorem b167 : decs prog_62_method_9_code 55 [.iload_n 2, .bipush 57] = true := by decide +kernel
theorem b168 : decs prog_62_method_9_code 65 [.iconst 0] = true := by decide +kernel
theorem b169 : decs prog_62_method_9_code 67 [.iload_n 3] = true := by decide +kernel
theorem b170 : decs prog_62_method_9_code 61 [.iconst 1, .goto 4] = true := by decide +kernel
theorem b171 : decs prog_62_method_9_code 67 [.iload_n 3] = true := by decide +kernel
theorem b172 : decs prog_62_method_9_code 7 [.iconst 0] = true := by decide +kernel
theorem d_prog_62_method_9_code_8 : decode prog_62_method_9_code 8 = .ok (.ireturn, 1) := by decide +kernel
def QV (r : Int32) (v : Option Value) (h : Heap) (S : Addr → Prop) : Prop := v = some (.int r)
set_option maxRecDepth 65536 in
set_option maxHeartbeats 40000000 in
theorem ct_tok {h0 : Heap} {x b : Addr} {cs : List Int32} {fm : Value} {zc : Int32} (hw : ∀ d ∈ tables_1, d.before a0 Z = true) (hEL : EW Z a0 EL) (hO : Old Z Z.heap.size h0) (U : US Z zc)(hFM : Sta Z Z.heap "jdk/internal/util/Preconditions" "SIOOBE_FORMATTER" "Ljava/util/function/BiFunction;" fm) (hfm : fm = .null ∨ ∃ a, fm = .ref a)(F : Str Z h0 x b cs) (hcap : cs.length ≤ 4) :
    Ct true false Z EL l (⟨"com/example/ligature/ligature/http/Headers", "isToken", "(Ljava/lang/String;)Z"⟩ : MethodName) prog_62_method_9_code 4 (some .boolean) ({ frames := 5, cells := 8, slots := 256, locals := 84 } : Room) #[(.ref x)] h0 [] (QV (isTok cs)) := by
  refine ctOf (plainFor_of_name pn_com_example_ligature_ligature_http_Headers) hO hEL ?_
  intro p e s m below meth c s₁ S0 X0 hby hml hret hnm hsf
  refine Go.entry (ef_prog_62_method_9_code m x) ?_
  show Go _ _ _ _ (s₁.setTop (mkF m 0 #[.val (.ref x), .unset, .unset, .unset] []))
  refine blk X0 hby b119 (pc' := 1) (Ls' := #[.val (.ref x), .unset, .unset, .unset]) (st' := [(.ref x)]) rfl ?_
  refine gVirt X0 hby (argsL := []) (st := []) (ct_isE hw hEL X0.old F) F.1 (hw _ (List.mem_of_getElem? (i := 31) rfl)) (hw _ (List.mem_of_getElem? (i := 32) rfl)) (hw _ (List.mem_of_getElem? (i := 34) rfl)) (hw _ (List.mem_of_getElem? (i := 33) rfl)) (hw _ (List.mem_of_getElem? (i := 7) rfl)) (hw _ (List.mem_of_getElem? (i := 35) rfl)) pd___Z rfl d_prog_62_method_9_code_1 rfl (by rw [hml]; rfl) all0 (by decide) (Nat.le_of_ble_eq_true rfl) (by decide) (by decide) (fun v1 T1 h1 S1 X1 q1 sS1 sz1 => ?_)
  obtain ⟨rfl, rfl⟩ := q1
  show Go _ _ _ _ (T1.setTop (mkF m 4 #[.val (.ref x), .unset, .unset, .unset] [(.int (if cs = [] then 1 else 0))]))
  refine br0 X1 hby d_prog_62_method_9_code_4 (pc1 := 9) (by decide) (fun hc => ?_) (fun hc => ?_)
  · replace hc := eqT hc
    show Go _ _ _ _ (T1.setTop (mkF m 9 #[.val (.ref x), .unset, .unset, .unset] []))
    have hne : cs ≠ [] := fun q => by rw [if_pos q] at hc; exact absurd hc (by decide)
    refine blk X1 hby b120 (pc' := 11) (Ls' := #[.val (.ref x), .val (.int (0 : Int32)), .unset, .unset]) (st' := []) rfl ?_
    have loop : ∀ (n i : Nat) (T : State) (h : Heap) (S : Addr → Prop) (cl sl : Nat) (o2 o3 : Slot), n + i = cs.length → cl + 2 * n ≤ 8 → sl + 64 * n ≤ 256 → Sd true false Z a0 EL p l e ({ frames := 5, cells := 8, slots := 256, locals := 84 } : Room) s m #[(.ref x)] below meth c "com/example/ligature/ligature/http/Headers" T h S cl sl → Str Z h x b cs → (∀ j, j < i → tokB (cs.getD j 0) = true) → One o2 → One o3 → Go p e below (Pst true Z EL ({ frames := 5, cells := 8, slots := 256, locals := 84 } : Room).cells ({ frames := 5, cells := 8, slots := 256, locals := 84 } : Room).slots (QV (isTok cs)) s) (T.setTop (mkF m 11 #[.val (.ref x), .val (.int (Int32.ofNat i)), o2, o3] [])) := by
      intro n
      induction n with
      | zero =>
        intro i T h S cl sl o2 o3 hn hcl hsl X F hy ho2 ho3
        have hA : cl ≤ 8 := by omega
        have hB : sl ≤ 256 := by omega
        have hi31 : i < 2147483648 := by omega
        have hL : cs.length < 2147483648 := by omega
        refine blk X hby b121 (pc' := 13) (Ls' := #[.val (.ref x), .val (.int (Int32.ofNat i)), o2, o3]) (st' := [(.ref x), (.int (Int32.ofNat i))]) rfl ?_
        refine gVirt X hby (argsL := []) (st := [(.int (Int32.ofNat i))]) (ct_len hw hEL X.old U F) F.1 (hw _ (List.mem_of_getElem? (i := 50) rfl)) (hw _ (List.mem_of_getElem? (i := 51) rfl)) (hw _ (List.mem_of_getElem? (i := 53) rfl)) (hw _ (List.mem_of_getElem? (i := 52) rfl)) (hw _ (List.mem_of_getElem? (i := 7) rfl)) (hw _ (List.mem_of_getElem? (i := 54) rfl)) pd___I rfl d_prog_62_method_9_code_13 rfl (by rw [hml]; rfl) all0 (by decide) (Nat.le_of_ble_eq_true rfl) hA hB (fun v1 T1 h1 S1 X1 q1 sS1 sz1 => ?_)
        obtain ⟨rfl, rfl⟩ := q1
        show Go _ _ _ _ (T1.setTop (mkF m 16 #[.val (.ref x), .val (.int (Int32.ofNat i)), o2, o3] [(.int (Int32.ofNat cs.length)), (.int (Int32.ofNat i))]))
        refine brI X1 hby d_prog_62_method_9_code_16 (pc1 := 88) (by decide) (fun hc => ?_) (fun hc => absurd (geF hc) (by rw [lt32 hi31 hL]; omega))
        show Go _ _ _ _ (T1.setTop (mkF m 88 #[.val (.ref x), .val (.int (Int32.ofNat i)), o2, o3] []))
        refine blk X1 hby b122 (pc' := 89) (Ls' := #[.val (.ref x), .val (.int (Int32.ofNat i)), o2, o3]) (st' := [(.int (1 : Int32))]) rfl ?_
        exact retI' X1 hby hret d_prog_62_method_9_code_89 rfl (fun S' hS' => by show some _ = some _; rw [isTok_yes hne (fun j hj => hy j (by omega))]) (hc := hA) (hs := hB)
      | succ n ih =>
        intro i T h S cl sl o2 o3 hn hcl hsl X F hy ho2 ho3
        have hA : cl ≤ 8 := by omega
        have hB : sl ≤ 256 := by omega
        have hi31 : i < 2147483648 := by omega
        have hL : cs.length < 2147483648 := by omega
        refine blk X hby b123 (pc' := 13) (Ls' := #[.val (.ref x), .val (.int (Int32.ofNat i)), o2, o3]) (st' := [(.ref x), (.int (Int32.ofNat i))]) rfl ?_
        refine gVirt X hby (argsL := []) (st := [(.int (Int32.ofNat i))]) (ct_len hw hEL X.old U F) F.1 (hw _ (List.mem_of_getElem? (i := 50) rfl)) (hw _ (List.mem_of_getElem? (i := 51) rfl)) (hw _ (List.mem_of_getElem? (i := 53) rfl)) (hw _ (List.mem_of_getElem? (i := 52) rfl)) (hw _ (List.mem_of_getElem? (i := 7) rfl)) (hw _ (List.mem_of_getElem? (i := 54) rfl)) pd___I rfl d_prog_62_method_9_code_13 rfl (by rw [hml]; rfl) all0 (by decide) (Nat.le_of_ble_eq_true rfl) hA hB (fun v1 T1 h1 S1 X1 q1 sS1 sz1 => ?_)
        obtain ⟨rfl, rfl⟩ := q1
        show Go _ _ _ _ (T1.setTop (mkF m 16 #[.val (.ref x), .val (.int (Int32.ofNat i)), o2, o3] [(.int (Int32.ofNat cs.length)), (.int (Int32.ofNat i))]))
        have hil : i < cs.length := by omega
        refine brI X1 hby d_prog_62_method_9_code_16 (pc1 := 88) (by decide) (fun hc => absurd (geT hc) (fun q => q (by rw [lt32 hi31 hL]; omega))) (fun hc => ?_)
        show Go _ _ _ _ (T1.setTop (mkF m 19 #[.val (.ref x), .val (.int (Int32.ofNat i)), o2, o3] []))
        refine blk X1 hby b124 (pc' := 21) (Ls' := #[.val (.ref x), .val (.int (Int32.ofNat i)), o2, o3]) (st' := [(.int (Int32.ofNat i)), (.ref x)]) rfl ?_
        refine gVirt X1 hby (argsL := [(.int (Int32.ofNat i))]) (st := []) (ct_chr hw hEL X1.old U hFM hfm F hil) F.1 (hw _ (List.mem_of_getElem? (i := 60) rfl)) (hw _ (List.mem_of_getElem? (i := 61) rfl)) (hw _ (List.mem_of_getElem? (i := 63) rfl)) (hw _ (List.mem_of_getElem? (i := 62) rfl)) (hw _ (List.mem_of_getElem? (i := 7) rfl)) (hw _ (List.mem_of_getElem? (i := 64) rfl)) pd__I_C rfl d_prog_62_method_9_code_21 rfl (by rw [hml]; rfl) all0 (by decide) (Nat.le_of_ble_eq_true rfl) hA hB (fun v2 T2 h2 S2 X2 q2 sS2 sz2 => ?_)
        obtain ⟨rfl, rfl⟩ := q2
        show Go _ _ _ _ (T2.setTop (mkF m 24 #[.val (.ref x), .val (.int (Int32.ofNat i)), o2, o3] [(.int (cs.getD i 0))]))
        refine gIstN X2 hby d_prog_62_method_9_code_24 (o := o2) rfl ho2 ?_
        show Go _ _ _ _ (T2.setTop (mkF m 25 #[.val (.ref x), .val (.int (Int32.ofNat i)), .val (.int (cs.getD i 0)), o3] []))
        have hcr := F.2.2.1 _ (getD_mem hil)
        generalize hcc : cs.getD i 0 = cc at *
        show Go _ _ _ _ (T2.setTop (mkF m 25 #[.val (.ref x), .val (.int (Int32.ofNat i)), .val (.int cc), o3] []))
        have next : ∀ (T : State) (h : Heap) (S : Addr → Prop) (o3 : Slot), Sd true false Z a0 EL p l e ({ frames := 5, cells := 8, slots := 256, locals := 84 } : Room) s m #[(.ref x)] below meth c "com/example/ligature/ligature/http/Headers" T h S (cl + 2) (sl + 64) → Str Z h x b cs → tokB cc = true → One o3 → Go p e below (Pst true Z EL ({ frames := 5, cells := 8, slots := 256, locals := 84 } : Room).cells ({ frames := 5, cells := 8, slots := 256, locals := 84 } : Room).slots (QV (isTok cs)) s) (T.setTop (mkF m 82 #[.val (.ref x), .val (.int (Int32.ofNat i)), .val (.int cc), o3] [])) := by
          intro T h S o3 X F ht ho3
          refine blk X hby b125 (pc' := 11) (Ls' := #[.val (.ref x), .val (.int ((Int32.ofNat i) + (1 : Int32))), .val (.int cc), o3]) (st' := []) rfl ?_
          rw [succ32]
          refine ih (i + 1) T h S (cl + 2) (sl + 64) (.val (.int cc)) o3 (by omega) (by omega) (by omega) X F (fun j hj => ?_) (One.val rfl) ho3
          by_cases q : j = i
          · subst q; rw [hcc]; exact ht
          · exact hy j (by omega)
        have spec : ¬ alP cc → Go p e below (Pst true Z EL ({ frames := 5, cells := 8, slots := 256, locals := 84 } : Room).cells ({ frames := 5, cells := 8, slots := 256, locals := 84 } : Room).slots (QV (isTok cs)) s) (T2.setTop (mkF m 71 #[.val (.ref x), .val (.int (Int32.ofNat i)), .val (.int cc), .val (.int (0 : Int32))] [])) := by
          intro hal
          show Go _ _ _ _ (T2.setTop (mkF m 71 #[.val (.ref x), .val (.int (Int32.ofNat i)), .val (.int cc), .val (.int (0 : Int32))] []))
          refine gLdc X2 hby (hw _ (List.mem_of_getElem? (i := 82) rfl)) (fun d hd => hw d (strIn d hd)) (by decide) (xs := (specL.map lo8)) (by decide) (by decide) (by decide) d_prog_62_method_9_code_71 (n := 60) (by decide) (by decide) (by show cl + 2 ≤ 8; omega) (by show sl + 64 ≤ 256; omega) (fun T3 h3 S3 c3 b3 X3 E3 A3 F3 G3 V3 sS3 sn3 => ?_)
          show Go _ _ _ _ (T3.setTop (mkF m 73 #[.val (.ref x), .val (.int (Int32.ofNat i)), .val (.int cc), .val (.int (0 : Int32))] [(.ref c3)]))
          refine blk X3 hby b126 (pc' := 74) (Ls' := #[.val (.ref x), .val (.int (Int32.ofNat i)), .val (.int cc), .val (.int (0 : Int32))]) (st' := [(.int cc), (.ref c3)]) rfl ?_
          have hA2 : cl + 2 ≤ 8 := by omega
          have hB2 : sl + 64 ≤ 256 := by omega
          refine gVirt X3 hby (argsL := [(.int cc)]) (st := []) (ct_io hw hEL X3.old U A3 G3 F3 V3 spec_rng spec_lat hcr.1) A3 (hw _ (List.mem_of_getElem? (i := 83) rfl)) (hw _ (List.mem_of_getElem? (i := 84) rfl)) (hw _ (List.mem_of_getElem? (i := 86) rfl)) (hw _ (List.mem_of_getElem? (i := 85) rfl)) (hw _ (List.mem_of_getElem? (i := 7) rfl)) (hw _ (List.mem_of_getElem? (i := 87) rfl)) pd__I_I rfl d_prog_62_method_9_code_74 rfl (by rw [hml]; rfl) all0 (by decide) (Nat.le_of_ble_eq_true rfl) hA2 hB2 (fun v4 T4 h4 S4 X4 q4 sS4 sz4 => ?_)
          obtain ⟨r, rfl, rfl, hr⟩ := q4
          show Go _ _ _ _ (T4.setTop (mkF m 77 #[.val (.ref x), .val (.int (Int32.ofNat i)), .val (.int cc), .val (.int (0 : Int32))] [(.int r)]))
          refine br0 X4 hby d_prog_62_method_9_code_77 (pc1 := 82) (by decide) (fun hz => ?_) (fun hz => ?_)
          · replace hz := geT hz
            show Go _ _ _ _ (T4.setTop (mkF m 82 #[.val (.ref x), .val (.int (Int32.ofNat i)), .val (.int cc), .val (.int (0 : Int32))] []))
            exact next _ _ _ _ X4 (F.ext E3) (decide_eq_true (Or.inr (hr.mp hz))) (One.val rfl)
          · replace hz := geF hz
            show Go _ _ _ _ (T4.setTop (mkF m 80 #[.val (.ref x), .val (.int (Int32.ofNat i)), .val (.int cc), .val (.int (0 : Int32))] []))
            refine blk X4 hby b127 (pc' := 81) (Ls' := #[.val (.ref x), .val (.int (Int32.ofNat i)), .val (.int cc), .val (.int (0 : Int32))]) (st' := [(.int (0 : Int32))]) rfl ?_
            exact retI' X4 hby hret d_prog_62_method_9_code_81 rfl (fun S' hS' => by show some _ = some _; rw [isTok_no hil (by rw [hcc]; exact decide_eq_false (fun q => q.elim hal (fun q => hr.mpr q hz)))]) (hc := hA2) (hs := hB2)
        refine blk X2 hby b128 (pc' := 28) (Ls' := #[.val (.ref x), .val (.int (Int32.ofNat i)), .val (.int cc), o3]) (st' := [(.int (97 : Int32)), (.int cc)]) rfl ?_
        refine brI X2 hby d_prog_62_method_9_code_28 (pc1 := 37) (by decide) (fun h97 => ?_) (fun h97 => ?_)
        · replace h97 := ltT h97
          show Go _ _ _ _ (T2.setTop (mkF m 37 #[.val (.ref x), .val (.int (Int32.ofNat i)), .val (.int cc), o3] []))
          refine blk X2 hby b129 (pc' := 40) (Ls' := #[.val (.ref x), .val (.int (Int32.ofNat i)), .val (.int cc), o3]) (st' := [(.int (65 : Int32)), (.int cc)]) rfl ?_
          refine brI X2 hby d_prog_62_method_9_code_40 (pc1 := 49) (by decide) (fun h65 => ?_) (fun h65 => ?_)
          · replace h65 := ltT h65
            show Go _ _ _ _ (T2.setTop (mkF m 49 #[.val (.ref x), .val (.int (Int32.ofNat i)), .val (.int cc), o3] []))
            refine blk X2 hby b130 (pc' := 52) (Ls' := #[.val (.ref x), .val (.int (Int32.ofNat i)), .val (.int cc), o3]) (st' := [(.int (48 : Int32)), (.int cc)]) rfl ?_
            refine brI X2 hby d_prog_62_method_9_code_52 (pc1 := 65) (by decide) (fun h48 => ?_) (fun h48 => ?_)
            · replace h48 := ltT h48
              show Go _ _ _ _ (T2.setTop (mkF m 65 #[.val (.ref x), .val (.int (Int32.ofNat i)), .val (.int cc), o3] []))
              refine blk X2 hby b131 (pc' := 66) (Ls' := #[.val (.ref x), .val (.int (Int32.ofNat i)), .val (.int cc), o3]) (st' := [(.int (0 : Int32))]) rfl ?_
              refine gIstN X2 hby d_prog_62_method_9_code_66 (o := o3) rfl ho3 ?_
              show Go _ _ _ _ (T2.setTop (mkF m 67 #[.val (.ref x), .val (.int (Int32.ofNat i)), .val (.int cc), .val (.int (0 : Int32))] []))
              refine blk X2 hby b132 (pc' := 68) (Ls' := #[.val (.ref x), .val (.int (Int32.ofNat i)), .val (.int cc), .val (.int (0 : Int32))]) (st' := [(.int (0 : Int32))]) rfl ?_
              refine br0 X2 hby d_prog_62_method_9_code_68 (pc1 := 82) (by decide) (fun hz => absurd (neT hz) (fun q => q rfl)) (fun hz => ?_)
              show Go _ _ _ _ (T2.setTop (mkF m 71 #[.val (.ref x), .val (.int (Int32.ofNat i)), .val (.int cc), .val (.int (0 : Int32))] []))
              exact spec (fun q => by rcases q with ⟨qa, qb⟩ | ⟨qa, qb⟩ | ⟨qa, qb⟩ <;> contradiction)
            · replace h48 := ltF h48
              show Go _ _ _ _ (T2.setTop (mkF m 55 #[.val (.ref x), .val (.int (Int32.ofNat i)), .val (.int cc), o3] []))
              refine blk X2 hby b133 (pc' := 58) (Ls' := #[.val (.ref x), .val (.int (Int32.ofNat i)), .val (.int cc), o3]) (st' := [(.int (57 : Int32)), (.int cc)]) rfl ?_
              refine brI X2 hby d_prog_62_method_9_code_58 (pc1 := 65) (by decide) (fun h57 => ?_) (fun h57 => ?_)
              · replace h57 := gtT h57
                show Go _ _ _ _ (T2.setTop (mkF m 65 #[.val (.ref x), .val (.int (Int32.ofNat i)), .val (.int cc), o3] []))
                refine blk X2 hby b134 (pc' := 66) (Ls' := #[.val (.ref x), .val (.int (Int32.ofNat i)), .val (.int cc), o3]) (st' := [(.int (0 : Int32))]) rfl ?_
                refine gIstN X2 hby d_prog_62_method_9_code_66 (o := o3) rfl ho3 ?_
                show Go _ _ _ _ (T2.setTop (mkF m 67 #[.val (.ref x), .val (.int (Int32.ofNat i)), .val (.int cc), .val (.int (0 : Int32))] []))
                refine blk X2 hby b135 (pc' := 68) (Ls' := #[.val (.ref x), .val (.int (Int32.ofNat i)), .val (.int cc), .val (.int (0 : Int32))]) (st' := [(.int (0 : Int32))]) rfl ?_
                refine br0 X2 hby d_prog_62_method_9_code_68 (pc1 := 82) (by decide) (fun hz => absurd (neT hz) (fun q => q rfl)) (fun hz => ?_)
                show Go _ _ _ _ (T2.setTop (mkF m 71 #[.val (.ref x), .val (.int (Int32.ofNat i)), .val (.int cc), .val (.int (0 : Int32))] []))
                exact spec (fun q => by rcases q with ⟨qa, qb⟩ | ⟨qa, qb⟩ | ⟨qa, qb⟩ <;> contradiction)
              · replace h57 := gtF h57
                show Go _ _ _ _ (T2.setTop (mkF m 61 #[.val (.ref x), .val (.int (Int32.ofNat i)), .val (.int cc), o3] []))
                refine blk X2 hby b136 (pc' := 66) (Ls' := #[.val (.ref x), .val (.int (Int32.ofNat i)), .val (.int cc), o3]) (st' := [(.int (1 : Int32))]) rfl ?_
                refine gIstN X2 hby d_prog_62_method_9_code_66 (o := o3) rfl ho3 ?_
                show Go _ _ _ _ (T2.setTop (mkF m 67 #[.val (.ref x), .val (.int (Int32.ofNat i)), .val (.int cc), .val (.int (1 : Int32))] []))
                refine blk X2 hby b137 (pc' := 68) (Ls' := #[.val (.ref x), .val (.int (Int32.ofNat i)), .val (.int cc), .val (.int (1 : Int32))]) (st' := [(.int (1 : Int32))]) rfl ?_
                refine br0 X2 hby d_prog_62_method_9_code_68 (pc1 := 82) (by decide) (fun hz => ?_) (fun hz => absurd (neF hz) (by decide))
                show Go _ _ _ _ (T2.setTop (mkF m 82 #[.val (.ref x), .val (.int (Int32.ofNat i)), .val (.int cc), .val (.int (1 : Int32))] []))
                exact next _ _ _ _ (X2.more (Nat.le_add_right _ _) (Nat.le_add_right _ _)) F (decide_eq_true (Or.inl (Or.inr (Or.inr ⟨h48, h57⟩)))) (One.val rfl)
          · replace h65 := ltF h65
            show Go _ _ _ _ (T2.setTop (mkF m 43 #[.val (.ref x), .val (.int (Int32.ofNat i)), .val (.int cc), o3] []))
            refine blk X2 hby b138 (pc' := 46) (Ls' := #[.val (.ref x), .val (.int (Int32.ofNat i)), .val (.int cc), o3]) (st' := [(.int (90 : Int32)), (.int cc)]) rfl ?_
            refine brI X2 hby d_prog_62_method_9_code_46 (pc1 := 61) (by decide) (fun h90 => ?_) (fun h90 => ?_)
            · replace h90 := leT h90
              show Go _ _ _ _ (T2.setTop (mkF m 61 #[.val (.ref x), .val (.int (Int32.ofNat i)), .val (.int cc), o3] []))
              refine blk X2 hby b139 (pc' := 66) (Ls' := #[.val (.ref x), .val (.int (Int32.ofNat i)), .val (.int cc), o3]) (st' := [(.int (1 : Int32))]) rfl ?_
              refine gIstN X2 hby d_prog_62_method_9_code_66 (o := o3) rfl ho3 ?_
              show Go _ _ _ _ (T2.setTop (mkF m 67 #[.val (.ref x), .val (.int (Int32.ofNat i)), .val (.int cc), .val (.int (1 : Int32))] []))
              refine blk X2 hby b140 (pc' := 68) (Ls' := #[.val (.ref x), .val (.int (Int32.ofNat i)), .val (.int cc), .val (.int (1 : Int32))]) (st' := [(.int (1 : Int32))]) rfl ?_
              refine br0 X2 hby d_prog_62_method_9_code_68 (pc1 := 82) (by decide) (fun hz => ?_) (fun hz => absurd (neF hz) (by decide))
              show Go _ _ _ _ (T2.setTop (mkF m 82 #[.val (.ref x), .val (.int (Int32.ofNat i)), .val (.int cc), .val (.int (1 : Int32))] []))
              exact next _ _ _ _ (X2.more (Nat.le_add_right _ _) (Nat.le_add_right _ _)) F (decide_eq_true (Or.inl (Or.inr (Or.inl ⟨h65, h90⟩)))) (One.val rfl)
            · replace h90 := leF h90
              show Go _ _ _ _ (T2.setTop (mkF m 49 #[.val (.ref x), .val (.int (Int32.ofNat i)), .val (.int cc), o3] []))
              refine blk X2 hby b141 (pc' := 52) (Ls' := #[.val (.ref x), .val (.int (Int32.ofNat i)), .val (.int cc), o3]) (st' := [(.int (48 : Int32)), (.int cc)]) rfl ?_
              refine brI X2 hby d_prog_62_method_9_code_52 (pc1 := 65) (by decide) (fun h48 => ?_) (fun h48 => ?_)
              · replace h48 := ltT h48
                show Go _ _ _ _ (T2.setTop (mkF m 65 #[.val (.ref x), .val (.int (Int32.ofNat i)), .val (.int cc), o3] []))
                refine blk X2 hby b142 (pc' := 66) (Ls' := #[.val (.ref x), .val (.int (Int32.ofNat i)), .val (.int cc), o3]) (st' := [(.int (0 : Int32))]) rfl ?_
                refine gIstN X2 hby d_prog_62_method_9_code_66 (o := o3) rfl ho3 ?_
                show Go _ _ _ _ (T2.setTop (mkF m 67 #[.val (.ref x), .val (.int (Int32.ofNat i)), .val (.int cc), .val (.int (0 : Int32))] []))
                refine blk X2 hby b143 (pc' := 68) (Ls' := #[.val (.ref x), .val (.int (Int32.ofNat i)), .val (.int cc), .val (.int (0 : Int32))]) (st' := [(.int (0 : Int32))]) rfl ?_
                refine br0 X2 hby d_prog_62_method_9_code_68 (pc1 := 82) (by decide) (fun hz => absurd (neT hz) (fun q => q rfl)) (fun hz => ?_)
                show Go _ _ _ _ (T2.setTop (mkF m 71 #[.val (.ref x), .val (.int (Int32.ofNat i)), .val (.int cc), .val (.int (0 : Int32))] []))
                exact spec (fun q => by rcases q with ⟨qa, qb⟩ | ⟨qa, qb⟩ | ⟨qa, qb⟩ <;> contradiction)
              · replace h48 := ltF h48
                show Go _ _ _ _ (T2.setTop (mkF m 55 #[.val (.ref x), .val (.int (Int32.ofNat i)), .val (.int cc), o3] []))
                refine blk X2 hby b144 (pc' := 58) (Ls' := #[.val (.ref x), .val (.int (Int32.ofNat i)), .val (.int cc), o3]) (st' := [(.int (57 : Int32)), (.int cc)]) rfl ?_
                refine brI X2 hby d_prog_62_method_9_code_58 (pc1 := 65) (by decide) (fun h57 => ?_) (fun h57 => ?_)
                · replace h57 := gtT h57
                  show Go _ _ _ _ (T2.setTop (mkF m 65 #[.val (.ref x), .val (.int (Int32.ofNat i)), .val (.int cc), o3] []))
                  refine blk X2 hby b145 (pc' := 66) (Ls' := #[.val (.ref x), .val (.int (Int32.ofNat i)), .val (.int cc), o3]) (st' := [(.int (0 : Int32))]) rfl ?_
                  refine gIstN X2 hby d_prog_62_method_9_code_66 (o := o3) rfl ho3 ?_
                  show Go _ _ _ _ (T2.setTop (mkF m 67 #[.val (.ref x), .val (.int (Int32.ofNat i)), .val (.int cc), .val (.int (0 : Int32))] []))
                  refine blk X2 hby b146 (pc' := 68) (Ls' := #[.val (.ref x), .val (.int (Int32.ofNat i)), .val (.int cc), .val (.int (0 : Int32))]) (st' := [(.int (0 : Int32))]) rfl ?_
                  refine br0 X2 hby d_prog_62_method_9_code_68 (pc1 := 82) (by decide) (fun hz => absurd (neT hz) (fun q => q rfl)) (fun hz => ?_)
                  show Go _ _ _ _ (T2.setTop (mkF m 71 #[.val (.ref x), .val (.int (Int32.ofNat i)), .val (.int cc), .val (.int (0 : Int32))] []))
                  exact spec (fun q => by rcases q with ⟨qa, qb⟩ | ⟨qa, qb⟩ | ⟨qa, qb⟩ <;> contradiction)
                · replace h57 := gtF h57
                  show Go _ _ _ _ (T2.setTop (mkF m 61 #[.val (.ref x), .val (.int (Int32.ofNat i)), .val (.int cc), o3] []))
                  refine blk X2 hby b147 (pc' := 66) (Ls' := #[.val (.ref x), .val (.int (Int32.ofNat i)), .val (.int cc), o3]) (st' := [(.int (1 : Int32))]) rfl ?_
                  refine gIstN X2 hby d_prog_62_method_9_code_66 (o := o3) rfl ho3 ?_
                  show Go _ _ _ _ (T2.setTop (mkF m 67 #[.val (.ref x), .val (.int (Int32.ofNat i)), .val (.int cc), .val (.int (1 : Int32))] []))
                  refine blk X2 hby b148 (pc' := 68) (Ls' := #[.val (.ref x), .val (.int (Int32.ofNat i)), .val (.int cc), .val (.int (1 : Int32))]) (st' := [(.int (1 : Int32))]) rfl ?_
                  refine br0 X2 hby d_prog_62_method_9_code_68 (pc1 := 82) (by decide) (fun hz => ?_) (fun hz => absurd (neF hz) (by decide))
                  show Go _ _ _ _ (T2.setTop (mkF m 82 #[.val (.ref x), .val (.int (Int32.ofNat i)), .val (.int cc), .val (.int (1 : Int32))] []))
                  exact next _ _ _ _ (X2.more (Nat.le_add_right _ _) (Nat.le_add_right _ _)) F (decide_eq_true (Or.inl (Or.inr (Or.inr ⟨h48, h57⟩)))) (One.val rfl)
        · replace h97 := ltF h97
          show Go _ _ _ _ (T2.setTop (mkF m 31 #[.val (.ref x), .val (.int (Int32.ofNat i)), .val (.int cc), o3] []))
          refine blk X2 hby b149 (pc' := 34) (Ls' := #[.val (.ref x), .val (.int (Int32.ofNat i)), .val (.int cc), o3]) (st' := [(.int (122 : Int32)), (.int cc)]) rfl ?_
          refine brI X2 hby d_prog_62_method_9_code_34 (pc1 := 61) (by decide) (fun h122 => ?_) (fun h122 => ?_)
          · replace h122 := leT h122
            show Go _ _ _ _ (T2.setTop (mkF m 61 #[.val (.ref x), .val (.int (Int32.ofNat i)), .val (.int cc), o3] []))
            refine blk X2 hby b150 (pc' := 66) (Ls' := #[.val (.ref x), .val (.int (Int32.ofNat i)), .val (.int cc), o3]) (st' := [(.int (1 : Int32))]) rfl ?_
            refine gIstN X2 hby d_prog_62_method_9_code_66 (o := o3) rfl ho3 ?_
            show Go _ _ _ _ (T2.setTop (mkF m 67 #[.val (.ref x), .val (.int (Int32.ofNat i)), .val (.int cc), .val (.int (1 : Int32))] []))
            refine blk X2 hby b151 (pc' := 68) (Ls' := #[.val (.ref x), .val (.int (Int32.ofNat i)), .val (.int cc), .val (.int (1 : Int32))]) (st' := [(.int (1 : Int32))]) rfl ?_
            refine br0 X2 hby d_prog_62_method_9_code_68 (pc1 := 82) (by decide) (fun hz => ?_) (fun hz => absurd (neF hz) (by decide))
            show Go _ _ _ _ (T2.setTop (mkF m 82 #[.val (.ref x), .val (.int (Int32.ofNat i)), .val (.int cc), .val (.int (1 : Int32))] []))
            exact next _ _ _ _ (X2.more (Nat.le_add_right _ _) (Nat.le_add_right _ _)) F (decide_eq_true (Or.inl (Or.inl ⟨h97, h122⟩))) (One.val rfl)
          · replace h122 := leF h122
            show Go _ _ _ _ (T2.setTop (mkF m 37 #[.val (.ref x), .val (.int (Int32.ofNat i)), .val (.int cc), o3] []))
            refine blk X2 hby b152 (pc' := 40) (Ls' := #[.val (.ref x), .val (.int (Int32.ofNat i)), .val (.int cc), o3]) (st' := [(.int (65 : Int32)), (.int cc)]) rfl ?_
            refine brI X2 hby d_prog_62_method_9_code_40 (pc1 := 49) (by decide) (fun h65 => ?_) (fun h65 => ?_)
            · replace h65 := ltT h65
              show Go _ _ _ _ (T2.setTop (mkF m 49 #[.val (.ref x), .val (.int (Int32.ofNat i)), .val (.int cc), o3] []))
              refine blk X2 hby b153 (pc' := 52) (Ls' := #[.val (.ref x), .val (.int (Int32.ofNat i)), .val (.int cc), o3]) (st' := [(.int (48 : Int32)), (.int cc)]) rfl ?_
              refine brI X2 hby d_prog_62_method_9_code_52 (pc1 := 65) (by decide) (fun h48 => ?_) (fun h48 => ?_)
              · replace h48 := ltT h48
                show Go _ _ _ _ (T2.setTop (mkF m 65 #[.val (.ref x), .val (.int (Int32.ofNat i)), .val (.int cc), o3] []))
                refine blk X2 hby b154 (pc' := 66) (Ls' := #[.val (.ref x), .val (.int (Int32.ofNat i)), .val (.int cc), o3]) (st' := [(.int (0 : Int32))]) rfl ?_
                refine gIstN X2 hby d_prog_62_method_9_code_66 (o := o3) rfl ho3 ?_
                show Go _ _ _ _ (T2.setTop (mkF m 67 #[.val (.ref x), .val (.int (Int32.ofNat i)), .val (.int cc), .val (.int (0 : Int32))] []))
                refine blk X2 hby b155 (pc' := 68) (Ls' := #[.val (.ref x), .val (.int (Int32.ofNat i)), .val (.int cc), .val (.int (0 : Int32))]) (st' := [(.int (0 : Int32))]) rfl ?_
                refine br0 X2 hby d_prog_62_method_9_code_68 (pc1 := 82) (by decide) (fun hz => absurd (neT hz) (fun q => q rfl)) (fun hz => ?_)
                show Go _ _ _ _ (T2.setTop (mkF m 71 #[.val (.ref x), .val (.int (Int32.ofNat i)), .val (.int cc), .val (.int (0 : Int32))] []))
                exact spec (fun q => by rcases q with ⟨qa, qb⟩ | ⟨qa, qb⟩ | ⟨qa, qb⟩ <;> contradiction)
              · replace h48 := ltF h48
                show Go _ _ _ _ (T2.setTop (mkF m 55 #[.val (.ref x), .val (.int (Int32.ofNat i)), .val (.int cc), o3] []))
                refine blk X2 hby b156 (pc' := 58) (Ls' := #[.val (.ref x), .val (.int (Int32.ofNat i)), .val (.int cc), o3]) (st' := [(.int (57 : Int32)), (.int cc)]) rfl ?_
                refine brI X2 hby d_prog_62_method_9_code_58 (pc1 := 65) (by decide) (fun h57 => ?_) (fun h57 => ?_)
                · replace h57 := gtT h57
                  show Go _ _ _ _ (T2.setTop (mkF m 65 #[.val (.ref x), .val (.int (Int32.ofNat i)), .val (.int cc), o3] []))
                  refine blk X2 hby b157 (pc' := 66) (Ls' := #[.val (.ref x), .val (.int (Int32.ofNat i)), .val (.int cc), o3]) (st' := [(.int (0 : Int32))]) rfl ?_
                  refine gIstN X2 hby d_prog_62_method_9_code_66 (o := o3) rfl ho3 ?_
                  show Go _ _ _ _ (T2.setTop (mkF m 67 #[.val (.ref x), .val (.int (Int32.ofNat i)), .val (.int cc), .val (.int (0 : Int32))] []))
                  refine blk X2 hby b158 (pc' := 68) (Ls' := #[.val (.ref x), .val (.int (Int32.ofNat i)), .val (.int cc), .val (.int (0 : Int32))]) (st' := [(.int (0 : Int32))]) rfl ?_
                  refine br0 X2 hby d_prog_62_method_9_code_68 (pc1 := 82) (by decide) (fun hz => absurd (neT hz) (fun q => q rfl)) (fun hz => ?_)
                  show Go _ _ _ _ (T2.setTop (mkF m 71 #[.val (.ref x), .val (.int (Int32.ofNat i)), .val (.int cc), .val (.int (0 : Int32))] []))
                  exact spec (fun q => by rcases q with ⟨qa, qb⟩ | ⟨qa, qb⟩ | ⟨qa, qb⟩ <;> contradiction)
                · replace h57 := gtF h57
                  show Go _ _ _ _ (T2.setTop (mkF m 61 #[.val (.ref x), .val (.int (Int32.ofNat i)), .val (.int cc), o3] []))
                  refine blk X2 hby b159 (pc' := 66) (Ls' := #[.val (.ref x), .val (.int (Int32.ofNat i)), .val (.int cc), o3]) (st' := [(.int (1 : Int32))]) rfl ?_
                  refine gIstN X2 hby d_prog_62_method_9_code_66 (o := o3) rfl ho3 ?_
                  show Go _ _ _ _ (T2.setTop (mkF m 67 #[.val (.ref x), .val (.int (Int32.ofNat i)), .val (.int cc), .val (.int (1 : Int32))] []))
                  refine blk X2 hby b160 (pc' := 68) (Ls' := #[.val (.ref x), .val (.int (Int32.ofNat i)), .val (.int cc), .val (.int (1 : Int32))]) (st' := [(.int (1 : Int32))]) rfl ?_
                  refine br0 X2 hby d_prog_62_method_9_code_68 (pc1 := 82) (by decide) (fun hz => ?_) (fun hz => absurd (neF hz) (by decide))
                  show Go _ _ _ _ (T2.setTop (mkF m 82 #[.val (.ref x), .val (.int (Int32.ofNat i)), .val (.int cc), .val (.int (1 : Int32))] []))
                  exact next _ _ _ _ (X2.more (Nat.le_add_right _ _) (Nat.le_add_right _ _)) F (decide_eq_true (Or.inl (Or.inr (Or.inr ⟨h48, h57⟩)))) (One.val rfl)
            · replace h65 := ltF h65
              show Go _ _ _ _ (T2.setTop (mkF m 43 #[.val (.ref x), .val (.int (Int32.ofNat i)), .val (.int cc), o3] []))
              refine blk X2 hby b161 (pc' := 46) (Ls' := #[.val (.ref x), .val (.int (Int32.ofNat i)), .val (.int cc), o3]) (st' := [(.int (90 : Int32)), (.int cc)]) rfl ?_
              refine brI X2 hby d_prog_62_method_9_code_46 (pc1 := 61) (by decide) (fun h90 => ?_) (fun h90 => ?_)
              · replace h90 := leT h90
                show Go _ _ _ _ (T2.setTop (mkF m 61 #[.val (.ref x), .val (.int (Int32.ofNat i)), .val (.int cc), o3] []))
                refine blk X2 hby b162 (pc' := 66) (Ls' := #[.val (.ref x), .val (.int (Int32.ofNat i)), .val (.int cc), o3]) (st' := [(.int (1 : Int32))]) rfl ?_
                refine gIstN X2 hby d_prog_62_method_9_code_66 (o := o3) rfl ho3 ?_
                show Go _ _ _ _ (T2.setTop (mkF m 67 #[.val (.ref x), .val (.int (Int32.ofNat i)), .val (.int cc), .val (.int (1 : Int32))] []))
                refine blk X2 hby b163 (pc' := 68) (Ls' := #[.val (.ref x), .val (.int (Int32.ofNat i)), .val (.int cc), .val (.int (1 : Int32))]) (st' := [(.int (1 : Int32))]) rfl ?_
                refine br0 X2 hby d_prog_62_method_9_code_68 (pc1 := 82) (by decide) (fun hz => ?_) (fun hz => absurd (neF hz) (by decide))
                show Go _ _ _ _ (T2.setTop (mkF m 82 #[.val (.ref x), .val (.int (Int32.ofNat i)), .val (.int cc), .val (.int (1 : Int32))] []))
                exact next _ _ _ _ (X2.more (Nat.le_add_right _ _) (Nat.le_add_right _ _)) F (decide_eq_true (Or.inl (Or.inr (Or.inl ⟨h65, h90⟩)))) (One.val rfl)
              · replace h90 := leF h90
                show Go _ _ _ _ (T2.setTop (mkF m 49 #[.val (.ref x), .val (.int (Int32.ofNat i)), .val (.int cc), o3] []))
                refine blk X2 hby b164 (pc' := 52) (Ls' := #[.val (.ref x), .val (.int (Int32.ofNat i)), .val (.int cc), o3]) (st' := [(.int (48 : Int32)), (.int cc)]) rfl ?_
                refine brI X2 hby d_prog_62_method_9_code_52 (pc1 := 65) (by decide) (fun h48 => ?_) (fun h48 => ?_)
                · replace h48 := ltT h48
                  show Go _ _ _ _ (T2.setTop (mkF m 65 #[.val (.ref x), .val (.int (Int32.ofNat i)), .val (.int cc), o3] []))
                  refine blk X2 hby b165 (pc' := 66) (Ls' := #[.val (.ref x), .val (.int (Int32.ofNat i)), .val (.int cc), o3]) (st' := [(.int (0 : Int32))]) rfl ?_
                  refine gIstN X2 hby d_prog_62_method_9_code_66 (o := o3) rfl ho3 ?_
                  show Go _ _ _ _ (T2.setTop (mkF m 67 #[.val (.ref x), .val (.int (Int32.ofNat i)), .val (.int cc), .val (.int (0 : Int32))] []))
                  refine blk X2 hby b166 (pc' := 68) (Ls' := #[.val (.ref x), .val (.int (Int32.ofNat i)), .val (.int cc), .val (.int (0 : Int32))]) (st' := [(.int (0 : Int32))]) rfl ?_
                  refine br0 X2 hby d_prog_62_method_9_code_68 (pc1 := 82) (by decide) (fun hz => absurd (neT hz) (fun q => q rfl)) (fun hz => ?_)
                  show Go _ _ _ _ (T2.setTop (mkF m 71 #[.val (.ref x), .val (.int (Int32.ofNat i)), .val (.int cc), .val (.int (0 : Int32))] []))
                  exact spec (fun q => by rcases q with ⟨qa, qb⟩ | ⟨qa, qb⟩ | ⟨qa, qb⟩ <;> contradiction)
                · replace h48 := ltF h48
                  show Go _ _ _ _ (T2.setTop (mkF m 55 #[.val (.ref x), .val (.int (Int32.ofNat i)), .val (.int cc), o3] []))
                  refine blk X2 hby b167 (pc' := 58) (Ls' := #[.val (.ref x), .val (.int (Int32.ofNat i)), .val (.int cc), o3]) (st' := [(.int (57 : Int32)), (.int cc)]) rfl ?_
                  refine brI X2 hby d_prog_62_method_9_code_58 (pc1 := 65) (by decide) (fun h57 => ?_) (fun h57 => ?_)
                  · replace h57 := gtT h57
                    show Go _ _ _ _ (T2.setTop (mkF m 65 #[.val (.ref x), .val (.int (Int32.ofNat i)), .val (.int cc), o3] []))
                    refine blk X2 hby b168 (pc' := 66) (Ls' := #[.val (.ref x), .val (.int (Int32.ofNat i)), .val (.int cc), o3]) (st' := [(.int (0 : Int32))]) rfl ?_
                    refine gIstN X2 hby d_prog_62_method_9_code_66 (o := o3) rfl ho3 ?_
                    show Go _ _ _ _ (T2.setTop (mkF m 67 #[.val (.ref x), .val (.int (Int32.ofNat i)), .val (.int cc), .val (.int (0 : Int32))] []))
                    refine blk X2 hby b169 (pc' := 68) (Ls' := #[.val (.ref x), .val (.int (Int32.ofNat i)), .val (.int cc), .val (.int (0 : Int32))]) (st' := [(.int (0 : Int32))]) rfl ?_
                    refine br0 X2 hby d_prog_62_method_9_code_68 (pc1 := 82) (by decide) (fun hz => absurd (neT hz) (fun q => q rfl)) (fun hz => ?_)
                    show Go _ _ _ _ (T2.setTop (mkF m 71 #[.val (.ref x), .val (.int (Int32.ofNat i)), .val (.int cc), .val (.int (0 : Int32))] []))
                    exact spec (fun q => by rcases q with ⟨qa, qb⟩ | ⟨qa, qb⟩ | ⟨qa, qb⟩ <;> contradiction)
                  · replace h57 := gtF h57
                    show Go _ _ _ _ (T2.setTop (mkF m 61 #[.val (.ref x), .val (.int (Int32.ofNat i)), .val (.int cc), o3] []))
                    refine blk X2 hby b170 (pc' := 66) (Ls' := #[.val (.ref x), .val (.int (Int32.ofNat i)), .val (.int cc), o3]) (st' := [(.int (1 : Int32))]) rfl ?_
                    refine gIstN X2 hby d_prog_62_method_9_code_66 (o := o3) rfl ho3 ?_
                    show Go _ _ _ _ (T2.setTop (mkF m 67 #[.val (.ref x), .val (.int (Int32.ofNat i)), .val (.int cc), .val (.int (1 : Int32))] []))
                    refine blk X2 hby b171 (pc' := 68) (Ls' := #[.val (.ref x), .val (.int (Int32.ofNat i)), .val (.int cc), .val (.int (1 : Int32))]) (st' := [(.int (1 : Int32))]) rfl ?_
                    refine br0 X2 hby d_prog_62_method_9_code_68 (pc1 := 82) (by decide) (fun hz => ?_) (fun hz => absurd (neF hz) (by decide))
                    show Go _ _ _ _ (T2.setTop (mkF m 82 #[.val (.ref x), .val (.int (Int32.ofNat i)), .val (.int cc), .val (.int (1 : Int32))] []))
                    exact next _ _ _ _ (X2.more (Nat.le_add_right _ _) (Nat.le_add_right _ _)) F (decide_eq_true (Or.inl (Or.inr (Or.inr ⟨h48, h57⟩)))) (One.val rfl)
    exact loop cs.length 0 T1 h0 S1 0 0 _ _ (by omega) (by omega) (by omega) X1 F (fun j hj => absurd hj (Nat.not_lt_zero _)) One.u One.u
  · replace hc := eqF hc
    show Go _ _ _ _ (T1.setTop (mkF m 7 #[.val (.ref x), .unset, .unset, .unset] []))
    refine blk X1 hby b172 (pc' := 8) (Ls' := #[.val (.ref x), .unset, .unset, .unset]) (st' := [(.int (0 : Int32))]) rfl ?_
    exact retI' X1 hby hret d_prog_62_method_9_code_8 rfl (fun S' hS' => by show some _ = some _; rw [show isTok cs = 0 from by have q : cs = [] := Classical.byContradiction fun q => hc (by rw [if_neg q]); rw [q]; rfl])
theorem pn_com_example_ligature_ligature_http_HeadersIsTokenPinLaw : plainName "com/example/ligature/ligature/http/HeadersIsTokenPinLaw" = true := by first | (simp [plainName, overriddenIn]; done) | decide +kernel
theorem ef_method_3_code (m : MethodId) (x0 : Int32) : entryFrame m #[(.int x0)] 1 = mkF m 0 #[.val (.int x0)] [] := by first | (simp [entryFrame, mkF, argsToLocals, Value.category]; done) | rfl
theorem b173 : decs method_3_code 0 [.iload_n 0, .bipush 16, .iushr, .iconst 1, .iand] = true := by decide +kernel
theorem d_method_3_code_6 : decode method_3_code 6 = .ok (.ifCond .eq 9, 3) := by decide +kernel
theorem b174 : decs method_3_code 15 [.iload_n 0, .i2c] = true := by decide +kernel
theorem d_method_3_code_17 : decode method_3_code 17 = .ok (.ireturn, 1) := by decide +kernel
theorem b175 : decs method_3_code 9 [.iload_n 0, .bipush 127, .iand, .i2c] = true := by decide +kernel
theorem d_method_3_code_14 : decode method_3_code 14 = .ok (.ireturn, 1) := by decide +kernel
def QDR (h0 : Heap) (v : Option Value) (h : Heap) (S : Addr → Prop) : Prop := ∃ c, v = some (.int c) ∧ h0 = h ∧ (¬ c < 0 ∧ ¬ 65535 < c)
set_option maxRecDepth 65536 in
set_option maxHeartbeats 40000000 in
theorem ct_draw {h0 : Heap} {pp : Int32} (hw : ∀ d ∈ tables_1, d.before a0 Z = true) (hEL : EW Z a0 EL) (hO : Old Z Z.heap.size h0)  :
    Ct true false Z EL l (⟨"com/example/ligature/ligature/http/HeadersIsTokenPinLaw", "draw", "(I)C"⟩ : MethodName) method_3_code 1 (some .char) ({ frames := 0, cells := 0, slots := 0, locals := 0 } : Room) #[(.int pp)] h0 [] (QDR h0) := by
  refine ctOf (plainFor_of_name pn_com_example_ligature_ligature_http_HeadersIsTokenPinLaw) hO hEL ?_
  intro p e s m below meth c s₁ S0 X0 hby hml hret hnm hsf
  refine Go.entry (ef_method_3_code m pp) ?_
  show Go _ _ _ _ (s₁.setTop (mkF m 0 #[.val (.int pp)] []))
  refine blk X0 hby b173 (pc' := 6) (Ls' := #[.val (.int pp)]) (st' := [(.int ((XT.ushr pp (16 : Int32)) &&& (1 : Int32)))]) rfl ?_
  refine br0 X0 hby d_method_3_code_6 (pc1 := 15) (by decide) (fun hc => ?_) (fun hc => ?_)
  · replace hc := eqT hc
    show Go _ _ _ _ (s₁.setTop (mkF m 15 #[.val (.int pp)] []))
    refine blk X0 hby b174 (pc' := 17) (Ls' := #[.val (.int pp)]) (st' := [(.int (chr16 pp))]) rfl ?_
    exact retI' X0 hby hret d_method_3_code_17 (XT.narrow_c _) (fun S' hS' => ⟨_, rfl, rfl, chr_rng _⟩)
  · replace hc := eqF hc
    show Go _ _ _ _ (s₁.setTop (mkF m 9 #[.val (.int pp)] []))
    refine blk X0 hby b175 (pc' := 14) (Ls' := #[.val (.int pp)]) (st' := [(.int (chr16 (pp &&& (127 : Int32))))]) rfl ?_
    exact retI' X0 hby hret d_method_3_code_14 (XT.narrow_c _) (fun S' hS' => ⟨_, rfl, rfl, chr_rng _⟩)
theorem ef_method_4_code (m : MethodId) (x0 : Int32) : entryFrame m #[(.int x0)] 2 = mkF m 0 #[.val (.int x0), .unset] [] := by first | (simp [entryFrame, mkF, argsToLocals, Value.category]; done) | rfl
theorem b176 : decs method_4_code 0 [.iload_n 0, .bipush 33] = true := by decide +kernel
theorem d_method_4_code_3 : decode method_4_code 3 = .ok (.if_icmp .lt 9, 3) := by decide +kernel
theorem b177 : decs method_4_code 12 [.iconst 0] = true := by decide +kernel
theorem d_method_4_code_13 : decode method_4_code 13 = .ok (.ireturn, 1) := by decide +kernel
theorem b178 : decs method_4_code 6 [.iload_n 0, .bipush 126] = true := by decide +kernel
theorem d_method_4_code_9 : decode method_4_code 9 = .ok (.if_icmp .le 5, 3) := by decide +kernel
theorem b179 : decs method_4_code 14 [.iload_n 0, .bipush 34] = true := by decide +kernel
theorem d_method_4_code_17 : decode method_4_code 17 = .ok (.if_icmp .eq 99, 3) := by decide +kernel
theorem b180 : decs method_4_code 116 [.iconst 1, .goto 4, .istore_n 1, .iload_n 1] = true := by decide +kernel
theorem d_method_4_code_123 : decode method_4_code 123 = .ok (.ifCond .ne 7, 3) := by decide +kernel
theorem b181 : decs method_4_code 130 [.iconst 0] = true := by decide +kernel
theorem d_method_4_code_131 : decode method_4_code 131 = .ok (.ireturn, 1) := by decide +kernel
theorem b182 : decs method_4_code 20 [.iload_n 0, .bipush 40] = true := by decide +kernel
theorem d_method_4_code_23 : decode method_4_code 23 = .ok (.if_icmp .eq 93, 3) := by decide +kernel
theorem b183 : decs method_4_code 116 [.iconst 1, .goto 4, .istore_n 1, .iload_n 1] = true := by decide +kernel
theorem b184 : decs method_4_code 130 [.iconst 0] = true := by decide +kernel
theorem b185 : decs method_4_code 26 [.iload_n 0, .bipush 41] = true := by decide +kernel
theorem d_method_4_code_29 : decode method_4_code 29 = .ok (.if_icmp .eq 87, 3) := by decide +kernel
theorem b186 : decs method_4_code 116 [.iconst 1, .goto 4, .istore_n 1, .iload_n 1] = true := by decide +kernel
theorem b187 : decs method_4_code 130 [.iconst 0] = true := by decide +kernel
theorem b188 : decs method_4_code 32 [.iload_n 0, .bipush 44] = true := by decide +kernel
theorem d_method_4_code_35 : decode method_4_code 35 = .ok (.if_icmp .eq 81, 3) := by decide +kernel
theorem b189 : decs method_4_code 116 [.iconst 1, .goto 4, .istore_n 1, .iload_n 1] = true := by decide +kernel
theorem b190 : decs method_4_code 130 [.iconst 0] = true := by decide +kernel
theorem b191 : decs method_4_code 38 [.iload_n 0, .bipush 47] = true := by decide +kernel
theorem d_method_4_code_41 : decode method_4_code 41 = .ok (.if_icmp .eq 75, 3) := by decide +kernel
theorem b192 : decs method_4_code 116 [.iconst 1, .goto 4, .istore_n 1, .iload_n 1] = true := by decide +kernel
theorem b193 : decs method_4_code 130 [.iconst 0] = true := by decide +kernel
theorem b194 : decs method_4_code 44 [.iload_n 0, .bipush 58] = true := by decide +kernel
theorem d_method_4_code_47 : decode method_4_code 47 = .ok (.if_icmp .eq 69, 3) := by decide +kernel
theorem b195 : decs method_4_code 116 [.iconst 1, .goto 4, .istore_n 1, .iload_n 1] = true := by decide +kernel
theorem b196 : decs method_4_code 130 [.iconst 0] = true := by decide +kernel
theorem b197 : decs method_4_code 50 [.iload_n 0, .bipush 59] = true := by decide +kernel
theorem d_method_4_code_53 : decode method_4_code 53 = .ok (.if_icmp .eq 63, 3) := by decide +kernel
theorem b198 : decs method_4_code 116 [.iconst 1, .goto 4, .istore_n 1, .iload_n 1] = true := by decide +kernel
theorem b199 : decs method_4_code 130 [.iconst 0] = true := by decide +kernel
theorem b200 : decs method_4_code 56 [.iload_n 0, .bipush 60] = true := by decide +kernel
theorem d_method_4_code_59 : decode method_4_code 59 = .ok (.if_icmp .eq 57, 3) := by decide +kernel
theorem b201 : decs method_4_code 116 [.iconst 1, .goto 4, .istore_n 1, .iload_n 1] = true := by decide +kernel
theorem b202 : decs method_4_code 130 [.iconst 0] = true := by decide +kernel
theorem b203 : decs method_4_code 62 [.iload_n 0, .bipush 61] = true := by decide +kernel
theorem d_method_4_code_65 : decode method_4_code 65 = .ok (.if_icmp .eq 51, 3) := by decide +kernel
theorem b204 : decs method_4_code 116 [.iconst 1, .goto 4, .istore_n 1, .iload_n 1] = true := by decide +kernel
theorem b205 : decs method_4_code 130 [.iconst 0] = true := by decide +kernel
theorem b206 : decs method_4_code 68 [.iload_n 0, .bipush 62] = true := by decide +kernel
theorem d_method_4_code_71 : decode method_4_code 71 = .ok (.if_icmp .eq 45, 3) := by decide +kernel
theorem b207 : decs method_4_code 116 [.iconst 1, .goto 4, .istore_n 1, .iload_n 1] = true := by decide +kernel
theorem b208 : decs method_4_code 130 [.iconst 0] = true := by decide +kernel
theorem b209 : decs method_4_code 74 [.iload_n 0, .bipush 63] = true := by decide +kernel
theorem d_method_4_code_77 : decode method_4_code 77 = .ok (.if_icmp .eq 39, 3) := by decide +kernel
theorem b210 : decs method_4_code 116 [.iconst 1, .goto 4, .istore_n 1, .iload_n 1] = true := by decide +kernel
theorem b211 : decs method_4_code 130 [.iconst 0] = true := by decide +kernel
theorem b212 : decs method_4_code 80 [.iload_n 0, .bipush 64] = true := by decide +kernel
theorem d_method_4_code_83 : decode method_4_code 83 = .ok (.if_icmp .eq 33, 3) := by decide +kernel
theorem b213 : decs method_4_code 116 [.iconst 1, .goto 4, .istore_n 1, .iload_n 1] = true := by decide +kernel
theorem b214 : decs method_4_code 130 [.iconst 0] = true := by decide +kernel
theorem b215 : decs method_4_code 86 [.iload_n 0, .bipush 91] = true := by decide +kernel
theorem d_method_4_code_89 : decode method_4_code 89 = .ok (.if_icmp .eq 27, 3) := by decide +kernel
theorem b216 : decs method_4_code 116 [.iconst 1, .goto 4, .istore_n 1, .iload_n 1] = true := by decide +kernel
theorem b217 : decs method_4_code 130 [.iconst 0] = true := by decide +kernel
theorem b218 : decs method_4_code 92 [.iload_n 0, .bipush 92] = true := by decide +kernel
theorem d_method_4_code_95 : decode method_4_code 95 = .ok (.if_icmp .eq 21, 3) := by decide +kernel
theorem b219 : decs method_4_code 116 [.iconst 1, .goto 4, .istore_n 1, .iload_n 1] = true := by decide +kernel
theorem b220 : decs method_4_code 130 [.iconst 0] = true := by decide +kernel
theorem b221 : decs method_4_code 98 [.iload_n 0, .bipush 93] = true := by decide +kernel
theorem d_method_4_code_101 : decode method_4_code 101 = .ok (.if_icmp .eq 15, 3) := by decide +kernel
theorem b222 : decs method_4_code 116 [.iconst 1, .goto 4, .istore_n 1, .iload_n 1] = true := by decide +kernel
theorem b223 : decs method_4_code 130 [.iconst 0] = true := by decide +kernel
theorem b224 : decs method_4_code 104 [.iload_n 0, .bipush 123] = true := by decide +kernel
theorem d_method_4_code_107 : decode method_4_code 107 = .ok (.if_icmp .eq 9, 3) := by decide +kernel
theorem b225 : decs method_4_code 116 [.iconst 1, .goto 4, .istore_n 1, .iload_n 1] = true := by decide +kernel
theorem b226 : decs method_4_code 130 [.iconst 0] = true := by decide +kernel
theorem b227 : decs method_4_code 110 [.iload_n 0, .bipush 125] = true := by decide +kernel
theorem d_method_4_code_113 : decode method_4_code 113 = .ok (.if_icmp .ne 7, 3) := by decide +kernel
theorem b228 : decs method_4_code 120 [.iconst 0, .istore_n 1, .iload_n 1] = true := by decide +kernel
theorem b229 : decs method_4_code 126 [.iconst 1, .goto 4] = true := by decide +kernel
theorem b230 : decs method_4_code 116 [.iconst 1, .goto 4, .istore_n 1, .iload_n 1] = true := by decide +kernel
theorem b231 : decs method_4_code 130 [.iconst 0] = true := by decide +kernel
theorem b232 : decs method_4_code 12 [.iconst 0] = true := by decide +kernel
set_option maxRecDepth 65536 in
set_option maxHeartbeats 40000000 in
theorem ct_tch {h0 : Heap} {y : Int32} (hw : ∀ d ∈ tables_1, d.before a0 Z = true) (hEL : EW Z a0 EL) (hO : Old Z Z.heap.size h0)  :
    Ct true false Z EL l (⟨"com/example/ligature/ligature/http/HeadersIsTokenPinLaw", "tchar", "(C)Z"⟩ : MethodName) method_4_code 2 (some .boolean) ({ frames := 0, cells := 0, slots := 0, locals := 0 } : Room) #[(.int y)] h0 [] (QI h0 (if tokB y = true then 1 else 0)) := by
  refine ctOf (plainFor_of_name pn_com_example_ligature_ligature_http_HeadersIsTokenPinLaw) hO hEL ?_
  intro p e s m below meth c s₁ S0 X0 hby hml hret hnm hsf
  refine Go.entry (ef_method_4_code m y) ?_
  show Go _ _ _ _ (s₁.setTop (mkF m 0 #[.val (.int y), .unset] []))
  refine blk X0 hby b176 (pc' := 3) (Ls' := #[.val (.int y), .unset]) (st' := [(.int (33 : Int32)), (.int y)]) rfl ?_
  refine brI X0 hby d_method_4_code_3 (pc1 := 12) (by decide) (fun h33 => ?_) (fun h33 => ?_)
  · replace h33 := ltT h33
    show Go _ _ _ _ (s₁.setTop (mkF m 12 #[.val (.int y), .unset] []))
    refine blk X0 hby b177 (pc' := 13) (Ls' := #[.val (.int y), .unset]) (st' := [(.int (0 : Int32))]) rfl ?_
    exact retI' X0 hby hret d_method_4_code_13 rfl (fun S' hS' => ⟨by rw [tok_lo h33]; rfl, rfl⟩)
  · replace h33 := ltF h33
    show Go _ _ _ _ (s₁.setTop (mkF m 6 #[.val (.int y), .unset] []))
    refine blk X0 hby b178 (pc' := 9) (Ls' := #[.val (.int y), .unset]) (st' := [(.int (126 : Int32)), (.int y)]) rfl ?_
    refine brI X0 hby d_method_4_code_9 (pc1 := 14) (by decide) (fun h126 => ?_) (fun h126 => ?_)
    · replace h126 := leT h126
      show Go _ _ _ _ (s₁.setTop (mkF m 14 #[.val (.int y), .unset] []))
      refine blk X0 hby b179 (pc' := 17) (Ls' := #[.val (.int y), .unset]) (st' := [(.int (34 : Int32)), (.int y)]) rfl ?_
      refine brI X0 hby d_method_4_code_17 (pc1 := 116) (by decide) (fun e34 => ?_) (fun e34 => ?_)
      · replace e34 := eqT e34
        show Go _ _ _ _ (s₁.setTop (mkF m 116 #[.val (.int y), .unset] []))
        refine blk X0 hby b180 (pc' := 123) (Ls' := #[.val (.int y), .val (.int (1 : Int32))]) (st' := [(.int (1 : Int32))]) rfl ?_
        refine br0 X0 hby d_method_4_code_123 (pc1 := 130) (by decide) (fun hz => ?_) (fun hz => absurd (neF hz) (by decide))
        show Go _ _ _ _ (s₁.setTop (mkF m 130 #[.val (.int y), .val (.int (1 : Int32))] []))
        refine blk X0 hby b181 (pc' := 131) (Ls' := #[.val (.int y), .val (.int (1 : Int32))]) (st' := [(.int (0 : Int32))]) rfl ?_
        exact retI' X0 hby hret d_method_4_code_131 rfl (fun S' hS' => ⟨by rw [e34]; rfl, rfl⟩)
      · replace e34 := eqF e34
        show Go _ _ _ _ (s₁.setTop (mkF m 20 #[.val (.int y), .unset] []))
        refine blk X0 hby b182 (pc' := 23) (Ls' := #[.val (.int y), .unset]) (st' := [(.int (40 : Int32)), (.int y)]) rfl ?_
        refine brI X0 hby d_method_4_code_23 (pc1 := 116) (by decide) (fun e40 => ?_) (fun e40 => ?_)
        · replace e40 := eqT e40
          show Go _ _ _ _ (s₁.setTop (mkF m 116 #[.val (.int y), .unset] []))
          refine blk X0 hby b183 (pc' := 123) (Ls' := #[.val (.int y), .val (.int (1 : Int32))]) (st' := [(.int (1 : Int32))]) rfl ?_
          refine br0 X0 hby d_method_4_code_123 (pc1 := 130) (by decide) (fun hz => ?_) (fun hz => absurd (neF hz) (by decide))
          show Go _ _ _ _ (s₁.setTop (mkF m 130 #[.val (.int y), .val (.int (1 : Int32))] []))
          refine blk X0 hby b184 (pc' := 131) (Ls' := #[.val (.int y), .val (.int (1 : Int32))]) (st' := [(.int (0 : Int32))]) rfl ?_
          exact retI' X0 hby hret d_method_4_code_131 rfl (fun S' hS' => ⟨by rw [e40]; rfl, rfl⟩)
        · replace e40 := eqF e40
          show Go _ _ _ _ (s₁.setTop (mkF m 26 #[.val (.int y), .unset] []))
          refine blk X0 hby b185 (pc' := 29) (Ls' := #[.val (.int y), .unset]) (st' := [(.int (41 : Int32)), (.int y)]) rfl ?_
          refine brI X0 hby d_method_4_code_29 (pc1 := 116) (by decide) (fun e41 => ?_) (fun e41 => ?_)
          · replace e41 := eqT e41
            show Go _ _ _ _ (s₁.setTop (mkF m 116 #[.val (.int y), .unset] []))
            refine blk X0 hby b186 (pc' := 123) (Ls' := #[.val (.int y), .val (.int (1 : Int32))]) (st' := [(.int (1 : Int32))]) rfl ?_
            refine br0 X0 hby d_method_4_code_123 (pc1 := 130) (by decide) (fun hz => ?_) (fun hz => absurd (neF hz) (by decide))
            show Go _ _ _ _ (s₁.setTop (mkF m 130 #[.val (.int y), .val (.int (1 : Int32))] []))
            refine blk X0 hby b187 (pc' := 131) (Ls' := #[.val (.int y), .val (.int (1 : Int32))]) (st' := [(.int (0 : Int32))]) rfl ?_
            exact retI' X0 hby hret d_method_4_code_131 rfl (fun S' hS' => ⟨by rw [e41]; rfl, rfl⟩)
          · replace e41 := eqF e41
            show Go _ _ _ _ (s₁.setTop (mkF m 32 #[.val (.int y), .unset] []))
            refine blk X0 hby b188 (pc' := 35) (Ls' := #[.val (.int y), .unset]) (st' := [(.int (44 : Int32)), (.int y)]) rfl ?_
            refine brI X0 hby d_method_4_code_35 (pc1 := 116) (by decide) (fun e44 => ?_) (fun e44 => ?_)
            · replace e44 := eqT e44
              show Go _ _ _ _ (s₁.setTop (mkF m 116 #[.val (.int y), .unset] []))
              refine blk X0 hby b189 (pc' := 123) (Ls' := #[.val (.int y), .val (.int (1 : Int32))]) (st' := [(.int (1 : Int32))]) rfl ?_
              refine br0 X0 hby d_method_4_code_123 (pc1 := 130) (by decide) (fun hz => ?_) (fun hz => absurd (neF hz) (by decide))
              show Go _ _ _ _ (s₁.setTop (mkF m 130 #[.val (.int y), .val (.int (1 : Int32))] []))
              refine blk X0 hby b190 (pc' := 131) (Ls' := #[.val (.int y), .val (.int (1 : Int32))]) (st' := [(.int (0 : Int32))]) rfl ?_
              exact retI' X0 hby hret d_method_4_code_131 rfl (fun S' hS' => ⟨by rw [e44]; rfl, rfl⟩)
            · replace e44 := eqF e44
              show Go _ _ _ _ (s₁.setTop (mkF m 38 #[.val (.int y), .unset] []))
              refine blk X0 hby b191 (pc' := 41) (Ls' := #[.val (.int y), .unset]) (st' := [(.int (47 : Int32)), (.int y)]) rfl ?_
              refine brI X0 hby d_method_4_code_41 (pc1 := 116) (by decide) (fun e47 => ?_) (fun e47 => ?_)
              · replace e47 := eqT e47
                show Go _ _ _ _ (s₁.setTop (mkF m 116 #[.val (.int y), .unset] []))
                refine blk X0 hby b192 (pc' := 123) (Ls' := #[.val (.int y), .val (.int (1 : Int32))]) (st' := [(.int (1 : Int32))]) rfl ?_
                refine br0 X0 hby d_method_4_code_123 (pc1 := 130) (by decide) (fun hz => ?_) (fun hz => absurd (neF hz) (by decide))
                show Go _ _ _ _ (s₁.setTop (mkF m 130 #[.val (.int y), .val (.int (1 : Int32))] []))
                refine blk X0 hby b193 (pc' := 131) (Ls' := #[.val (.int y), .val (.int (1 : Int32))]) (st' := [(.int (0 : Int32))]) rfl ?_
                exact retI' X0 hby hret d_method_4_code_131 rfl (fun S' hS' => ⟨by rw [e47]; rfl, rfl⟩)
              · replace e47 := eqF e47
                show Go _ _ _ _ (s₁.setTop (mkF m 44 #[.val (.int y), .unset] []))
                refine blk X0 hby b194 (pc' := 47) (Ls' := #[.val (.int y), .unset]) (st' := [(.int (58 : Int32)), (.int y)]) rfl ?_
                refine brI X0 hby d_method_4_code_47 (pc1 := 116) (by decide) (fun e58 => ?_) (fun e58 => ?_)
                · replace e58 := eqT e58
                  show Go _ _ _ _ (s₁.setTop (mkF m 116 #[.val (.int y), .unset] []))
                  refine blk X0 hby b195 (pc' := 123) (Ls' := #[.val (.int y), .val (.int (1 : Int32))]) (st' := [(.int (1 : Int32))]) rfl ?_
                  refine br0 X0 hby d_method_4_code_123 (pc1 := 130) (by decide) (fun hz => ?_) (fun hz => absurd (neF hz) (by decide))
                  show Go _ _ _ _ (s₁.setTop (mkF m 130 #[.val (.int y), .val (.int (1 : Int32))] []))
                  refine blk X0 hby b196 (pc' := 131) (Ls' := #[.val (.int y), .val (.int (1 : Int32))]) (st' := [(.int (0 : Int32))]) rfl ?_
                  exact retI' X0 hby hret d_method_4_code_131 rfl (fun S' hS' => ⟨by rw [e58]; rfl, rfl⟩)
                · replace e58 := eqF e58
                  show Go _ _ _ _ (s₁.setTop (mkF m 50 #[.val (.int y), .unset] []))
                  refine blk X0 hby b197 (pc' := 53) (Ls' := #[.val (.int y), .unset]) (st' := [(.int (59 : Int32)), (.int y)]) rfl ?_
                  refine brI X0 hby d_method_4_code_53 (pc1 := 116) (by decide) (fun e59 => ?_) (fun e59 => ?_)
                  · replace e59 := eqT e59
                    show Go _ _ _ _ (s₁.setTop (mkF m 116 #[.val (.int y), .unset] []))
                    refine blk X0 hby b198 (pc' := 123) (Ls' := #[.val (.int y), .val (.int (1 : Int32))]) (st' := [(.int (1 : Int32))]) rfl ?_
                    refine br0 X0 hby d_method_4_code_123 (pc1 := 130) (by decide) (fun hz => ?_) (fun hz => absurd (neF hz) (by decide))
                    show Go _ _ _ _ (s₁.setTop (mkF m 130 #[.val (.int y), .val (.int (1 : Int32))] []))
                    refine blk X0 hby b199 (pc' := 131) (Ls' := #[.val (.int y), .val (.int (1 : Int32))]) (st' := [(.int (0 : Int32))]) rfl ?_
                    exact retI' X0 hby hret d_method_4_code_131 rfl (fun S' hS' => ⟨by rw [e59]; rfl, rfl⟩)
                  · replace e59 := eqF e59
                    show Go _ _ _ _ (s₁.setTop (mkF m 56 #[.val (.int y), .unset] []))
                    refine blk X0 hby b200 (pc' := 59) (Ls' := #[.val (.int y), .unset]) (st' := [(.int (60 : Int32)), (.int y)]) rfl ?_
                    refine brI X0 hby d_method_4_code_59 (pc1 := 116) (by decide) (fun e60 => ?_) (fun e60 => ?_)
                    · replace e60 := eqT e60
                      show Go _ _ _ _ (s₁.setTop (mkF m 116 #[.val (.int y), .unset] []))
                      refine blk X0 hby b201 (pc' := 123) (Ls' := #[.val (.int y), .val (.int (1 : Int32))]) (st' := [(.int (1 : Int32))]) rfl ?_
                      refine br0 X0 hby d_method_4_code_123 (pc1 := 130) (by decide) (fun hz => ?_) (fun hz => absurd (neF hz) (by decide))
                      show Go _ _ _ _ (s₁.setTop (mkF m 130 #[.val (.int y), .val (.int (1 : Int32))] []))
                      refine blk X0 hby b202 (pc' := 131) (Ls' := #[.val (.int y), .val (.int (1 : Int32))]) (st' := [(.int (0 : Int32))]) rfl ?_
                      exact retI' X0 hby hret d_method_4_code_131 rfl (fun S' hS' => ⟨by rw [e60]; rfl, rfl⟩)
                    · replace e60 := eqF e60
                      show Go _ _ _ _ (s₁.setTop (mkF m 62 #[.val (.int y), .unset] []))
                      refine blk X0 hby b203 (pc' := 65) (Ls' := #[.val (.int y), .unset]) (st' := [(.int (61 : Int32)), (.int y)]) rfl ?_
                      refine brI X0 hby d_method_4_code_65 (pc1 := 116) (by decide) (fun e61 => ?_) (fun e61 => ?_)
                      · replace e61 := eqT e61
                        show Go _ _ _ _ (s₁.setTop (mkF m 116 #[.val (.int y), .unset] []))
                        refine blk X0 hby b204 (pc' := 123) (Ls' := #[.val (.int y), .val (.int (1 : Int32))]) (st' := [(.int (1 : Int32))]) rfl ?_
                        refine br0 X0 hby d_method_4_code_123 (pc1 := 130) (by decide) (fun hz => ?_) (fun hz => absurd (neF hz) (by decide))
                        show Go _ _ _ _ (s₁.setTop (mkF m 130 #[.val (.int y), .val (.int (1 : Int32))] []))
                        refine blk X0 hby b205 (pc' := 131) (Ls' := #[.val (.int y), .val (.int (1 : Int32))]) (st' := [(.int (0 : Int32))]) rfl ?_
                        exact retI' X0 hby hret d_method_4_code_131 rfl (fun S' hS' => ⟨by rw [e61]; rfl, rfl⟩)
                      · replace e61 := eqF e61
                        show Go _ _ _ _ (s₁.setTop (mkF m 68 #[.val (.int y), .unset] []))
                        refine blk X0 hby b206 (pc' := 71) (Ls' := #[.val (.int y), .unset]) (st' := [(.int (62 : Int32)), (.int y)]) rfl ?_
                        refine brI X0 hby d_method_4_code_71 (pc1 := 116) (by decide) (fun e62 => ?_) (fun e62 => ?_)
                        · replace e62 := eqT e62
                          show Go _ _ _ _ (s₁.setTop (mkF m 116 #[.val (.int y), .unset] []))
                          refine blk X0 hby b207 (pc' := 123) (Ls' := #[.val (.int y), .val (.int (1 : Int32))]) (st' := [(.int (1 : Int32))]) rfl ?_
                          refine br0 X0 hby d_method_4_code_123 (pc1 := 130) (by decide) (fun hz => ?_) (fun hz => absurd (neF hz) (by decide))
                          show Go _ _ _ _ (s₁.setTop (mkF m 130 #[.val (.int y), .val (.int (1 : Int32))] []))
                          refine blk X0 hby b208 (pc' := 131) (Ls' := #[.val (.int y), .val (.int (1 : Int32))]) (st' := [(.int (0 : Int32))]) rfl ?_
                          exact retI' X0 hby hret d_method_4_code_131 rfl (fun S' hS' => ⟨by rw [e62]; rfl, rfl⟩)
                        · replace e62 := eqF e62
                          show Go _ _ _ _ (s₁.setTop (mkF m 74 #[.val (.int y), .unset] []))
                          refine blk X0 hby b209 (pc' := 77) (Ls' := #[.val (.int y), .unset]) (st' := [(.int (63 : Int32)), (.int y)]) rfl ?_
                          refine brI X0 hby d_method_4_code_77 (pc1 := 116) (by decide) (fun e63 => ?_) (fun e63 => ?_)
                          · replace e63 := eqT e63
                            show Go _ _ _ _ (s₁.setTop (mkF m 116 #[.val (.int y), .unset] []))
                            refine blk X0 hby b210 (pc' := 123) (Ls' := #[.val (.int y), .val (.int (1 : Int32))]) (st' := [(.int (1 : Int32))]) rfl ?_
                            refine br0 X0 hby d_method_4_code_123 (pc1 := 130) (by decide) (fun hz => ?_) (fun hz => absurd (neF hz) (by decide))
                            show Go _ _ _ _ (s₁.setTop (mkF m 130 #[.val (.int y), .val (.int (1 : Int32))] []))
                            refine blk X0 hby b211 (pc' := 131) (Ls' := #[.val (.int y), .val (.int (1 : Int32))]) (st' := [(.int (0 : Int32))]) rfl ?_
                            exact retI' X0 hby hret d_method_4_code_131 rfl (fun S' hS' => ⟨by rw [e63]; rfl, rfl⟩)
                          · replace e63 := eqF e63
                            show Go _ _ _ _ (s₁.setTop (mkF m 80 #[.val (.int y), .unset] []))
                            refine blk X0 hby b212 (pc' := 83) (Ls' := #[.val (.int y), .unset]) (st' := [(.int (64 : Int32)), (.int y)]) rfl ?_
                            refine brI X0 hby d_method_4_code_83 (pc1 := 116) (by decide) (fun e64 => ?_) (fun e64 => ?_)
                            · replace e64 := eqT e64
                              show Go _ _ _ _ (s₁.setTop (mkF m 116 #[.val (.int y), .unset] []))
                              refine blk X0 hby b213 (pc' := 123) (Ls' := #[.val (.int y), .val (.int (1 : Int32))]) (st' := [(.int (1 : Int32))]) rfl ?_
                              refine br0 X0 hby d_method_4_code_123 (pc1 := 130) (by decide) (fun hz => ?_) (fun hz => absurd (neF hz) (by decide))
                              show Go _ _ _ _ (s₁.setTop (mkF m 130 #[.val (.int y), .val (.int (1 : Int32))] []))
                              refine blk X0 hby b214 (pc' := 131) (Ls' := #[.val (.int y), .val (.int (1 : Int32))]) (st' := [(.int (0 : Int32))]) rfl ?_
                              exact retI' X0 hby hret d_method_4_code_131 rfl (fun S' hS' => ⟨by rw [e64]; rfl, rfl⟩)
                            · replace e64 := eqF e64
                              show Go _ _ _ _ (s₁.setTop (mkF m 86 #[.val (.int y), .unset] []))
                              refine blk X0 hby b215 (pc' := 89) (Ls' := #[.val (.int y), .unset]) (st' := [(.int (91 : Int32)), (.int y)]) rfl ?_
                              refine brI X0 hby d_method_4_code_89 (pc1 := 116) (by decide) (fun e91 => ?_) (fun e91 => ?_)
                              · replace e91 := eqT e91
                                show Go _ _ _ _ (s₁.setTop (mkF m 116 #[.val (.int y), .unset] []))
                                refine blk X0 hby b216 (pc' := 123) (Ls' := #[.val (.int y), .val (.int (1 : Int32))]) (st' := [(.int (1 : Int32))]) rfl ?_
                                refine br0 X0 hby d_method_4_code_123 (pc1 := 130) (by decide) (fun hz => ?_) (fun hz => absurd (neF hz) (by decide))
                                show Go _ _ _ _ (s₁.setTop (mkF m 130 #[.val (.int y), .val (.int (1 : Int32))] []))
                                refine blk X0 hby b217 (pc' := 131) (Ls' := #[.val (.int y), .val (.int (1 : Int32))]) (st' := [(.int (0 : Int32))]) rfl ?_
                                exact retI' X0 hby hret d_method_4_code_131 rfl (fun S' hS' => ⟨by rw [e91]; rfl, rfl⟩)
                              · replace e91 := eqF e91
                                show Go _ _ _ _ (s₁.setTop (mkF m 92 #[.val (.int y), .unset] []))
                                refine blk X0 hby b218 (pc' := 95) (Ls' := #[.val (.int y), .unset]) (st' := [(.int (92 : Int32)), (.int y)]) rfl ?_
                                refine brI X0 hby d_method_4_code_95 (pc1 := 116) (by decide) (fun e92 => ?_) (fun e92 => ?_)
                                · replace e92 := eqT e92
                                  show Go _ _ _ _ (s₁.setTop (mkF m 116 #[.val (.int y), .unset] []))
                                  refine blk X0 hby b219 (pc' := 123) (Ls' := #[.val (.int y), .val (.int (1 : Int32))]) (st' := [(.int (1 : Int32))]) rfl ?_
                                  refine br0 X0 hby d_method_4_code_123 (pc1 := 130) (by decide) (fun hz => ?_) (fun hz => absurd (neF hz) (by decide))
                                  show Go _ _ _ _ (s₁.setTop (mkF m 130 #[.val (.int y), .val (.int (1 : Int32))] []))
                                  refine blk X0 hby b220 (pc' := 131) (Ls' := #[.val (.int y), .val (.int (1 : Int32))]) (st' := [(.int (0 : Int32))]) rfl ?_
                                  exact retI' X0 hby hret d_method_4_code_131 rfl (fun S' hS' => ⟨by rw [e92]; rfl, rfl⟩)
                                · replace e92 := eqF e92
                                  show Go _ _ _ _ (s₁.setTop (mkF m 98 #[.val (.int y), .unset] []))
                                  refine blk X0 hby b221 (pc' := 101) (Ls' := #[.val (.int y), .unset]) (st' := [(.int (93 : Int32)), (.int y)]) rfl ?_
                                  refine brI X0 hby d_method_4_code_101 (pc1 := 116) (by decide) (fun e93 => ?_) (fun e93 => ?_)
                                  · replace e93 := eqT e93
                                    show Go _ _ _ _ (s₁.setTop (mkF m 116 #[.val (.int y), .unset] []))
                                    refine blk X0 hby b222 (pc' := 123) (Ls' := #[.val (.int y), .val (.int (1 : Int32))]) (st' := [(.int (1 : Int32))]) rfl ?_
                                    refine br0 X0 hby d_method_4_code_123 (pc1 := 130) (by decide) (fun hz => ?_) (fun hz => absurd (neF hz) (by decide))
                                    show Go _ _ _ _ (s₁.setTop (mkF m 130 #[.val (.int y), .val (.int (1 : Int32))] []))
                                    refine blk X0 hby b223 (pc' := 131) (Ls' := #[.val (.int y), .val (.int (1 : Int32))]) (st' := [(.int (0 : Int32))]) rfl ?_
                                    exact retI' X0 hby hret d_method_4_code_131 rfl (fun S' hS' => ⟨by rw [e93]; rfl, rfl⟩)
                                  · replace e93 := eqF e93
                                    show Go _ _ _ _ (s₁.setTop (mkF m 104 #[.val (.int y), .unset] []))
                                    refine blk X0 hby b224 (pc' := 107) (Ls' := #[.val (.int y), .unset]) (st' := [(.int (123 : Int32)), (.int y)]) rfl ?_
                                    refine brI X0 hby d_method_4_code_107 (pc1 := 116) (by decide) (fun e123 => ?_) (fun e123 => ?_)
                                    · replace e123 := eqT e123
                                      show Go _ _ _ _ (s₁.setTop (mkF m 116 #[.val (.int y), .unset] []))
                                      refine blk X0 hby b225 (pc' := 123) (Ls' := #[.val (.int y), .val (.int (1 : Int32))]) (st' := [(.int (1 : Int32))]) rfl ?_
                                      refine br0 X0 hby d_method_4_code_123 (pc1 := 130) (by decide) (fun hz => ?_) (fun hz => absurd (neF hz) (by decide))
                                      show Go _ _ _ _ (s₁.setTop (mkF m 130 #[.val (.int y), .val (.int (1 : Int32))] []))
                                      refine blk X0 hby b226 (pc' := 131) (Ls' := #[.val (.int y), .val (.int (1 : Int32))]) (st' := [(.int (0 : Int32))]) rfl ?_
                                      exact retI' X0 hby hret d_method_4_code_131 rfl (fun S' hS' => ⟨by rw [e123]; rfl, rfl⟩)
                                    · replace e123 := eqF e123
                                      show Go _ _ _ _ (s₁.setTop (mkF m 110 #[.val (.int y), .unset] []))
                                      refine blk X0 hby b227 (pc' := 113) (Ls' := #[.val (.int y), .unset]) (st' := [(.int (125 : Int32)), (.int y)]) rfl ?_
                                      refine brI X0 hby d_method_4_code_113 (pc1 := 120) (by decide) (fun e125 => ?_) (fun e125 => ?_)
                                      · replace e125 := neT e125
                                        show Go _ _ _ _ (s₁.setTop (mkF m 120 #[.val (.int y), .unset] []))
                                        refine blk X0 hby b228 (pc' := 123) (Ls' := #[.val (.int y), .val (.int (0 : Int32))]) (st' := [(.int (0 : Int32))]) rfl ?_
                                        refine br0 X0 hby d_method_4_code_123 (pc1 := 130) (by decide) (fun hz => absurd (neT hz) (fun q => q rfl)) (fun hz => ?_)
                                        show Go _ _ _ _ (s₁.setTop (mkF m 126 #[.val (.int y), .val (.int (0 : Int32))] []))
                                        refine blk X0 hby b229 (pc' := 131) (Ls' := #[.val (.int y), .val (.int (0 : Int32))]) (st' := [(.int (1 : Int32))]) rfl ?_
                                        exact retI' X0 hby hret d_method_4_code_131 rfl (fun S' hS' => ⟨by rw [tok_rest h33 h126 ⟨e34, e40, e41, e44, e47, e58, e59, e60, e61, e62, e63, e64, e91, e92, e93, e123, e125⟩]; rfl, rfl⟩)
                                      · replace e125 := neF e125
                                        show Go _ _ _ _ (s₁.setTop (mkF m 116 #[.val (.int y), .unset] []))
                                        refine blk X0 hby b230 (pc' := 123) (Ls' := #[.val (.int y), .val (.int (1 : Int32))]) (st' := [(.int (1 : Int32))]) rfl ?_
                                        refine br0 X0 hby d_method_4_code_123 (pc1 := 130) (by decide) (fun hz => ?_) (fun hz => absurd (neF hz) (by decide))
                                        show Go _ _ _ _ (s₁.setTop (mkF m 130 #[.val (.int y), .val (.int (1 : Int32))] []))
                                        refine blk X0 hby b231 (pc' := 131) (Ls' := #[.val (.int y), .val (.int (1 : Int32))]) (st' := [(.int (0 : Int32))]) rfl ?_
                                        exact retI' X0 hby hret d_method_4_code_131 rfl (fun S' hS' => ⟨by rw [e125]; rfl, rfl⟩)
    · replace h126 := leF h126
      show Go _ _ _ _ (s₁.setTop (mkF m 12 #[.val (.int y), .unset] []))
      refine blk X0 hby b232 (pc' := 13) (Ls' := #[.val (.int y), .unset]) (st' := [(.int (0 : Int32))]) rfl ?_
      exact retI' X0 hby hret d_method_4_code_13 rfl (fun S' hS' => ⟨by rw [tok_hi h126]; rfl, rfl⟩)
theorem rem5 (x : Int32) : (x &&& (2147483647 : Int32)) % (5 : Int32) = (0 : Int32) ∨ (x &&& (2147483647 : Int32)) % (5 : Int32) = (1 : Int32) ∨ (x &&& (2147483647 : Int32)) % (5 : Int32) = (2 : Int32) ∨ (x &&& (2147483647 : Int32)) % (5 : Int32) = (3 : Int32) ∨ (x &&& (2147483647 : Int32)) % (5 : Int32) = (4 : Int32) := by
  have h := c_and x 2147483647 (by decide)
  have r := (c_irem (x &&& (2147483647 : Int32)) 5 5 rfl).1 h.1
  have e4 : (4 : Int32).toInt = 4 := rfl
  have e3 : (3 : Int32).toInt = 3 := rfl
  have e2 : (2 : Int32).toInt = 2 := rfl
  have e1 : (1 : Int32).toInt = 1 := rfl
  have e0 : (0 : Int32).toInt = 0 := rfl
  simp only [← Int32.toInt_inj]
  omega
theorem ef_code (m : MethodId) (x0 : Int32) (x1 : Int32) (x2 : Int32) (x3 : Int32) (x4 : Int32) : entryFrame m #[(.int x0), (.int x1), (.int x2), (.int x3), (.int x4)] maxLocals = mkF m 0 #[.val (.int x0), .val (.int x1), .val (.int x2), .val (.int x3), .val (.int x4), .unset, .unset, .unset, .unset, .unset, .unset, .unset] [] := by first | (simp [entryFrame, mkF, argsToLocals, Value.category, maxLocals]; done) | rfl
theorem b233 : decs code 0 [.iload_n 0] = true := by decide +kernel
theorem d_code_1 : decode code 1 = .ok (.ldc 7, 2) := by decide +kernel
theorem b234 : decs code 3 [.iand, .iconst 5] = true := by decide +kernel
theorem d_code_5 : decode code 5 = .ok (.irem, 1) := by decide +kernel
theorem b235 : decs code 6 [.istore 5, .iload_n 1] = true := by decide +kernel
theorem d_code_9 : decode code 9 = .ok (.invokestatic 8, 3) := by decide +kernel
theorem b236 : decs code 12 [.istore 6, .iload_n 2] = true := by decide +kernel
theorem d_code_15 : decode code 15 = .ok (.invokestatic 8, 3) := by decide +kernel
theorem b237 : decs code 18 [.istore 7, .iload_n 3] = true := by decide +kernel
theorem d_code_21 : decode code 21 = .ok (.invokestatic 8, 3) := by decide +kernel
theorem b238 : decs code 24 [.istore 8, .iload 4] = true := by decide +kernel
theorem d_code_28 : decode code 28 = .ok (.invokestatic 8, 3) := by decide +kernel
theorem b239 : decs code 31 [.istore 9] = true := by decide +kernel
theorem b240 : decs code 33 [.iload 5] = true := by decide +kernel
theorem d_code_35 : decode code 35 = .ok (.ifCond .ne 18, 3) := by decide +kernel
theorem d_code_38 : decode code 38 = .ok (.new 14, 3) := by decide +kernel
theorem b241 : decs code 41 [.dup, .iconst 0] = true := by decide +kernel
theorem d_code_43 : decode code 43 = .ok (.newarray .char, 2) := by decide +kernel
theorem d_code_45 : decode code 45 = .ok (.invokespecial 16, 3) := by decide +kernel
theorem pd___C_V : parseMethodDescriptor "([C)V" = some ⟨[(.array .char)], none⟩ := by decide +kernel
theorem b242 : decs code 48 [.astore 10, .goto 128] = true := by decide +kernel
theorem b243 : decs code 240 [.aload 10] = true := by decide +kernel
theorem d_code_242 : decode code 242 = .ok (.invokestatic 23, 3) := by decide +kernel
theorem pd__Ljava_lang_String__Z : parseMethodDescriptor "(Ljava/lang/String;)Z" = some ⟨[(.object "java/lang/String")], (some .boolean)⟩ := by decide +kernel
theorem b244 : decs code 245 [.iload 11] = true := by decide +kernel
theorem d_code_247 : decode code 247 = .ok (.if_icmp .ne 7, 3) := by decide +kernel
theorem b245 : decs code 250 [.iconst 1, .goto 4] = true := by decide +kernel
theorem d_code_255 : decode code 255 = .ok (.ireturn, 1) := by decide +kernel
theorem b246 : decs code 178 [.iload 5] = true := by decide +kernel
theorem d_code_180 : decode code 180 = .ok (.ifCond .le 57, 3) := by decide +kernel
theorem b247 : decs code 237 [.iconst 0, .istore 11] = true := by decide +kernel
theorem b248 : decs code 33 [.iload 5] = true := by decide +kernel
theorem b249 : decs code 53 [.iload 5, .iconst 1] = true := by decide +kernel
theorem d_code_56 : decode code 56 = .ok (.if_icmp .ne 23, 3) := by decide +kernel
theorem d_code_59 : decode code 59 = .ok (.new 14, 3) := by decide +kernel
theorem b250 : decs code 62 [.dup, .iconst 1] = true := by decide +kernel
theorem d_code_64 : decode code 64 = .ok (.newarray .char, 2) := by decide +kernel
theorem b251 : decs code 66 [.dup, .iconst 0, .iload 6] = true := by decide +kernel
theorem d_code_70 : decode code 70 = .ok (.castore, 1) := by decide +kernel
theorem d_code_71 : decode code 71 = .ok (.invokespecial 16, 3) := by decide +kernel
theorem b252 : decs code 74 [.astore 10, .goto 102] = true := by decide +kernel
theorem b253 : decs code 240 [.aload 10] = true := by decide +kernel
theorem b254 : decs code 245 [.iload 11] = true := by decide +kernel
theorem b255 : decs code 250 [.iconst 1, .goto 4] = true := by decide +kernel
theorem b256 : decs code 178 [.iload 5] = true := by decide +kernel
theorem b257 : decs code 183 [.iload 6] = true := by decide +kernel
theorem d_code_185 : decode code 185 = .ok (.invokestatic 19, 3) := by decide +kernel
theorem pd__C_Z : parseMethodDescriptor "(C)Z" = some ⟨[.char], (some .boolean)⟩ := by decide +kernel
theorem d_code_188 : decode code 188 = .ok (.ifCond .eq 49, 3) := by decide +kernel
theorem b258 : decs code 237 [.iconst 0, .istore 11] = true := by decide +kernel
theorem b259 : decs code 191 [.iload 5, .iconst 2] = true := by decide +kernel
theorem d_code_194 : decode code 194 = .ok (.if_icmp .lt 11, 3) := by decide +kernel
theorem b260 : decs code 205 [.iload 5, .iconst 3] = true := by decide +kernel
theorem d_code_208 : decode code 208 = .ok (.if_icmp .lt 11, 3) := by decide +kernel
theorem b261 : decs code 219 [.iload 5, .iconst 4] = true := by decide +kernel
theorem d_code_222 : decode code 222 = .ok (.if_icmp .lt 11, 3) := by decide +kernel
theorem b262 : decs code 233 [.iconst 1, .goto 4, .istore 11] = true := by decide +kernel
theorem b263 : decs code 33 [.iload 5] = true := by decide +kernel
theorem b264 : decs code 53 [.iload 5, .iconst 1] = true := by decide +kernel
theorem b265 : decs code 79 [.iload 5, .iconst 2] = true := by decide +kernel
theorem d_code_82 : decode code 82 = .ok (.if_icmp .ne 28, 3) := by decide +kernel
theorem d_code_85 : decode code 85 = .ok (.new 14, 3) := by decide +kernel
theorem b266 : decs code 88 [.dup, .iconst 2] = true := by decide +kernel
theorem d_code_90 : decode code 90 = .ok (.newarray .char, 2) := by decide +kernel
theorem b267 : decs code 92 [.dup, .iconst 0, .iload 6] = true := by decide +kernel
theorem d_code_96 : decode code 96 = .ok (.castore, 1) := by decide +kernel
theorem b268 : decs code 97 [.dup, .iconst 1, .iload 7] = true := by decide +kernel
theorem d_code_101 : decode code 101 = .ok (.castore, 1) := by decide +kernel
theorem d_code_102 : decode code 102 = .ok (.invokespecial 16, 3) := by decide +kernel
theorem b269 : decs code 105 [.astore 10, .goto 71] = true := by decide +kernel
theorem b270 : decs code 240 [.aload 10] = true := by decide +kernel
theorem b271 : decs code 245 [.iload 11] = true := by decide +kernel
theorem b272 : decs code 250 [.iconst 1, .goto 4] = true := by decide +kernel
theorem b273 : decs code 178 [.iload 5] = true := by decide +kernel
theorem b274 : decs code 183 [.iload 6] = true := by decide +kernel
theorem b275 : decs code 237 [.iconst 0, .istore 11] = true := by decide +kernel
theorem b276 : decs code 191 [.iload 5, .iconst 2] = true := by decide +kernel
theorem b277 : decs code 197 [.iload 7] = true := by decide +kernel
theorem d_code_199 : decode code 199 = .ok (.invokestatic 19, 3) := by decide +kernel
theorem d_code_202 : decode code 202 = .ok (.ifCond .eq 35, 3) := by decide +kernel
theorem b278 : decs code 237 [.iconst 0, .istore 11] = true := by decide +kernel
theorem b279 : decs code 205 [.iload 5, .iconst 3] = true := by decide +kernel
theorem b280 : decs code 219 [.iload 5, .iconst 4] = true := by decide +kernel
theorem b281 : decs code 233 [.iconst 1, .goto 4, .istore 11] = true := by decide +kernel
theorem b282 : decs code 33 [.iload 5] = true := by decide +kernel
theorem b283 : decs code 53 [.iload 5, .iconst 1] = true := by decide +kernel
theorem b284 : decs code 79 [.iload 5, .iconst 2] = true := by decide +kernel
theorem b285 : decs code 110 [.iload 5, .iconst 3] = true := by decide +kernel
theorem d_code_113 : decode code 113 = .ok (.if_icmp .ne 33, 3) := by decide +kernel
theorem d_code_116 : decode code 116 = .ok (.new 14, 3) := by decide +kernel
theorem b286 : decs code 119 [.dup, .iconst 3] = true := by decide +kernel
theorem d_code_121 : decode code 121 = .ok (.newarray .char, 2) := by decide +kernel
theorem b287 : decs code 123 [.dup, .iconst 0, .iload 6] = true := by decide +kernel
theorem d_code_127 : decode code 127 = .ok (.castore, 1) := by decide +kernel
theorem b288 : decs code 128 [.dup, .iconst 1, .iload 7] = true := by decide +kernel
theorem d_code_132 : decode code 132 = .ok (.castore, 1) := by decide +kernel
theorem b289 : decs code 133 [.dup, .iconst 2, .iload 8] = true := by decide +kernel
theorem d_code_137 : decode code 137 = .ok (.castore, 1) := by decide +kernel
theorem d_code_138 : decode code 138 = .ok (.invokespecial 16, 3) := by decide +kernel
theorem b290 : decs code 141 [.astore 10, .goto 35] = true := by decide +kernel
theorem b291 : decs code 240 [.aload 10] = true := by decide +kernel
theorem b292 : decs code 245 [.iload 11] = true := by decide +kernel
theorem b293 : decs code 250 [.iconst 1, .goto 4] = true := by decide +kernel
theorem b294 : decs code 178 [.iload 5] = true := by decide +kernel
theorem b295 : decs code 183 [.iload 6] = true := by decide +kernel
theorem b296 : decs code 237 [.iconst 0, .istore 11] = true := by decide +kernel
theorem b297 : decs code 191 [.iload 5, .iconst 2] = true := by decide +kernel
theorem b298 : decs code 197 [.iload 7] = true := by decide +kernel
theorem b299 : decs code 237 [.iconst 0, .istore 11] = true := by decide +kernel
theorem b300 : decs code 205 [.iload 5, .iconst 3] = true := by decide +kernel
theorem b301 : decs code 211 [.iload 8] = true := by decide +kernel
theorem d_code_213 : decode code 213 = .ok (.invokestatic 19, 3) := by decide +kernel
theorem d_code_216 : decode code 216 = .ok (.ifCond .eq 21, 3) := by decide +kernel
theorem b302 : decs code 237 [.iconst 0, .istore 11] = true := by decide +kernel
theorem b303 : decs code 219 [.iload 5, .iconst 4] = true := by decide +kernel
theorem b304 : decs code 233 [.iconst 1, .goto 4, .istore 11] = true := by decide +kernel
theorem b305 : decs code 33 [.iload 5] = true := by decide +kernel
theorem b306 : decs code 53 [.iload 5, .iconst 1] = true := by decide +kernel
theorem b307 : decs code 79 [.iload 5, .iconst 2] = true := by decide +kernel
theorem b308 : decs code 110 [.iload 5, .iconst 3] = true := by decide +kernel
theorem d_code_146 : decode code 146 = .ok (.new 14, 3) := by decide +kernel
theorem b309 : decs code 149 [.dup, .iconst 4] = true := by decide +kernel
theorem d_code_151 : decode code 151 = .ok (.newarray .char, 2) := by decide +kernel
theorem b310 : decs code 153 [.dup, .iconst 0, .iload 6] = true := by decide +kernel
theorem d_code_157 : decode code 157 = .ok (.castore, 1) := by decide +kernel
theorem b311 : decs code 158 [.dup, .iconst 1, .iload 7] = true := by decide +kernel
theorem d_code_162 : decode code 162 = .ok (.castore, 1) := by decide +kernel
theorem b312 : decs code 163 [.dup, .iconst 2, .iload 8] = true := by decide +kernel
theorem d_code_167 : decode code 167 = .ok (.castore, 1) := by decide +kernel
theorem b313 : decs code 168 [.dup, .iconst 3, .iload 9] = true := by decide +kernel
theorem d_code_172 : decode code 172 = .ok (.castore, 1) := by decide +kernel
theorem d_code_173 : decode code 173 = .ok (.invokespecial 16, 3) := by decide +kernel
theorem b314 : decs code 176 [.astore 10] = true := by decide +kernel
theorem b315 : decs code 240 [.aload 10] = true := by decide +kernel
theorem b316 : decs code 245 [.iload 11] = true := by decide +kernel
theorem b317 : decs code 250 [.iconst 1, .goto 4] = true := by decide +kernel
theorem b318 : decs code 178 [.iload 5] = true := by decide +kernel
theorem b319 : decs code 183 [.iload 6] = true := by decide +kernel
theorem b320 : decs code 237 [.iconst 0, .istore 11] = true := by decide +kernel
theorem b321 : decs code 191 [.iload 5, .iconst 2] = true := by decide +kernel
theorem b322 : decs code 197 [.iload 7] = true := by decide +kernel
theorem b323 : decs code 237 [.iconst 0, .istore 11] = true := by decide +kernel
theorem b324 : decs code 205 [.iload 5, .iconst 3] = true := by decide +kernel
theorem b325 : decs code 211 [.iload 8] = true := by decide +kernel
theorem b326 : decs code 237 [.iconst 0, .istore 11] = true := by decide +kernel
theorem b327 : decs code 219 [.iload 5, .iconst 4] = true := by decide +kernel
theorem b328 : decs code 225 [.iload 9] = true := by decide +kernel
theorem d_code_227 : decode code 227 = .ok (.invokestatic 19, 3) := by decide +kernel
theorem d_code_230 : decode code 230 = .ok (.ifCond .eq 7, 3) := by decide +kernel
theorem b329 : decs code 237 [.iconst 0, .istore 11] = true := by decide +kernel
theorem b330 : decs code 233 [.iconst 1, .goto 4, .istore 11] = true := by decide +kernel
def QL (v : Option Value) (h : Heap) (S : Addr → Prop) : Prop := v = some (.int 1)
set_option maxRecDepth 65536 in
set_option maxHeartbeats 40000000 in
theorem ct_law {h0 : Heap} {p1 p2 p3 p4 p5 zc : Int32} {fm : Value} (hw : ∀ d ∈ tables_1, d.before a0 Z = true) (hEL : EW Z a0 EL) (hO : Old Z Z.heap.size h0) (U : US Z zc)(hFM : Sta Z Z.heap "jdk/internal/util/Preconditions" "SIOOBE_FORMATTER" "Ljava/util/function/BiFunction;" fm) (hfm : fm = .null ∨ ∃ a, fm = .ref a) :
    Ct true false Z EL l x code maxLocals ret room_1 #[(.int p1), (.int p2), (.int p3), (.int p4), (.int p5)] h0 [] (QL) tables_1 := by
  refine ctOf (plainFor_of_name pn_com_example_ligature_ligature_http_HeadersIsTokenPinLaw) hO hEL ?_
  intro p e s m below meth c s₁ S0 X0 hby hml hret hnm hsf
  refine Go.entry (ef_code m p1 p2 p3 p4 p5) ?_
  show Go _ _ _ _ (s₁.setTop (mkF m 0 #[.val (.int p1), .val (.int p2), .val (.int p3), .val (.int p4), .val (.int p5), .unset, .unset, .unset, .unset, .unset, .unset, .unset] []))
  refine blk X0 hby b233 (pc' := 1) (Ls' := #[.val (.int p1), .val (.int p2), .val (.int p3), .val (.int p4), .val (.int p5), .unset, .unset, .unset, .unset, .unset, .unset, .unset]) (st' := [(.int p1)]) rfl ?_
  refine gLdcI X0 hby (hw _ (List.mem_of_getElem? (i := 0) rfl)) d_code_1 ?_
  show Go _ _ _ _ (s₁.setTop (mkF m 3 #[.val (.int p1), .val (.int p2), .val (.int p3), .val (.int p4), .val (.int p5), .unset, .unset, .unset, .unset, .unset, .unset, .unset] [(.int (2147483647 : Int32)), (.int p1)]))
  refine blk X0 hby b234 (pc' := 5) (Ls' := #[.val (.int p1), .val (.int p2), .val (.int p3), .val (.int p4), .val (.int p5), .unset, .unset, .unset, .unset, .unset, .unset, .unset]) (st' := [(.int (5 : Int32)), (.int (p1 &&& (2147483647 : Int32)))]) rfl ?_
  refine gRem X0 hby d_code_5 (by decide) ?_
  show Go _ _ _ _ (s₁.setTop (mkF m 6 #[.val (.int p1), .val (.int p2), .val (.int p3), .val (.int p4), .val (.int p5), .unset, .unset, .unset, .unset, .unset, .unset, .unset] [(.int ((p1 &&& (2147483647 : Int32)) % (5 : Int32)))]))
  refine blk X0 hby b235 (pc' := 9) (Ls' := #[.val (.int p1), .val (.int p2), .val (.int p3), .val (.int p4), .val (.int p5), .val (.int ((p1 &&& (2147483647 : Int32)) % (5 : Int32))), .unset, .unset, .unset, .unset, .unset, .unset]) (st' := [(.int p2)]) rfl ?_
  refine gStatic X0 hby (argsL := [(.int p2)]) (st := []) (ct_draw hw hEL X0.old) (hw _ (List.mem_of_getElem? (i := 1) rfl)) (hw _ (List.mem_of_getElem? (i := 2) rfl)) (hw _ (List.mem_of_getElem? (i := 3) rfl)) (hw _ (List.mem_of_getElem? (i := 4) rfl)) pd__I_C rfl d_code_9 rfl (by rw [hml]; rfl) all0 (by decide) (Nat.le_of_ble_eq_true rfl) (by decide) (by decide) (fun v1 T1 h1 S1 X1 q1 sS1 sz1 => ?_)
  obtain ⟨y1, rfl, rfl, hr1⟩ := q1
  show Go _ _ _ _ (T1.setTop (mkF m 12 #[.val (.int p1), .val (.int p2), .val (.int p3), .val (.int p4), .val (.int p5), .val (.int ((p1 &&& (2147483647 : Int32)) % (5 : Int32))), .unset, .unset, .unset, .unset, .unset, .unset] [(.int y1)]))
  refine blk X1 hby b236 (pc' := 15) (Ls' := #[.val (.int p1), .val (.int p2), .val (.int p3), .val (.int p4), .val (.int p5), .val (.int ((p1 &&& (2147483647 : Int32)) % (5 : Int32))), .val (.int y1), .unset, .unset, .unset, .unset, .unset]) (st' := [(.int p3)]) rfl ?_
  refine gStatic X1 hby (argsL := [(.int p3)]) (st := []) (ct_draw hw hEL X1.old) (hw _ (List.mem_of_getElem? (i := 1) rfl)) (hw _ (List.mem_of_getElem? (i := 2) rfl)) (hw _ (List.mem_of_getElem? (i := 3) rfl)) (hw _ (List.mem_of_getElem? (i := 4) rfl)) pd__I_C rfl d_code_15 rfl (by rw [hml]; rfl) all0 (by decide) (Nat.le_of_ble_eq_true rfl) (by decide) (by decide) (fun v2 T2 h2 S2 X2 q2 sS2 sz2 => ?_)
  obtain ⟨y2, rfl, rfl, hr2⟩ := q2
  show Go _ _ _ _ (T2.setTop (mkF m 18 #[.val (.int p1), .val (.int p2), .val (.int p3), .val (.int p4), .val (.int p5), .val (.int ((p1 &&& (2147483647 : Int32)) % (5 : Int32))), .val (.int y1), .unset, .unset, .unset, .unset, .unset] [(.int y2)]))
  refine blk X2 hby b237 (pc' := 21) (Ls' := #[.val (.int p1), .val (.int p2), .val (.int p3), .val (.int p4), .val (.int p5), .val (.int ((p1 &&& (2147483647 : Int32)) % (5 : Int32))), .val (.int y1), .val (.int y2), .unset, .unset, .unset, .unset]) (st' := [(.int p4)]) rfl ?_
  refine gStatic X2 hby (argsL := [(.int p4)]) (st := []) (ct_draw hw hEL X2.old) (hw _ (List.mem_of_getElem? (i := 1) rfl)) (hw _ (List.mem_of_getElem? (i := 2) rfl)) (hw _ (List.mem_of_getElem? (i := 3) rfl)) (hw _ (List.mem_of_getElem? (i := 4) rfl)) pd__I_C rfl d_code_21 rfl (by rw [hml]; rfl) all0 (by decide) (Nat.le_of_ble_eq_true rfl) (by decide) (by decide) (fun v3 T3 h3 S3 X3 q3 sS3 sz3 => ?_)
  obtain ⟨y3, rfl, rfl, hr3⟩ := q3
  show Go _ _ _ _ (T3.setTop (mkF m 24 #[.val (.int p1), .val (.int p2), .val (.int p3), .val (.int p4), .val (.int p5), .val (.int ((p1 &&& (2147483647 : Int32)) % (5 : Int32))), .val (.int y1), .val (.int y2), .unset, .unset, .unset, .unset] [(.int y3)]))
  refine blk X3 hby b238 (pc' := 28) (Ls' := #[.val (.int p1), .val (.int p2), .val (.int p3), .val (.int p4), .val (.int p5), .val (.int ((p1 &&& (2147483647 : Int32)) % (5 : Int32))), .val (.int y1), .val (.int y2), .val (.int y3), .unset, .unset, .unset]) (st' := [(.int p5)]) rfl ?_
  refine gStatic X3 hby (argsL := [(.int p5)]) (st := []) (ct_draw hw hEL X3.old) (hw _ (List.mem_of_getElem? (i := 1) rfl)) (hw _ (List.mem_of_getElem? (i := 2) rfl)) (hw _ (List.mem_of_getElem? (i := 3) rfl)) (hw _ (List.mem_of_getElem? (i := 4) rfl)) pd__I_C rfl d_code_28 rfl (by rw [hml]; rfl) all0 (by decide) (Nat.le_of_ble_eq_true rfl) (by decide) (by decide) (fun v4 T4 h4 S4 X4 q4 sS4 sz4 => ?_)
  obtain ⟨y4, rfl, rfl, hr4⟩ := q4
  show Go _ _ _ _ (T4.setTop (mkF m 31 #[.val (.int p1), .val (.int p2), .val (.int p3), .val (.int p4), .val (.int p5), .val (.int ((p1 &&& (2147483647 : Int32)) % (5 : Int32))), .val (.int y1), .val (.int y2), .val (.int y3), .unset, .unset, .unset] [(.int y4)]))
  refine blk X4 hby b239 (pc' := 33) (Ls' := #[.val (.int p1), .val (.int p2), .val (.int p3), .val (.int p4), .val (.int p5), .val (.int ((p1 &&& (2147483647 : Int32)) % (5 : Int32))), .val (.int y1), .val (.int y2), .val (.int y3), .val (.int y4), .unset, .unset]) (st' := []) rfl ?_
  rcases rem5 p1 with hq | hq | hq | hq | hq
  · rw [hq]
    show Go _ _ _ _ (T4.setTop (mkF m 33 #[.val (.int p1), .val (.int p2), .val (.int p3), .val (.int p4), .val (.int p5), .val (.int (0 : Int32)), .val (.int y1), .val (.int y2), .val (.int y3), .val (.int y4), .unset, .unset] []))
    refine blk X4 hby b240 (pc' := 35) (Ls' := #[.val (.int p1), .val (.int p2), .val (.int p3), .val (.int p4), .val (.int p5), .val (.int (0 : Int32)), .val (.int y1), .val (.int y2), .val (.int y3), .val (.int y4), .unset, .unset]) (st' := [(.int (0 : Int32))]) rfl ?_
    refine br0 X4 hby d_code_35 (pc1 := 53) (by decide) (fun hn => absurd (neT hn) (fun q => q rfl)) (fun hn => ?_)
    show Go _ _ _ _ (T4.setTop (mkF m 38 #[.val (.int p1), .val (.int p2), .val (.int p3), .val (.int p4), .val (.int p5), .val (.int (0 : Int32)), .val (.int y1), .val (.int y2), .val (.int y3), .val (.int y4), .unset, .unset] []))
    refine gNew X4 hby (hw _ (List.mem_of_getElem? (i := 5) rfl)) (hw _ (List.mem_of_getElem? (i := 6) rfl)) (hw _ (List.mem_of_getElem? (i := 7) rfl)) d_code_38 (by decide) (by decide) (fun T5 h5 S5 X5 E5 A5 D5 M5 sS5 sn5 => ?_)
    show Go _ _ _ _ (T5.setTop (mkF m 41 #[.val (.int p1), .val (.int p2), .val (.int p3), .val (.int p4), .val (.int p5), .val (.int (0 : Int32)), .val (.int y1), .val (.int y2), .val (.int y3), .val (.int y4), .unset, .unset] [(.ref h0.size)]))
    refine blk X5 hby b241 (pc' := 43) (Ls' := #[.val (.int p1), .val (.int p2), .val (.int p3), .val (.int p4), .val (.int p5), .val (.int (0 : Int32)), .val (.int y1), .val (.int y2), .val (.int y3), .val (.int y4), .unset, .unset]) (st' := [(.int (0 : Int32)), (.ref h0.size), (.ref h0.size)]) rfl ?_
    refine gNewA X5 hby (aty := .char) (hw _ (List.mem_of_getElem? (i := 8) rfl)) d_code_43 rfl (N := 0) (cap := 0) rfl (by decide) (by decide) (by decide) (by decide) (fun T6 h6 S6 X6 E6 V6 sS6 sn6 => ?_)
    show Go _ _ _ _ (T6.setTop (mkF m 45 #[.val (.int p1), .val (.int p2), .val (.int p3), .val (.int p4), .val (.int p5), .val (.int (0 : Int32)), .val (.int y1), .val (.int y2), .val (.int y3), .val (.int y4), .unset, .unset] [(.ref h5.size), (.ref h0.size), (.ref h0.size)]))
    have hA : Exa Z h6 h0.size "java/lang/String" := A5.ext E6
    have hF : Fld Z h6 h0.size "java/lang/String" "value" "[B" .null := (D5 (O := "java/lang/String") (nm := "value") (d := "[B") (Or.inr (hw _ (List.mem_of_getElem? (i := 21) rfl))) (ty := .array .byte) (by decide)).ext E6
    have hG : Fld Z h6 h0.size "java/lang/String" "coder" "B" (.int 0) := (D5 (O := "java/lang/String") (nm := "coder") (d := "B") (Or.inr (hw _ (List.mem_of_getElem? (i := 22) rfl))) (ty := .byte) (by decide)).ext E6
    have hK : Keep h0 h6 [] := ((Keep.refl h0 []).ext E5).ext E6
    have hs : S6 h0.size := sS6 _ sn5
    have gx : Z.heap.size ≤ h0.size := X4.old.2.1
    have ga : Z.heap.size ≤ h5.size := X5.old.2.1
    have na : h0.size ≠ h5.size := Nat.ne_of_lt A5.lt
    have hV : Ari Z h6 h5.size .char (List.replicate 0 0) := V6
    have hsa : S6 h5.size := sn6
    replace hV : Ari Z h6 h5.size .char [] := hV
    refine gInit X6 hby (argsL := [(.ref h5.size)]) (st := [(.ref h0.size)]) (ct_init1 hw hEL X6.old U hA hF hG hV gx (Nat.le_of_ble_eq_true rfl)) rfl (hw _ (List.mem_of_getElem? (i := 9) rfl)) (hw _ (List.mem_of_getElem? (i := 10) rfl)) (hw _ (List.mem_of_getElem? (i := 7) rfl)) (hw _ (List.mem_of_getElem? (i := 11) rfl)) pd___C_V rfl d_code_45 rfl (by rw [hml]; rfl) (allS hs all0) (by decide) (Nat.le_of_ble_eq_true rfl) (by decide) (by decide) (fun v7 T7 h7 S7 X7 q7 sS7 sz7 => ?_)
    obtain ⟨rfl, q1, b, hx, hb⟩ := q7
    have hk := hK.trans q1 (fun y hy => Or.inr (by cases List.mem_singleton.mp hy; exact Nat.le_refl _))
    show Go _ _ _ _ (T7.setTop (mkF m 48 #[.val (.int p1), .val (.int p2), .val (.int p3), .val (.int p4), .val (.int p5), .val (.int (0 : Int32)), .val (.int y1), .val (.int y2), .val (.int y3), .val (.int y4), .unset, .unset] [(.ref h0.size)]))
    refine blk X7 hby b242 (pc' := 178) (Ls' := #[.val (.int p1), .val (.int p2), .val (.int p3), .val (.int p4), .val (.int p5), .val (.int (0 : Int32)), .val (.int y1), .val (.int y2), .val (.int y3), .val (.int y4), .val (.ref h0.size), .unset]) (st' := []) rfl ?_
    have tl : ∀ (T : State) (S : Addr → Prop) (ee : Int32), Sd true false Z a0 EL p l e room_1 s m #[(.int p1), (.int p2), (.int p3), (.int p4), (.int p5)] below meth c "com/example/ligature/ligature/http/HeadersIsTokenPinLaw" T h7 S 12 200 → isTok ([] : List Int32) = ee → Go p e below (Pst true Z EL room_1.cells room_1.slots (QL) s) (T.setTop (mkF m 240 #[.val (.int p1), .val (.int p2), .val (.int p3), .val (.int p4), .val (.int p5), .val (.int (0 : Int32)), .val (.int y1), .val (.int y2), .val (.int y3), .val (.int y4), .val (.ref h0.size), .val (.int ee)] [])) := by
      intro T S ee X he
      refine blk X hby b243 (pc' := 242) (Ls' := #[.val (.int p1), .val (.int p2), .val (.int p3), .val (.int p4), .val (.int p5), .val (.int (0 : Int32)), .val (.int y1), .val (.int y2), .val (.int y3), .val (.int y4), .val (.ref h0.size), .val (.int ee)]) (st' := [(.ref h0.size)]) rfl ?_
      refine gStatic X hby (argsL := [(.ref h0.size)]) (st := []) (ct_tok hw hEL X.old U hFM hfm hx (Nat.le_of_ble_eq_true rfl)) (hw _ (List.mem_of_getElem? (i := 27) rfl)) (hw _ (List.mem_of_getElem? (i := 28) rfl)) (hw _ (List.mem_of_getElem? (i := 29) rfl)) (hw _ (List.mem_of_getElem? (i := 30) rfl)) pd__Ljava_lang_String__Z rfl d_code_242 rfl (by rw [hml]; rfl) all0 (by decide) (Nat.le_of_ble_eq_true rfl) (by decide) (by decide) (fun v51 T51 h51 S51 X51 q51 sS51 sz51 => ?_)
      obtain rfl := q51
      show Go _ _ _ _ (T51.setTop (mkF m 245 #[.val (.int p1), .val (.int p2), .val (.int p3), .val (.int p4), .val (.int p5), .val (.int (0 : Int32)), .val (.int y1), .val (.int y2), .val (.int y3), .val (.int y4), .val (.ref h0.size), .val (.int ee)] [(.int (isTok ([] : List Int32)))]))
      refine blk X51 hby b244 (pc' := 247) (Ls' := #[.val (.int p1), .val (.int p2), .val (.int p3), .val (.int p4), .val (.int p5), .val (.int (0 : Int32)), .val (.int y1), .val (.int y2), .val (.int y3), .val (.int y4), .val (.ref h0.size), .val (.int ee)]) (st' := [(.int ee), (.int (isTok ([] : List Int32)))]) rfl ?_
      refine brI X51 hby d_code_247 (pc1 := 254) (by decide) (fun hz => absurd (neT hz) (fun q => q he)) (fun hz => ?_)
      show Go _ _ _ _ (T51.setTop (mkF m 250 #[.val (.int p1), .val (.int p2), .val (.int p3), .val (.int p4), .val (.int p5), .val (.int (0 : Int32)), .val (.int y1), .val (.int y2), .val (.int y3), .val (.int y4), .val (.ref h0.size), .val (.int ee)] []))
      refine blk X51 hby b245 (pc' := 255) (Ls' := #[.val (.int p1), .val (.int p2), .val (.int p3), .val (.int p4), .val (.int p5), .val (.int (0 : Int32)), .val (.int y1), .val (.int y2), .val (.int y3), .val (.int y4), .val (.ref h0.size), .val (.int ee)]) (st' := [(.int (1 : Int32))]) rfl ?_
      exact retI' X51 hby hret d_code_255 rfl (fun S' hS' => rfl)
    refine blk X7 hby b246 (pc' := 180) (Ls' := #[.val (.int p1), .val (.int p2), .val (.int p3), .val (.int p4), .val (.int p5), .val (.int (0 : Int32)), .val (.int y1), .val (.int y2), .val (.int y3), .val (.int y4), .val (.ref h0.size), .unset]) (st' := [(.int (0 : Int32))]) rfl ?_
    refine br0 X7 hby d_code_180 (pc1 := 237) (by decide) (fun h0n => ?_) (fun h0n => absurd (leF h0n) (by decide))
    show Go _ _ _ _ (T7.setTop (mkF m 237 #[.val (.int p1), .val (.int p2), .val (.int p3), .val (.int p4), .val (.int p5), .val (.int (0 : Int32)), .val (.int y1), .val (.int y2), .val (.int y3), .val (.int y4), .val (.ref h0.size), .unset] []))
    refine blk X7 hby b247 (pc' := 240) (Ls' := #[.val (.int p1), .val (.int p2), .val (.int p3), .val (.int p4), .val (.int p5), .val (.int (0 : Int32)), .val (.int y1), .val (.int y2), .val (.int y3), .val (.int y4), .val (.ref h0.size), .val (.int (0 : Int32))]) (st' := []) rfl ?_
    exact tl _ _ _ (X7.more (by decide) (by decide)) rfl
  · rw [hq]
    show Go _ _ _ _ (T4.setTop (mkF m 33 #[.val (.int p1), .val (.int p2), .val (.int p3), .val (.int p4), .val (.int p5), .val (.int (1 : Int32)), .val (.int y1), .val (.int y2), .val (.int y3), .val (.int y4), .unset, .unset] []))
    refine blk X4 hby b248 (pc' := 35) (Ls' := #[.val (.int p1), .val (.int p2), .val (.int p3), .val (.int p4), .val (.int p5), .val (.int (1 : Int32)), .val (.int y1), .val (.int y2), .val (.int y3), .val (.int y4), .unset, .unset]) (st' := [(.int (1 : Int32))]) rfl ?_
    refine br0 X4 hby d_code_35 (pc1 := 53) (by decide) (fun hn => ?_) (fun hn => absurd (neF hn) (by decide))
    show Go _ _ _ _ (T4.setTop (mkF m 53 #[.val (.int p1), .val (.int p2), .val (.int p3), .val (.int p4), .val (.int p5), .val (.int (1 : Int32)), .val (.int y1), .val (.int y2), .val (.int y3), .val (.int y4), .unset, .unset] []))
    refine blk X4 hby b249 (pc' := 56) (Ls' := #[.val (.int p1), .val (.int p2), .val (.int p3), .val (.int p4), .val (.int p5), .val (.int (1 : Int32)), .val (.int y1), .val (.int y2), .val (.int y3), .val (.int y4), .unset, .unset]) (st' := [(.int (1 : Int32)), (.int (1 : Int32))]) rfl ?_
    refine brI X4 hby d_code_56 (pc1 := 79) (by decide) (fun hn => absurd (neT hn) (fun q => q rfl)) (fun hn => ?_)
    show Go _ _ _ _ (T4.setTop (mkF m 59 #[.val (.int p1), .val (.int p2), .val (.int p3), .val (.int p4), .val (.int p5), .val (.int (1 : Int32)), .val (.int y1), .val (.int y2), .val (.int y3), .val (.int y4), .unset, .unset] []))
    refine gNew X4 hby (hw _ (List.mem_of_getElem? (i := 5) rfl)) (hw _ (List.mem_of_getElem? (i := 6) rfl)) (hw _ (List.mem_of_getElem? (i := 7) rfl)) d_code_59 (by decide) (by decide) (fun T5 h5 S5 X5 E5 A5 D5 M5 sS5 sn5 => ?_)
    show Go _ _ _ _ (T5.setTop (mkF m 62 #[.val (.int p1), .val (.int p2), .val (.int p3), .val (.int p4), .val (.int p5), .val (.int (1 : Int32)), .val (.int y1), .val (.int y2), .val (.int y3), .val (.int y4), .unset, .unset] [(.ref h0.size)]))
    refine blk X5 hby b250 (pc' := 64) (Ls' := #[.val (.int p1), .val (.int p2), .val (.int p3), .val (.int p4), .val (.int p5), .val (.int (1 : Int32)), .val (.int y1), .val (.int y2), .val (.int y3), .val (.int y4), .unset, .unset]) (st' := [(.int (1 : Int32)), (.ref h0.size), (.ref h0.size)]) rfl ?_
    refine gNewA X5 hby (aty := .char) (hw _ (List.mem_of_getElem? (i := 8) rfl)) d_code_64 rfl (N := 1) (cap := 1) rfl (by decide) (by decide) (by decide) (by decide) (fun T6 h6 S6 X6 E6 V6 sS6 sn6 => ?_)
    show Go _ _ _ _ (T6.setTop (mkF m 66 #[.val (.int p1), .val (.int p2), .val (.int p3), .val (.int p4), .val (.int p5), .val (.int (1 : Int32)), .val (.int y1), .val (.int y2), .val (.int y3), .val (.int y4), .unset, .unset] [(.ref h5.size), (.ref h0.size), (.ref h0.size)]))
    have hA : Exa Z h6 h0.size "java/lang/String" := A5.ext E6
    have hF : Fld Z h6 h0.size "java/lang/String" "value" "[B" .null := (D5 (O := "java/lang/String") (nm := "value") (d := "[B") (Or.inr (hw _ (List.mem_of_getElem? (i := 21) rfl))) (ty := .array .byte) (by decide)).ext E6
    have hG : Fld Z h6 h0.size "java/lang/String" "coder" "B" (.int 0) := (D5 (O := "java/lang/String") (nm := "coder") (d := "B") (Or.inr (hw _ (List.mem_of_getElem? (i := 22) rfl))) (ty := .byte) (by decide)).ext E6
    have hK : Keep h0 h6 [] := ((Keep.refl h0 []).ext E5).ext E6
    have hs : S6 h0.size := sS6 _ sn5
    have gx : Z.heap.size ≤ h0.size := X4.old.2.1
    have ga : Z.heap.size ≤ h5.size := X5.old.2.1
    have na : h0.size ≠ h5.size := Nat.ne_of_lt A5.lt
    have hV : Ari Z h6 h5.size .char (List.replicate 1 0) := V6
    have hsa : S6 h5.size := sn6
    refine blk X6 hby b251 (pc' := 70) (Ls' := #[.val (.int p1), .val (.int p2), .val (.int p3), .val (.int p4), .val (.int p5), .val (.int (1 : Int32)), .val (.int y1), .val (.int y2), .val (.int y3), .val (.int y4), .unset, .unset]) (st' := [(.int y1), (.int (0 : Int32)), (.ref h5.size), (.ref h5.size), (.ref h0.size), (.ref h0.size)]) rfl ?_
    refine gSt X6 hby hV (Or.inr (Or.inl ⟨rfl, rfl⟩)) d_code_70 (i := 0) rfl (Nat.le_of_ble_eq_true rfl) (fits_nar_char _) ga hsa (fun T7 h7 S7 X7 W7 V7 sS7 => ?_)
    show Go _ _ _ _ (T7.setTop (mkF m 71 #[.val (.int p1), .val (.int p2), .val (.int p3), .val (.int p4), .val (.int p5), .val (.int (1 : Int32)), .val (.int y1), .val (.int y2), .val (.int y3), .val (.int y4), .unset, .unset] [(.ref h5.size), (.ref h0.size), (.ref h0.size)]))
    rw [nar_char hr1] at V7
    replace hV := V7; replace hA := hA.wr W7; replace hF := hF.other W7 (Or.inl na); replace hG := hG.other W7 (Or.inl na); replace hK := hK.wr W7 (Or.inr (Nat.le_of_lt A5.lt)); replace hs := sS7 _ hs; replace hsa := sS7 _ hsa
    replace hV : Ari Z h7 h5.size .char [y1] := hV
    refine gInit X7 hby (argsL := [(.ref h5.size)]) (st := [(.ref h0.size)]) (ct_init1 hw hEL X7.old U hA hF hG hV gx (Nat.le_of_ble_eq_true rfl)) rfl (hw _ (List.mem_of_getElem? (i := 9) rfl)) (hw _ (List.mem_of_getElem? (i := 10) rfl)) (hw _ (List.mem_of_getElem? (i := 7) rfl)) (hw _ (List.mem_of_getElem? (i := 11) rfl)) pd___C_V rfl d_code_71 rfl (by rw [hml]; rfl) (allS hs all0) (by decide) (Nat.le_of_ble_eq_true rfl) (by decide) (by decide) (fun v8 T8 h8 S8 X8 q8 sS8 sz8 => ?_)
    obtain ⟨rfl, q1, b, hx, hb⟩ := q8
    have hk := hK.trans q1 (fun y hy => Or.inr (by cases List.mem_singleton.mp hy; exact Nat.le_refl _))
    show Go _ _ _ _ (T8.setTop (mkF m 74 #[.val (.int p1), .val (.int p2), .val (.int p3), .val (.int p4), .val (.int p5), .val (.int (1 : Int32)), .val (.int y1), .val (.int y2), .val (.int y3), .val (.int y4), .unset, .unset] [(.ref h0.size)]))
    refine blk X8 hby b252 (pc' := 178) (Ls' := #[.val (.int p1), .val (.int p2), .val (.int p3), .val (.int p4), .val (.int p5), .val (.int (1 : Int32)), .val (.int y1), .val (.int y2), .val (.int y3), .val (.int y4), .val (.ref h0.size), .unset]) (st' := []) rfl ?_
    have tl : ∀ (T : State) (S : Addr → Prop) (ee : Int32), Sd true false Z a0 EL p l e room_1 s m #[(.int p1), (.int p2), (.int p3), (.int p4), (.int p5)] below meth c "com/example/ligature/ligature/http/HeadersIsTokenPinLaw" T h8 S 12 200 → isTok [y1] = ee → Go p e below (Pst true Z EL room_1.cells room_1.slots (QL) s) (T.setTop (mkF m 240 #[.val (.int p1), .val (.int p2), .val (.int p3), .val (.int p4), .val (.int p5), .val (.int (1 : Int32)), .val (.int y1), .val (.int y2), .val (.int y3), .val (.int y4), .val (.ref h0.size), .val (.int ee)] [])) := by
      intro T S ee X he
      refine blk X hby b253 (pc' := 242) (Ls' := #[.val (.int p1), .val (.int p2), .val (.int p3), .val (.int p4), .val (.int p5), .val (.int (1 : Int32)), .val (.int y1), .val (.int y2), .val (.int y3), .val (.int y4), .val (.ref h0.size), .val (.int ee)]) (st' := [(.ref h0.size)]) rfl ?_
      refine gStatic X hby (argsL := [(.ref h0.size)]) (st := []) (ct_tok hw hEL X.old U hFM hfm hx (Nat.le_of_ble_eq_true rfl)) (hw _ (List.mem_of_getElem? (i := 27) rfl)) (hw _ (List.mem_of_getElem? (i := 28) rfl)) (hw _ (List.mem_of_getElem? (i := 29) rfl)) (hw _ (List.mem_of_getElem? (i := 30) rfl)) pd__Ljava_lang_String__Z rfl d_code_242 rfl (by rw [hml]; rfl) all0 (by decide) (Nat.le_of_ble_eq_true rfl) (by decide) (by decide) (fun v51 T51 h51 S51 X51 q51 sS51 sz51 => ?_)
      obtain rfl := q51
      show Go _ _ _ _ (T51.setTop (mkF m 245 #[.val (.int p1), .val (.int p2), .val (.int p3), .val (.int p4), .val (.int p5), .val (.int (1 : Int32)), .val (.int y1), .val (.int y2), .val (.int y3), .val (.int y4), .val (.ref h0.size), .val (.int ee)] [(.int (isTok [y1]))]))
      refine blk X51 hby b254 (pc' := 247) (Ls' := #[.val (.int p1), .val (.int p2), .val (.int p3), .val (.int p4), .val (.int p5), .val (.int (1 : Int32)), .val (.int y1), .val (.int y2), .val (.int y3), .val (.int y4), .val (.ref h0.size), .val (.int ee)]) (st' := [(.int ee), (.int (isTok [y1]))]) rfl ?_
      refine brI X51 hby d_code_247 (pc1 := 254) (by decide) (fun hz => absurd (neT hz) (fun q => q he)) (fun hz => ?_)
      show Go _ _ _ _ (T51.setTop (mkF m 250 #[.val (.int p1), .val (.int p2), .val (.int p3), .val (.int p4), .val (.int p5), .val (.int (1 : Int32)), .val (.int y1), .val (.int y2), .val (.int y3), .val (.int y4), .val (.ref h0.size), .val (.int ee)] []))
      refine blk X51 hby b255 (pc' := 255) (Ls' := #[.val (.int p1), .val (.int p2), .val (.int p3), .val (.int p4), .val (.int p5), .val (.int (1 : Int32)), .val (.int y1), .val (.int y2), .val (.int y3), .val (.int y4), .val (.ref h0.size), .val (.int ee)]) (st' := [(.int (1 : Int32))]) rfl ?_
      exact retI' X51 hby hret d_code_255 rfl (fun S' hS' => rfl)
    refine blk X8 hby b256 (pc' := 180) (Ls' := #[.val (.int p1), .val (.int p2), .val (.int p3), .val (.int p4), .val (.int p5), .val (.int (1 : Int32)), .val (.int y1), .val (.int y2), .val (.int y3), .val (.int y4), .val (.ref h0.size), .unset]) (st' := [(.int (1 : Int32))]) rfl ?_
    refine br0 X8 hby d_code_180 (pc1 := 237) (by decide) (fun h0n => absurd (leT h0n) (fun q => q (by decide))) (fun h0n => ?_)
    show Go _ _ _ _ (T8.setTop (mkF m 183 #[.val (.int p1), .val (.int p2), .val (.int p3), .val (.int p4), .val (.int p5), .val (.int (1 : Int32)), .val (.int y1), .val (.int y2), .val (.int y3), .val (.int y4), .val (.ref h0.size), .unset] []))
    refine blk X8 hby b257 (pc' := 185) (Ls' := #[.val (.int p1), .val (.int p2), .val (.int p3), .val (.int p4), .val (.int p5), .val (.int (1 : Int32)), .val (.int y1), .val (.int y2), .val (.int y3), .val (.int y4), .val (.ref h0.size), .unset]) (st' := [(.int y1)]) rfl ?_
    refine gStatic X8 hby (argsL := [(.int y1)]) (st := []) (ct_tch hw hEL X8.old) (hw _ (List.mem_of_getElem? (i := 47) rfl)) (hw _ (List.mem_of_getElem? (i := 48) rfl)) (hw _ (List.mem_of_getElem? (i := 3) rfl)) (hw _ (List.mem_of_getElem? (i := 49) rfl)) pd__C_Z rfl d_code_185 rfl (by rw [hml]; rfl) all0 (by decide) (Nat.le_of_ble_eq_true rfl) (by decide) (by decide) (fun v9 T9 h9 S9 X9 q9 sS9 sz9 => ?_)
    obtain ⟨rfl, rfl⟩ := q9
    show Go _ _ _ _ (T9.setTop (mkF m 188 #[.val (.int p1), .val (.int p2), .val (.int p3), .val (.int p4), .val (.int p5), .val (.int (1 : Int32)), .val (.int y1), .val (.int y2), .val (.int y3), .val (.int y4), .val (.ref h0.size), .unset] [(.int (if tokB y1 = true then 1 else 0))]))
    refine br0 X9 hby d_code_188 (pc1 := 237) (by decide) (fun t1 => ?_) (fun t1 => ?_)
    · replace t1 := eqT t1
      show Go _ _ _ _ (T9.setTop (mkF m 237 #[.val (.int p1), .val (.int p2), .val (.int p3), .val (.int p4), .val (.int p5), .val (.int (1 : Int32)), .val (.int y1), .val (.int y2), .val (.int y3), .val (.int y4), .val (.ref h0.size), .unset] []))
      replace t1 := ite10.mp t1
      refine blk X9 hby b258 (pc' := 240) (Ls' := #[.val (.int p1), .val (.int p2), .val (.int p3), .val (.int p4), .val (.int p5), .val (.int (1 : Int32)), .val (.int y1), .val (.int y2), .val (.int y3), .val (.int y4), .val (.ref h0.size), .val (.int (0 : Int32))]) (st' := []) rfl ?_
      exact tl _ _ _ (X9.more (by decide) (by decide)) (isTok_no (i := 0) (Nat.le_of_ble_eq_true rfl) t1)
    · replace t1 := eqF t1
      show Go _ _ _ _ (T9.setTop (mkF m 191 #[.val (.int p1), .val (.int p2), .val (.int p3), .val (.int p4), .val (.int p5), .val (.int (1 : Int32)), .val (.int y1), .val (.int y2), .val (.int y3), .val (.int y4), .val (.ref h0.size), .unset] []))
      replace t1 : tokB y1 = true := by simpa using fun q => t1 (ite10.mpr q)
      refine blk X9 hby b259 (pc' := 194) (Ls' := #[.val (.int p1), .val (.int p2), .val (.int p3), .val (.int p4), .val (.int p5), .val (.int (1 : Int32)), .val (.int y1), .val (.int y2), .val (.int y3), .val (.int y4), .val (.ref h0.size), .unset]) (st' := [(.int (2 : Int32)), (.int (1 : Int32))]) rfl ?_
      refine brI X9 hby d_code_194 (pc1 := 205) (by decide) (fun h2n => ?_) (fun h2n => absurd (ltF h2n) (fun q => q (by decide)))
      show Go _ _ _ _ (T9.setTop (mkF m 205 #[.val (.int p1), .val (.int p2), .val (.int p3), .val (.int p4), .val (.int p5), .val (.int (1 : Int32)), .val (.int y1), .val (.int y2), .val (.int y3), .val (.int y4), .val (.ref h0.size), .unset] []))
      refine blk X9 hby b260 (pc' := 208) (Ls' := #[.val (.int p1), .val (.int p2), .val (.int p3), .val (.int p4), .val (.int p5), .val (.int (1 : Int32)), .val (.int y1), .val (.int y2), .val (.int y3), .val (.int y4), .val (.ref h0.size), .unset]) (st' := [(.int (3 : Int32)), (.int (1 : Int32))]) rfl ?_
      refine brI X9 hby d_code_208 (pc1 := 219) (by decide) (fun h3n => ?_) (fun h3n => absurd (ltF h3n) (fun q => q (by decide)))
      show Go _ _ _ _ (T9.setTop (mkF m 219 #[.val (.int p1), .val (.int p2), .val (.int p3), .val (.int p4), .val (.int p5), .val (.int (1 : Int32)), .val (.int y1), .val (.int y2), .val (.int y3), .val (.int y4), .val (.ref h0.size), .unset] []))
      refine blk X9 hby b261 (pc' := 222) (Ls' := #[.val (.int p1), .val (.int p2), .val (.int p3), .val (.int p4), .val (.int p5), .val (.int (1 : Int32)), .val (.int y1), .val (.int y2), .val (.int y3), .val (.int y4), .val (.ref h0.size), .unset]) (st' := [(.int (4 : Int32)), (.int (1 : Int32))]) rfl ?_
      refine brI X9 hby d_code_222 (pc1 := 233) (by decide) (fun h4n => ?_) (fun h4n => absurd (ltF h4n) (fun q => q (by decide)))
      show Go _ _ _ _ (T9.setTop (mkF m 233 #[.val (.int p1), .val (.int p2), .val (.int p3), .val (.int p4), .val (.int p5), .val (.int (1 : Int32)), .val (.int y1), .val (.int y2), .val (.int y3), .val (.int y4), .val (.ref h0.size), .unset] []))
      refine blk X9 hby b262 (pc' := 240) (Ls' := #[.val (.int p1), .val (.int p2), .val (.int p3), .val (.int p4), .val (.int p5), .val (.int (1 : Int32)), .val (.int y1), .val (.int y2), .val (.int y3), .val (.int y4), .val (.ref h0.size), .val (.int (1 : Int32))]) (st' := []) rfl ?_
      exact tl _ _ (1 : Int32) (X9.more (by decide) (by decide)) (by simp [isTok, t1])
  · rw [hq]
    show Go _ _ _ _ (T4.setTop (mkF m 33 #[.val (.int p1), .val (.int p2), .val (.int p3), .val (.int p4), .val (.int p5), .val (.int (2 : Int32)), .val (.int y1), .val (.int y2), .val (.int y3), .val (.int y4), .unset, .unset] []))
    refine blk X4 hby b263 (pc' := 35) (Ls' := #[.val (.int p1), .val (.int p2), .val (.int p3), .val (.int p4), .val (.int p5), .val (.int (2 : Int32)), .val (.int y1), .val (.int y2), .val (.int y3), .val (.int y4), .unset, .unset]) (st' := [(.int (2 : Int32))]) rfl ?_
    refine br0 X4 hby d_code_35 (pc1 := 53) (by decide) (fun hn => ?_) (fun hn => absurd (neF hn) (by decide))
    show Go _ _ _ _ (T4.setTop (mkF m 53 #[.val (.int p1), .val (.int p2), .val (.int p3), .val (.int p4), .val (.int p5), .val (.int (2 : Int32)), .val (.int y1), .val (.int y2), .val (.int y3), .val (.int y4), .unset, .unset] []))
    refine blk X4 hby b264 (pc' := 56) (Ls' := #[.val (.int p1), .val (.int p2), .val (.int p3), .val (.int p4), .val (.int p5), .val (.int (2 : Int32)), .val (.int y1), .val (.int y2), .val (.int y3), .val (.int y4), .unset, .unset]) (st' := [(.int (1 : Int32)), (.int (2 : Int32))]) rfl ?_
    refine brI X4 hby d_code_56 (pc1 := 79) (by decide) (fun hn => ?_) (fun hn => absurd (neF hn) (by decide))
    show Go _ _ _ _ (T4.setTop (mkF m 79 #[.val (.int p1), .val (.int p2), .val (.int p3), .val (.int p4), .val (.int p5), .val (.int (2 : Int32)), .val (.int y1), .val (.int y2), .val (.int y3), .val (.int y4), .unset, .unset] []))
    refine blk X4 hby b265 (pc' := 82) (Ls' := #[.val (.int p1), .val (.int p2), .val (.int p3), .val (.int p4), .val (.int p5), .val (.int (2 : Int32)), .val (.int y1), .val (.int y2), .val (.int y3), .val (.int y4), .unset, .unset]) (st' := [(.int (2 : Int32)), (.int (2 : Int32))]) rfl ?_
    refine brI X4 hby d_code_82 (pc1 := 110) (by decide) (fun hn => absurd (neT hn) (fun q => q rfl)) (fun hn => ?_)
    show Go _ _ _ _ (T4.setTop (mkF m 85 #[.val (.int p1), .val (.int p2), .val (.int p3), .val (.int p4), .val (.int p5), .val (.int (2 : Int32)), .val (.int y1), .val (.int y2), .val (.int y3), .val (.int y4), .unset, .unset] []))
    refine gNew X4 hby (hw _ (List.mem_of_getElem? (i := 5) rfl)) (hw _ (List.mem_of_getElem? (i := 6) rfl)) (hw _ (List.mem_of_getElem? (i := 7) rfl)) d_code_85 (by decide) (by decide) (fun T5 h5 S5 X5 E5 A5 D5 M5 sS5 sn5 => ?_)
    show Go _ _ _ _ (T5.setTop (mkF m 88 #[.val (.int p1), .val (.int p2), .val (.int p3), .val (.int p4), .val (.int p5), .val (.int (2 : Int32)), .val (.int y1), .val (.int y2), .val (.int y3), .val (.int y4), .unset, .unset] [(.ref h0.size)]))
    refine blk X5 hby b266 (pc' := 90) (Ls' := #[.val (.int p1), .val (.int p2), .val (.int p3), .val (.int p4), .val (.int p5), .val (.int (2 : Int32)), .val (.int y1), .val (.int y2), .val (.int y3), .val (.int y4), .unset, .unset]) (st' := [(.int (2 : Int32)), (.ref h0.size), (.ref h0.size)]) rfl ?_
    refine gNewA X5 hby (aty := .char) (hw _ (List.mem_of_getElem? (i := 8) rfl)) d_code_90 rfl (N := 2) (cap := 2) rfl (by decide) (by decide) (by decide) (by decide) (fun T6 h6 S6 X6 E6 V6 sS6 sn6 => ?_)
    show Go _ _ _ _ (T6.setTop (mkF m 92 #[.val (.int p1), .val (.int p2), .val (.int p3), .val (.int p4), .val (.int p5), .val (.int (2 : Int32)), .val (.int y1), .val (.int y2), .val (.int y3), .val (.int y4), .unset, .unset] [(.ref h5.size), (.ref h0.size), (.ref h0.size)]))
    have hA : Exa Z h6 h0.size "java/lang/String" := A5.ext E6
    have hF : Fld Z h6 h0.size "java/lang/String" "value" "[B" .null := (D5 (O := "java/lang/String") (nm := "value") (d := "[B") (Or.inr (hw _ (List.mem_of_getElem? (i := 21) rfl))) (ty := .array .byte) (by decide)).ext E6
    have hG : Fld Z h6 h0.size "java/lang/String" "coder" "B" (.int 0) := (D5 (O := "java/lang/String") (nm := "coder") (d := "B") (Or.inr (hw _ (List.mem_of_getElem? (i := 22) rfl))) (ty := .byte) (by decide)).ext E6
    have hK : Keep h0 h6 [] := ((Keep.refl h0 []).ext E5).ext E6
    have hs : S6 h0.size := sS6 _ sn5
    have gx : Z.heap.size ≤ h0.size := X4.old.2.1
    have ga : Z.heap.size ≤ h5.size := X5.old.2.1
    have na : h0.size ≠ h5.size := Nat.ne_of_lt A5.lt
    have hV : Ari Z h6 h5.size .char (List.replicate 2 0) := V6
    have hsa : S6 h5.size := sn6
    refine blk X6 hby b267 (pc' := 96) (Ls' := #[.val (.int p1), .val (.int p2), .val (.int p3), .val (.int p4), .val (.int p5), .val (.int (2 : Int32)), .val (.int y1), .val (.int y2), .val (.int y3), .val (.int y4), .unset, .unset]) (st' := [(.int y1), (.int (0 : Int32)), (.ref h5.size), (.ref h5.size), (.ref h0.size), (.ref h0.size)]) rfl ?_
    refine gSt X6 hby hV (Or.inr (Or.inl ⟨rfl, rfl⟩)) d_code_96 (i := 0) rfl (Nat.le_of_ble_eq_true rfl) (fits_nar_char _) ga hsa (fun T7 h7 S7 X7 W7 V7 sS7 => ?_)
    show Go _ _ _ _ (T7.setTop (mkF m 97 #[.val (.int p1), .val (.int p2), .val (.int p3), .val (.int p4), .val (.int p5), .val (.int (2 : Int32)), .val (.int y1), .val (.int y2), .val (.int y3), .val (.int y4), .unset, .unset] [(.ref h5.size), (.ref h0.size), (.ref h0.size)]))
    rw [nar_char hr1] at V7
    replace hV := V7; replace hA := hA.wr W7; replace hF := hF.other W7 (Or.inl na); replace hG := hG.other W7 (Or.inl na); replace hK := hK.wr W7 (Or.inr (Nat.le_of_lt A5.lt)); replace hs := sS7 _ hs; replace hsa := sS7 _ hsa
    refine blk X7 hby b268 (pc' := 101) (Ls' := #[.val (.int p1), .val (.int p2), .val (.int p3), .val (.int p4), .val (.int p5), .val (.int (2 : Int32)), .val (.int y1), .val (.int y2), .val (.int y3), .val (.int y4), .unset, .unset]) (st' := [(.int y2), (.int (1 : Int32)), (.ref h5.size), (.ref h5.size), (.ref h0.size), (.ref h0.size)]) rfl ?_
    refine gSt X7 hby hV (Or.inr (Or.inl ⟨rfl, rfl⟩)) d_code_101 (i := 1) rfl (Nat.le_of_ble_eq_true rfl) (fits_nar_char _) ga hsa (fun T8 h8 S8 X8 W8 V8 sS8 => ?_)
    show Go _ _ _ _ (T8.setTop (mkF m 102 #[.val (.int p1), .val (.int p2), .val (.int p3), .val (.int p4), .val (.int p5), .val (.int (2 : Int32)), .val (.int y1), .val (.int y2), .val (.int y3), .val (.int y4), .unset, .unset] [(.ref h5.size), (.ref h0.size), (.ref h0.size)]))
    rw [nar_char hr2] at V8
    replace hV := V8; replace hA := hA.wr W8; replace hF := hF.other W8 (Or.inl na); replace hG := hG.other W8 (Or.inl na); replace hK := hK.wr W8 (Or.inr (Nat.le_of_lt A5.lt)); replace hs := sS8 _ hs; replace hsa := sS8 _ hsa
    replace hV : Ari Z h8 h5.size .char [y1, y2] := hV
    refine gInit X8 hby (argsL := [(.ref h5.size)]) (st := [(.ref h0.size)]) (ct_init1 hw hEL X8.old U hA hF hG hV gx (Nat.le_of_ble_eq_true rfl)) rfl (hw _ (List.mem_of_getElem? (i := 9) rfl)) (hw _ (List.mem_of_getElem? (i := 10) rfl)) (hw _ (List.mem_of_getElem? (i := 7) rfl)) (hw _ (List.mem_of_getElem? (i := 11) rfl)) pd___C_V rfl d_code_102 rfl (by rw [hml]; rfl) (allS hs all0) (by decide) (Nat.le_of_ble_eq_true rfl) (by decide) (by decide) (fun v9 T9 h9 S9 X9 q9 sS9 sz9 => ?_)
    obtain ⟨rfl, q1, b, hx, hb⟩ := q9
    have hk := hK.trans q1 (fun y hy => Or.inr (by cases List.mem_singleton.mp hy; exact Nat.le_refl _))
    show Go _ _ _ _ (T9.setTop (mkF m 105 #[.val (.int p1), .val (.int p2), .val (.int p3), .val (.int p4), .val (.int p5), .val (.int (2 : Int32)), .val (.int y1), .val (.int y2), .val (.int y3), .val (.int y4), .unset, .unset] [(.ref h0.size)]))
    refine blk X9 hby b269 (pc' := 178) (Ls' := #[.val (.int p1), .val (.int p2), .val (.int p3), .val (.int p4), .val (.int p5), .val (.int (2 : Int32)), .val (.int y1), .val (.int y2), .val (.int y3), .val (.int y4), .val (.ref h0.size), .unset]) (st' := []) rfl ?_
    have tl : ∀ (T : State) (S : Addr → Prop) (ee : Int32), Sd true false Z a0 EL p l e room_1 s m #[(.int p1), (.int p2), (.int p3), (.int p4), (.int p5)] below meth c "com/example/ligature/ligature/http/HeadersIsTokenPinLaw" T h9 S 12 200 → isTok [y1, y2] = ee → Go p e below (Pst true Z EL room_1.cells room_1.slots (QL) s) (T.setTop (mkF m 240 #[.val (.int p1), .val (.int p2), .val (.int p3), .val (.int p4), .val (.int p5), .val (.int (2 : Int32)), .val (.int y1), .val (.int y2), .val (.int y3), .val (.int y4), .val (.ref h0.size), .val (.int ee)] [])) := by
      intro T S ee X he
      refine blk X hby b270 (pc' := 242) (Ls' := #[.val (.int p1), .val (.int p2), .val (.int p3), .val (.int p4), .val (.int p5), .val (.int (2 : Int32)), .val (.int y1), .val (.int y2), .val (.int y3), .val (.int y4), .val (.ref h0.size), .val (.int ee)]) (st' := [(.ref h0.size)]) rfl ?_
      refine gStatic X hby (argsL := [(.ref h0.size)]) (st := []) (ct_tok hw hEL X.old U hFM hfm hx (Nat.le_of_ble_eq_true rfl)) (hw _ (List.mem_of_getElem? (i := 27) rfl)) (hw _ (List.mem_of_getElem? (i := 28) rfl)) (hw _ (List.mem_of_getElem? (i := 29) rfl)) (hw _ (List.mem_of_getElem? (i := 30) rfl)) pd__Ljava_lang_String__Z rfl d_code_242 rfl (by rw [hml]; rfl) all0 (by decide) (Nat.le_of_ble_eq_true rfl) (by decide) (by decide) (fun v51 T51 h51 S51 X51 q51 sS51 sz51 => ?_)
      obtain rfl := q51
      show Go _ _ _ _ (T51.setTop (mkF m 245 #[.val (.int p1), .val (.int p2), .val (.int p3), .val (.int p4), .val (.int p5), .val (.int (2 : Int32)), .val (.int y1), .val (.int y2), .val (.int y3), .val (.int y4), .val (.ref h0.size), .val (.int ee)] [(.int (isTok [y1, y2]))]))
      refine blk X51 hby b271 (pc' := 247) (Ls' := #[.val (.int p1), .val (.int p2), .val (.int p3), .val (.int p4), .val (.int p5), .val (.int (2 : Int32)), .val (.int y1), .val (.int y2), .val (.int y3), .val (.int y4), .val (.ref h0.size), .val (.int ee)]) (st' := [(.int ee), (.int (isTok [y1, y2]))]) rfl ?_
      refine brI X51 hby d_code_247 (pc1 := 254) (by decide) (fun hz => absurd (neT hz) (fun q => q he)) (fun hz => ?_)
      show Go _ _ _ _ (T51.setTop (mkF m 250 #[.val (.int p1), .val (.int p2), .val (.int p3), .val (.int p4), .val (.int p5), .val (.int (2 : Int32)), .val (.int y1), .val (.int y2), .val (.int y3), .val (.int y4), .val (.ref h0.size), .val (.int ee)] []))
      refine blk X51 hby b272 (pc' := 255) (Ls' := #[.val (.int p1), .val (.int p2), .val (.int p3), .val (.int p4), .val (.int p5), .val (.int (2 : Int32)), .val (.int y1), .val (.int y2), .val (.int y3), .val (.int y4), .val (.ref h0.size), .val (.int ee)]) (st' := [(.int (1 : Int32))]) rfl ?_
      exact retI' X51 hby hret d_code_255 rfl (fun S' hS' => rfl)
    refine blk X9 hby b273 (pc' := 180) (Ls' := #[.val (.int p1), .val (.int p2), .val (.int p3), .val (.int p4), .val (.int p5), .val (.int (2 : Int32)), .val (.int y1), .val (.int y2), .val (.int y3), .val (.int y4), .val (.ref h0.size), .unset]) (st' := [(.int (2 : Int32))]) rfl ?_
    refine br0 X9 hby d_code_180 (pc1 := 237) (by decide) (fun h0n => absurd (leT h0n) (fun q => q (by decide))) (fun h0n => ?_)
    show Go _ _ _ _ (T9.setTop (mkF m 183 #[.val (.int p1), .val (.int p2), .val (.int p3), .val (.int p4), .val (.int p5), .val (.int (2 : Int32)), .val (.int y1), .val (.int y2), .val (.int y3), .val (.int y4), .val (.ref h0.size), .unset] []))
    refine blk X9 hby b274 (pc' := 185) (Ls' := #[.val (.int p1), .val (.int p2), .val (.int p3), .val (.int p4), .val (.int p5), .val (.int (2 : Int32)), .val (.int y1), .val (.int y2), .val (.int y3), .val (.int y4), .val (.ref h0.size), .unset]) (st' := [(.int y1)]) rfl ?_
    refine gStatic X9 hby (argsL := [(.int y1)]) (st := []) (ct_tch hw hEL X9.old) (hw _ (List.mem_of_getElem? (i := 47) rfl)) (hw _ (List.mem_of_getElem? (i := 48) rfl)) (hw _ (List.mem_of_getElem? (i := 3) rfl)) (hw _ (List.mem_of_getElem? (i := 49) rfl)) pd__C_Z rfl d_code_185 rfl (by rw [hml]; rfl) all0 (by decide) (Nat.le_of_ble_eq_true rfl) (by decide) (by decide) (fun v10 T10 h10 S10 X10 q10 sS10 sz10 => ?_)
    obtain ⟨rfl, rfl⟩ := q10
    show Go _ _ _ _ (T10.setTop (mkF m 188 #[.val (.int p1), .val (.int p2), .val (.int p3), .val (.int p4), .val (.int p5), .val (.int (2 : Int32)), .val (.int y1), .val (.int y2), .val (.int y3), .val (.int y4), .val (.ref h0.size), .unset] [(.int (if tokB y1 = true then 1 else 0))]))
    refine br0 X10 hby d_code_188 (pc1 := 237) (by decide) (fun t1 => ?_) (fun t1 => ?_)
    · replace t1 := eqT t1
      show Go _ _ _ _ (T10.setTop (mkF m 237 #[.val (.int p1), .val (.int p2), .val (.int p3), .val (.int p4), .val (.int p5), .val (.int (2 : Int32)), .val (.int y1), .val (.int y2), .val (.int y3), .val (.int y4), .val (.ref h0.size), .unset] []))
      replace t1 := ite10.mp t1
      refine blk X10 hby b275 (pc' := 240) (Ls' := #[.val (.int p1), .val (.int p2), .val (.int p3), .val (.int p4), .val (.int p5), .val (.int (2 : Int32)), .val (.int y1), .val (.int y2), .val (.int y3), .val (.int y4), .val (.ref h0.size), .val (.int (0 : Int32))]) (st' := []) rfl ?_
      exact tl _ _ _ (X10.more (by decide) (by decide)) (isTok_no (i := 0) (Nat.le_of_ble_eq_true rfl) t1)
    · replace t1 := eqF t1
      show Go _ _ _ _ (T10.setTop (mkF m 191 #[.val (.int p1), .val (.int p2), .val (.int p3), .val (.int p4), .val (.int p5), .val (.int (2 : Int32)), .val (.int y1), .val (.int y2), .val (.int y3), .val (.int y4), .val (.ref h0.size), .unset] []))
      replace t1 : tokB y1 = true := by simpa using fun q => t1 (ite10.mpr q)
      refine blk X10 hby b276 (pc' := 194) (Ls' := #[.val (.int p1), .val (.int p2), .val (.int p3), .val (.int p4), .val (.int p5), .val (.int (2 : Int32)), .val (.int y1), .val (.int y2), .val (.int y3), .val (.int y4), .val (.ref h0.size), .unset]) (st' := [(.int (2 : Int32)), (.int (2 : Int32))]) rfl ?_
      refine brI X10 hby d_code_194 (pc1 := 205) (by decide) (fun h2n => absurd (ltT h2n) (by decide)) (fun h2n => ?_)
      show Go _ _ _ _ (T10.setTop (mkF m 197 #[.val (.int p1), .val (.int p2), .val (.int p3), .val (.int p4), .val (.int p5), .val (.int (2 : Int32)), .val (.int y1), .val (.int y2), .val (.int y3), .val (.int y4), .val (.ref h0.size), .unset] []))
      refine blk X10 hby b277 (pc' := 199) (Ls' := #[.val (.int p1), .val (.int p2), .val (.int p3), .val (.int p4), .val (.int p5), .val (.int (2 : Int32)), .val (.int y1), .val (.int y2), .val (.int y3), .val (.int y4), .val (.ref h0.size), .unset]) (st' := [(.int y2)]) rfl ?_
      refine gStatic X10 hby (argsL := [(.int y2)]) (st := []) (ct_tch hw hEL X10.old) (hw _ (List.mem_of_getElem? (i := 47) rfl)) (hw _ (List.mem_of_getElem? (i := 48) rfl)) (hw _ (List.mem_of_getElem? (i := 3) rfl)) (hw _ (List.mem_of_getElem? (i := 49) rfl)) pd__C_Z rfl d_code_199 rfl (by rw [hml]; rfl) all0 (by decide) (Nat.le_of_ble_eq_true rfl) (by decide) (by decide) (fun v11 T11 h11 S11 X11 q11 sS11 sz11 => ?_)
      obtain ⟨rfl, rfl⟩ := q11
      show Go _ _ _ _ (T11.setTop (mkF m 202 #[.val (.int p1), .val (.int p2), .val (.int p3), .val (.int p4), .val (.int p5), .val (.int (2 : Int32)), .val (.int y1), .val (.int y2), .val (.int y3), .val (.int y4), .val (.ref h0.size), .unset] [(.int (if tokB y2 = true then 1 else 0))]))
      refine br0 X11 hby d_code_202 (pc1 := 237) (by decide) (fun t2 => ?_) (fun t2 => ?_)
      · replace t2 := eqT t2
        show Go _ _ _ _ (T11.setTop (mkF m 237 #[.val (.int p1), .val (.int p2), .val (.int p3), .val (.int p4), .val (.int p5), .val (.int (2 : Int32)), .val (.int y1), .val (.int y2), .val (.int y3), .val (.int y4), .val (.ref h0.size), .unset] []))
        replace t2 := ite10.mp t2
        refine blk X11 hby b278 (pc' := 240) (Ls' := #[.val (.int p1), .val (.int p2), .val (.int p3), .val (.int p4), .val (.int p5), .val (.int (2 : Int32)), .val (.int y1), .val (.int y2), .val (.int y3), .val (.int y4), .val (.ref h0.size), .val (.int (0 : Int32))]) (st' := []) rfl ?_
        exact tl _ _ _ (X11.more (by decide) (by decide)) (isTok_no (i := 1) (Nat.le_of_ble_eq_true rfl) t2)
      · replace t2 := eqF t2
        show Go _ _ _ _ (T11.setTop (mkF m 205 #[.val (.int p1), .val (.int p2), .val (.int p3), .val (.int p4), .val (.int p5), .val (.int (2 : Int32)), .val (.int y1), .val (.int y2), .val (.int y3), .val (.int y4), .val (.ref h0.size), .unset] []))
        replace t2 : tokB y2 = true := by simpa using fun q => t2 (ite10.mpr q)
        refine blk X11 hby b279 (pc' := 208) (Ls' := #[.val (.int p1), .val (.int p2), .val (.int p3), .val (.int p4), .val (.int p5), .val (.int (2 : Int32)), .val (.int y1), .val (.int y2), .val (.int y3), .val (.int y4), .val (.ref h0.size), .unset]) (st' := [(.int (3 : Int32)), (.int (2 : Int32))]) rfl ?_
        refine brI X11 hby d_code_208 (pc1 := 219) (by decide) (fun h3n => ?_) (fun h3n => absurd (ltF h3n) (fun q => q (by decide)))
        show Go _ _ _ _ (T11.setTop (mkF m 219 #[.val (.int p1), .val (.int p2), .val (.int p3), .val (.int p4), .val (.int p5), .val (.int (2 : Int32)), .val (.int y1), .val (.int y2), .val (.int y3), .val (.int y4), .val (.ref h0.size), .unset] []))
        refine blk X11 hby b280 (pc' := 222) (Ls' := #[.val (.int p1), .val (.int p2), .val (.int p3), .val (.int p4), .val (.int p5), .val (.int (2 : Int32)), .val (.int y1), .val (.int y2), .val (.int y3), .val (.int y4), .val (.ref h0.size), .unset]) (st' := [(.int (4 : Int32)), (.int (2 : Int32))]) rfl ?_
        refine brI X11 hby d_code_222 (pc1 := 233) (by decide) (fun h4n => ?_) (fun h4n => absurd (ltF h4n) (fun q => q (by decide)))
        show Go _ _ _ _ (T11.setTop (mkF m 233 #[.val (.int p1), .val (.int p2), .val (.int p3), .val (.int p4), .val (.int p5), .val (.int (2 : Int32)), .val (.int y1), .val (.int y2), .val (.int y3), .val (.int y4), .val (.ref h0.size), .unset] []))
        refine blk X11 hby b281 (pc' := 240) (Ls' := #[.val (.int p1), .val (.int p2), .val (.int p3), .val (.int p4), .val (.int p5), .val (.int (2 : Int32)), .val (.int y1), .val (.int y2), .val (.int y3), .val (.int y4), .val (.ref h0.size), .val (.int (1 : Int32))]) (st' := []) rfl ?_
        exact tl _ _ (1 : Int32) (X11.more (by decide) (by decide)) (by simp [isTok, t1, t2])
  · rw [hq]
    show Go _ _ _ _ (T4.setTop (mkF m 33 #[.val (.int p1), .val (.int p2), .val (.int p3), .val (.int p4), .val (.int p5), .val (.int (3 : Int32)), .val (.int y1), .val (.int y2), .val (.int y3), .val (.int y4), .unset, .unset] []))
    refine blk X4 hby b282 (pc' := 35) (Ls' := #[.val (.int p1), .val (.int p2), .val (.int p3), .val (.int p4), .val (.int p5), .val (.int (3 : Int32)), .val (.int y1), .val (.int y2), .val (.int y3), .val (.int y4), .unset, .unset]) (st' := [(.int (3 : Int32))]) rfl ?_
    refine br0 X4 hby d_code_35 (pc1 := 53) (by decide) (fun hn => ?_) (fun hn => absurd (neF hn) (by decide))
    show Go _ _ _ _ (T4.setTop (mkF m 53 #[.val (.int p1), .val (.int p2), .val (.int p3), .val (.int p4), .val (.int p5), .val (.int (3 : Int32)), .val (.int y1), .val (.int y2), .val (.int y3), .val (.int y4), .unset, .unset] []))
    refine blk X4 hby b283 (pc' := 56) (Ls' := #[.val (.int p1), .val (.int p2), .val (.int p3), .val (.int p4), .val (.int p5), .val (.int (3 : Int32)), .val (.int y1), .val (.int y2), .val (.int y3), .val (.int y4), .unset, .unset]) (st' := [(.int (1 : Int32)), (.int (3 : Int32))]) rfl ?_
    refine brI X4 hby d_code_56 (pc1 := 79) (by decide) (fun hn => ?_) (fun hn => absurd (neF hn) (by decide))
    show Go _ _ _ _ (T4.setTop (mkF m 79 #[.val (.int p1), .val (.int p2), .val (.int p3), .val (.int p4), .val (.int p5), .val (.int (3 : Int32)), .val (.int y1), .val (.int y2), .val (.int y3), .val (.int y4), .unset, .unset] []))
    refine blk X4 hby b284 (pc' := 82) (Ls' := #[.val (.int p1), .val (.int p2), .val (.int p3), .val (.int p4), .val (.int p5), .val (.int (3 : Int32)), .val (.int y1), .val (.int y2), .val (.int y3), .val (.int y4), .unset, .unset]) (st' := [(.int (2 : Int32)), (.int (3 : Int32))]) rfl ?_
    refine brI X4 hby d_code_82 (pc1 := 110) (by decide) (fun hn => ?_) (fun hn => absurd (neF hn) (by decide))
    show Go _ _ _ _ (T4.setTop (mkF m 110 #[.val (.int p1), .val (.int p2), .val (.int p3), .val (.int p4), .val (.int p5), .val (.int (3 : Int32)), .val (.int y1), .val (.int y2), .val (.int y3), .val (.int y4), .unset, .unset] []))
    refine blk X4 hby b285 (pc' := 113) (Ls' := #[.val (.int p1), .val (.int p2), .val (.int p3), .val (.int p4), .val (.int p5), .val (.int (3 : Int32)), .val (.int y1), .val (.int y2), .val (.int y3), .val (.int y4), .unset, .unset]) (st' := [(.int (3 : Int32)), (.int (3 : Int32))]) rfl ?_
    refine brI X4 hby d_code_113 (pc1 := 146) (by decide) (fun hn => absurd (neT hn) (fun q => q rfl)) (fun hn => ?_)
    show Go _ _ _ _ (T4.setTop (mkF m 116 #[.val (.int p1), .val (.int p2), .val (.int p3), .val (.int p4), .val (.int p5), .val (.int (3 : Int32)), .val (.int y1), .val (.int y2), .val (.int y3), .val (.int y4), .unset, .unset] []))
    refine gNew X4 hby (hw _ (List.mem_of_getElem? (i := 5) rfl)) (hw _ (List.mem_of_getElem? (i := 6) rfl)) (hw _ (List.mem_of_getElem? (i := 7) rfl)) d_code_116 (by decide) (by decide) (fun T5 h5 S5 X5 E5 A5 D5 M5 sS5 sn5 => ?_)
    show Go _ _ _ _ (T5.setTop (mkF m 119 #[.val (.int p1), .val (.int p2), .val (.int p3), .val (.int p4), .val (.int p5), .val (.int (3 : Int32)), .val (.int y1), .val (.int y2), .val (.int y3), .val (.int y4), .unset, .unset] [(.ref h0.size)]))
    refine blk X5 hby b286 (pc' := 121) (Ls' := #[.val (.int p1), .val (.int p2), .val (.int p3), .val (.int p4), .val (.int p5), .val (.int (3 : Int32)), .val (.int y1), .val (.int y2), .val (.int y3), .val (.int y4), .unset, .unset]) (st' := [(.int (3 : Int32)), (.ref h0.size), (.ref h0.size)]) rfl ?_
    refine gNewA X5 hby (aty := .char) (hw _ (List.mem_of_getElem? (i := 8) rfl)) d_code_121 rfl (N := 3) (cap := 3) rfl (by decide) (by decide) (by decide) (by decide) (fun T6 h6 S6 X6 E6 V6 sS6 sn6 => ?_)
    show Go _ _ _ _ (T6.setTop (mkF m 123 #[.val (.int p1), .val (.int p2), .val (.int p3), .val (.int p4), .val (.int p5), .val (.int (3 : Int32)), .val (.int y1), .val (.int y2), .val (.int y3), .val (.int y4), .unset, .unset] [(.ref h5.size), (.ref h0.size), (.ref h0.size)]))
    have hA : Exa Z h6 h0.size "java/lang/String" := A5.ext E6
    have hF : Fld Z h6 h0.size "java/lang/String" "value" "[B" .null := (D5 (O := "java/lang/String") (nm := "value") (d := "[B") (Or.inr (hw _ (List.mem_of_getElem? (i := 21) rfl))) (ty := .array .byte) (by decide)).ext E6
    have hG : Fld Z h6 h0.size "java/lang/String" "coder" "B" (.int 0) := (D5 (O := "java/lang/String") (nm := "coder") (d := "B") (Or.inr (hw _ (List.mem_of_getElem? (i := 22) rfl))) (ty := .byte) (by decide)).ext E6
    have hK : Keep h0 h6 [] := ((Keep.refl h0 []).ext E5).ext E6
    have hs : S6 h0.size := sS6 _ sn5
    have gx : Z.heap.size ≤ h0.size := X4.old.2.1
    have ga : Z.heap.size ≤ h5.size := X5.old.2.1
    have na : h0.size ≠ h5.size := Nat.ne_of_lt A5.lt
    have hV : Ari Z h6 h5.size .char (List.replicate 3 0) := V6
    have hsa : S6 h5.size := sn6
    refine blk X6 hby b287 (pc' := 127) (Ls' := #[.val (.int p1), .val (.int p2), .val (.int p3), .val (.int p4), .val (.int p5), .val (.int (3 : Int32)), .val (.int y1), .val (.int y2), .val (.int y3), .val (.int y4), .unset, .unset]) (st' := [(.int y1), (.int (0 : Int32)), (.ref h5.size), (.ref h5.size), (.ref h0.size), (.ref h0.size)]) rfl ?_
    refine gSt X6 hby hV (Or.inr (Or.inl ⟨rfl, rfl⟩)) d_code_127 (i := 0) rfl (Nat.le_of_ble_eq_true rfl) (fits_nar_char _) ga hsa (fun T7 h7 S7 X7 W7 V7 sS7 => ?_)
    show Go _ _ _ _ (T7.setTop (mkF m 128 #[.val (.int p1), .val (.int p2), .val (.int p3), .val (.int p4), .val (.int p5), .val (.int (3 : Int32)), .val (.int y1), .val (.int y2), .val (.int y3), .val (.int y4), .unset, .unset] [(.ref h5.size), (.ref h0.size), (.ref h0.size)]))
    rw [nar_char hr1] at V7
    replace hV := V7; replace hA := hA.wr W7; replace hF := hF.other W7 (Or.inl na); replace hG := hG.other W7 (Or.inl na); replace hK := hK.wr W7 (Or.inr (Nat.le_of_lt A5.lt)); replace hs := sS7 _ hs; replace hsa := sS7 _ hsa
    refine blk X7 hby b288 (pc' := 132) (Ls' := #[.val (.int p1), .val (.int p2), .val (.int p3), .val (.int p4), .val (.int p5), .val (.int (3 : Int32)), .val (.int y1), .val (.int y2), .val (.int y3), .val (.int y4), .unset, .unset]) (st' := [(.int y2), (.int (1 : Int32)), (.ref h5.size), (.ref h5.size), (.ref h0.size), (.ref h0.size)]) rfl ?_
    refine gSt X7 hby hV (Or.inr (Or.inl ⟨rfl, rfl⟩)) d_code_132 (i := 1) rfl (Nat.le_of_ble_eq_true rfl) (fits_nar_char _) ga hsa (fun T8 h8 S8 X8 W8 V8 sS8 => ?_)
    show Go _ _ _ _ (T8.setTop (mkF m 133 #[.val (.int p1), .val (.int p2), .val (.int p3), .val (.int p4), .val (.int p5), .val (.int (3 : Int32)), .val (.int y1), .val (.int y2), .val (.int y3), .val (.int y4), .unset, .unset] [(.ref h5.size), (.ref h0.size), (.ref h0.size)]))
    rw [nar_char hr2] at V8
    replace hV := V8; replace hA := hA.wr W8; replace hF := hF.other W8 (Or.inl na); replace hG := hG.other W8 (Or.inl na); replace hK := hK.wr W8 (Or.inr (Nat.le_of_lt A5.lt)); replace hs := sS8 _ hs; replace hsa := sS8 _ hsa
    refine blk X8 hby b289 (pc' := 137) (Ls' := #[.val (.int p1), .val (.int p2), .val (.int p3), .val (.int p4), .val (.int p5), .val (.int (3 : Int32)), .val (.int y1), .val (.int y2), .val (.int y3), .val (.int y4), .unset, .unset]) (st' := [(.int y3), (.int (2 : Int32)), (.ref h5.size), (.ref h5.size), (.ref h0.size), (.ref h0.size)]) rfl ?_
    refine gSt X8 hby hV (Or.inr (Or.inl ⟨rfl, rfl⟩)) d_code_137 (i := 2) rfl (Nat.le_of_ble_eq_true rfl) (fits_nar_char _) ga hsa (fun T9 h9 S9 X9 W9 V9 sS9 => ?_)
    show Go _ _ _ _ (T9.setTop (mkF m 138 #[.val (.int p1), .val (.int p2), .val (.int p3), .val (.int p4), .val (.int p5), .val (.int (3 : Int32)), .val (.int y1), .val (.int y2), .val (.int y3), .val (.int y4), .unset, .unset] [(.ref h5.size), (.ref h0.size), (.ref h0.size)]))
    rw [nar_char hr3] at V9
    replace hV := V9; replace hA := hA.wr W9; replace hF := hF.other W9 (Or.inl na); replace hG := hG.other W9 (Or.inl na); replace hK := hK.wr W9 (Or.inr (Nat.le_of_lt A5.lt)); replace hs := sS9 _ hs; replace hsa := sS9 _ hsa
    replace hV : Ari Z h9 h5.size .char [y1, y2, y3] := hV
    refine gInit X9 hby (argsL := [(.ref h5.size)]) (st := [(.ref h0.size)]) (ct_init1 hw hEL X9.old U hA hF hG hV gx (Nat.le_of_ble_eq_true rfl)) rfl (hw _ (List.mem_of_getElem? (i := 9) rfl)) (hw _ (List.mem_of_getElem? (i := 10) rfl)) (hw _ (List.mem_of_getElem? (i := 7) rfl)) (hw _ (List.mem_of_getElem? (i := 11) rfl)) pd___C_V rfl d_code_138 rfl (by rw [hml]; rfl) (allS hs all0) (by decide) (Nat.le_of_ble_eq_true rfl) (by decide) (by decide) (fun v10 T10 h10 S10 X10 q10 sS10 sz10 => ?_)
    obtain ⟨rfl, q1, b, hx, hb⟩ := q10
    have hk := hK.trans q1 (fun y hy => Or.inr (by cases List.mem_singleton.mp hy; exact Nat.le_refl _))
    show Go _ _ _ _ (T10.setTop (mkF m 141 #[.val (.int p1), .val (.int p2), .val (.int p3), .val (.int p4), .val (.int p5), .val (.int (3 : Int32)), .val (.int y1), .val (.int y2), .val (.int y3), .val (.int y4), .unset, .unset] [(.ref h0.size)]))
    refine blk X10 hby b290 (pc' := 178) (Ls' := #[.val (.int p1), .val (.int p2), .val (.int p3), .val (.int p4), .val (.int p5), .val (.int (3 : Int32)), .val (.int y1), .val (.int y2), .val (.int y3), .val (.int y4), .val (.ref h0.size), .unset]) (st' := []) rfl ?_
    have tl : ∀ (T : State) (S : Addr → Prop) (ee : Int32), Sd true false Z a0 EL p l e room_1 s m #[(.int p1), (.int p2), (.int p3), (.int p4), (.int p5)] below meth c "com/example/ligature/ligature/http/HeadersIsTokenPinLaw" T h10 S 12 200 → isTok [y1, y2, y3] = ee → Go p e below (Pst true Z EL room_1.cells room_1.slots (QL) s) (T.setTop (mkF m 240 #[.val (.int p1), .val (.int p2), .val (.int p3), .val (.int p4), .val (.int p5), .val (.int (3 : Int32)), .val (.int y1), .val (.int y2), .val (.int y3), .val (.int y4), .val (.ref h0.size), .val (.int ee)] [])) := by
      intro T S ee X he
      refine blk X hby b291 (pc' := 242) (Ls' := #[.val (.int p1), .val (.int p2), .val (.int p3), .val (.int p4), .val (.int p5), .val (.int (3 : Int32)), .val (.int y1), .val (.int y2), .val (.int y3), .val (.int y4), .val (.ref h0.size), .val (.int ee)]) (st' := [(.ref h0.size)]) rfl ?_
      refine gStatic X hby (argsL := [(.ref h0.size)]) (st := []) (ct_tok hw hEL X.old U hFM hfm hx (Nat.le_of_ble_eq_true rfl)) (hw _ (List.mem_of_getElem? (i := 27) rfl)) (hw _ (List.mem_of_getElem? (i := 28) rfl)) (hw _ (List.mem_of_getElem? (i := 29) rfl)) (hw _ (List.mem_of_getElem? (i := 30) rfl)) pd__Ljava_lang_String__Z rfl d_code_242 rfl (by rw [hml]; rfl) all0 (by decide) (Nat.le_of_ble_eq_true rfl) (by decide) (by decide) (fun v51 T51 h51 S51 X51 q51 sS51 sz51 => ?_)
      obtain rfl := q51
      show Go _ _ _ _ (T51.setTop (mkF m 245 #[.val (.int p1), .val (.int p2), .val (.int p3), .val (.int p4), .val (.int p5), .val (.int (3 : Int32)), .val (.int y1), .val (.int y2), .val (.int y3), .val (.int y4), .val (.ref h0.size), .val (.int ee)] [(.int (isTok [y1, y2, y3]))]))
      refine blk X51 hby b292 (pc' := 247) (Ls' := #[.val (.int p1), .val (.int p2), .val (.int p3), .val (.int p4), .val (.int p5), .val (.int (3 : Int32)), .val (.int y1), .val (.int y2), .val (.int y3), .val (.int y4), .val (.ref h0.size), .val (.int ee)]) (st' := [(.int ee), (.int (isTok [y1, y2, y3]))]) rfl ?_
      refine brI X51 hby d_code_247 (pc1 := 254) (by decide) (fun hz => absurd (neT hz) (fun q => q he)) (fun hz => ?_)
      show Go _ _ _ _ (T51.setTop (mkF m 250 #[.val (.int p1), .val (.int p2), .val (.int p3), .val (.int p4), .val (.int p5), .val (.int (3 : Int32)), .val (.int y1), .val (.int y2), .val (.int y3), .val (.int y4), .val (.ref h0.size), .val (.int ee)] []))
      refine blk X51 hby b293 (pc' := 255) (Ls' := #[.val (.int p1), .val (.int p2), .val (.int p3), .val (.int p4), .val (.int p5), .val (.int (3 : Int32)), .val (.int y1), .val (.int y2), .val (.int y3), .val (.int y4), .val (.ref h0.size), .val (.int ee)]) (st' := [(.int (1 : Int32))]) rfl ?_
      exact retI' X51 hby hret d_code_255 rfl (fun S' hS' => rfl)
    refine blk X10 hby b294 (pc' := 180) (Ls' := #[.val (.int p1), .val (.int p2), .val (.int p3), .val (.int p4), .val (.int p5), .val (.int (3 : Int32)), .val (.int y1), .val (.int y2), .val (.int y3), .val (.int y4), .val (.ref h0.size), .unset]) (st' := [(.int (3 : Int32))]) rfl ?_
    refine br0 X10 hby d_code_180 (pc1 := 237) (by decide) (fun h0n => absurd (leT h0n) (fun q => q (by decide))) (fun h0n => ?_)
    show Go _ _ _ _ (T10.setTop (mkF m 183 #[.val (.int p1), .val (.int p2), .val (.int p3), .val (.int p4), .val (.int p5), .val (.int (3 : Int32)), .val (.int y1), .val (.int y2), .val (.int y3), .val (.int y4), .val (.ref h0.size), .unset] []))
    refine blk X10 hby b295 (pc' := 185) (Ls' := #[.val (.int p1), .val (.int p2), .val (.int p3), .val (.int p4), .val (.int p5), .val (.int (3 : Int32)), .val (.int y1), .val (.int y2), .val (.int y3), .val (.int y4), .val (.ref h0.size), .unset]) (st' := [(.int y1)]) rfl ?_
    refine gStatic X10 hby (argsL := [(.int y1)]) (st := []) (ct_tch hw hEL X10.old) (hw _ (List.mem_of_getElem? (i := 47) rfl)) (hw _ (List.mem_of_getElem? (i := 48) rfl)) (hw _ (List.mem_of_getElem? (i := 3) rfl)) (hw _ (List.mem_of_getElem? (i := 49) rfl)) pd__C_Z rfl d_code_185 rfl (by rw [hml]; rfl) all0 (by decide) (Nat.le_of_ble_eq_true rfl) (by decide) (by decide) (fun v11 T11 h11 S11 X11 q11 sS11 sz11 => ?_)
    obtain ⟨rfl, rfl⟩ := q11
    show Go _ _ _ _ (T11.setTop (mkF m 188 #[.val (.int p1), .val (.int p2), .val (.int p3), .val (.int p4), .val (.int p5), .val (.int (3 : Int32)), .val (.int y1), .val (.int y2), .val (.int y3), .val (.int y4), .val (.ref h0.size), .unset] [(.int (if tokB y1 = true then 1 else 0))]))
    refine br0 X11 hby d_code_188 (pc1 := 237) (by decide) (fun t1 => ?_) (fun t1 => ?_)
    · replace t1 := eqT t1
      show Go _ _ _ _ (T11.setTop (mkF m 237 #[.val (.int p1), .val (.int p2), .val (.int p3), .val (.int p4), .val (.int p5), .val (.int (3 : Int32)), .val (.int y1), .val (.int y2), .val (.int y3), .val (.int y4), .val (.ref h0.size), .unset] []))
      replace t1 := ite10.mp t1
      refine blk X11 hby b296 (pc' := 240) (Ls' := #[.val (.int p1), .val (.int p2), .val (.int p3), .val (.int p4), .val (.int p5), .val (.int (3 : Int32)), .val (.int y1), .val (.int y2), .val (.int y3), .val (.int y4), .val (.ref h0.size), .val (.int (0 : Int32))]) (st' := []) rfl ?_
      exact tl _ _ _ (X11.more (by decide) (by decide)) (isTok_no (i := 0) (Nat.le_of_ble_eq_true rfl) t1)
    · replace t1 := eqF t1
      show Go _ _ _ _ (T11.setTop (mkF m 191 #[.val (.int p1), .val (.int p2), .val (.int p3), .val (.int p4), .val (.int p5), .val (.int (3 : Int32)), .val (.int y1), .val (.int y2), .val (.int y3), .val (.int y4), .val (.ref h0.size), .unset] []))
      replace t1 : tokB y1 = true := by simpa using fun q => t1 (ite10.mpr q)
      refine blk X11 hby b297 (pc' := 194) (Ls' := #[.val (.int p1), .val (.int p2), .val (.int p3), .val (.int p4), .val (.int p5), .val (.int (3 : Int32)), .val (.int y1), .val (.int y2), .val (.int y3), .val (.int y4), .val (.ref h0.size), .unset]) (st' := [(.int (2 : Int32)), (.int (3 : Int32))]) rfl ?_
      refine brI X11 hby d_code_194 (pc1 := 205) (by decide) (fun h2n => absurd (ltT h2n) (by decide)) (fun h2n => ?_)
      show Go _ _ _ _ (T11.setTop (mkF m 197 #[.val (.int p1), .val (.int p2), .val (.int p3), .val (.int p4), .val (.int p5), .val (.int (3 : Int32)), .val (.int y1), .val (.int y2), .val (.int y3), .val (.int y4), .val (.ref h0.size), .unset] []))
      refine blk X11 hby b298 (pc' := 199) (Ls' := #[.val (.int p1), .val (.int p2), .val (.int p3), .val (.int p4), .val (.int p5), .val (.int (3 : Int32)), .val (.int y1), .val (.int y2), .val (.int y3), .val (.int y4), .val (.ref h0.size), .unset]) (st' := [(.int y2)]) rfl ?_
      refine gStatic X11 hby (argsL := [(.int y2)]) (st := []) (ct_tch hw hEL X11.old) (hw _ (List.mem_of_getElem? (i := 47) rfl)) (hw _ (List.mem_of_getElem? (i := 48) rfl)) (hw _ (List.mem_of_getElem? (i := 3) rfl)) (hw _ (List.mem_of_getElem? (i := 49) rfl)) pd__C_Z rfl d_code_199 rfl (by rw [hml]; rfl) all0 (by decide) (Nat.le_of_ble_eq_true rfl) (by decide) (by decide) (fun v12 T12 h12 S12 X12 q12 sS12 sz12 => ?_)
      obtain ⟨rfl, rfl⟩ := q12
      show Go _ _ _ _ (T12.setTop (mkF m 202 #[.val (.int p1), .val (.int p2), .val (.int p3), .val (.int p4), .val (.int p5), .val (.int (3 : Int32)), .val (.int y1), .val (.int y2), .val (.int y3), .val (.int y4), .val (.ref h0.size), .unset] [(.int (if tokB y2 = true then 1 else 0))]))
      refine br0 X12 hby d_code_202 (pc1 := 237) (by decide) (fun t2 => ?_) (fun t2 => ?_)
      · replace t2 := eqT t2
        show Go _ _ _ _ (T12.setTop (mkF m 237 #[.val (.int p1), .val (.int p2), .val (.int p3), .val (.int p4), .val (.int p5), .val (.int (3 : Int32)), .val (.int y1), .val (.int y2), .val (.int y3), .val (.int y4), .val (.ref h0.size), .unset] []))
        replace t2 := ite10.mp t2
        refine blk X12 hby b299 (pc' := 240) (Ls' := #[.val (.int p1), .val (.int p2), .val (.int p3), .val (.int p4), .val (.int p5), .val (.int (3 : Int32)), .val (.int y1), .val (.int y2), .val (.int y3), .val (.int y4), .val (.ref h0.size), .val (.int (0 : Int32))]) (st' := []) rfl ?_
        exact tl _ _ _ (X12.more (by decide) (by decide)) (isTok_no (i := 1) (Nat.le_of_ble_eq_true rfl) t2)
      · replace t2 := eqF t2
        show Go _ _ _ _ (T12.setTop (mkF m 205 #[.val (.int p1), .val (.int p2), .val (.int p3), .val (.int p4), .val (.int p5), .val (.int (3 : Int32)), .val (.int y1), .val (.int y2), .val (.int y3), .val (.int y4), .val (.ref h0.size), .unset] []))
        replace t2 : tokB y2 = true := by simpa using fun q => t2 (ite10.mpr q)
        refine blk X12 hby b300 (pc' := 208) (Ls' := #[.val (.int p1), .val (.int p2), .val (.int p3), .val (.int p4), .val (.int p5), .val (.int (3 : Int32)), .val (.int y1), .val (.int y2), .val (.int y3), .val (.int y4), .val (.ref h0.size), .unset]) (st' := [(.int (3 : Int32)), (.int (3 : Int32))]) rfl ?_
        refine brI X12 hby d_code_208 (pc1 := 219) (by decide) (fun h3n => absurd (ltT h3n) (by decide)) (fun h3n => ?_)
        show Go _ _ _ _ (T12.setTop (mkF m 211 #[.val (.int p1), .val (.int p2), .val (.int p3), .val (.int p4), .val (.int p5), .val (.int (3 : Int32)), .val (.int y1), .val (.int y2), .val (.int y3), .val (.int y4), .val (.ref h0.size), .unset] []))
        refine blk X12 hby b301 (pc' := 213) (Ls' := #[.val (.int p1), .val (.int p2), .val (.int p3), .val (.int p4), .val (.int p5), .val (.int (3 : Int32)), .val (.int y1), .val (.int y2), .val (.int y3), .val (.int y4), .val (.ref h0.size), .unset]) (st' := [(.int y3)]) rfl ?_
        refine gStatic X12 hby (argsL := [(.int y3)]) (st := []) (ct_tch hw hEL X12.old) (hw _ (List.mem_of_getElem? (i := 47) rfl)) (hw _ (List.mem_of_getElem? (i := 48) rfl)) (hw _ (List.mem_of_getElem? (i := 3) rfl)) (hw _ (List.mem_of_getElem? (i := 49) rfl)) pd__C_Z rfl d_code_213 rfl (by rw [hml]; rfl) all0 (by decide) (Nat.le_of_ble_eq_true rfl) (by decide) (by decide) (fun v13 T13 h13 S13 X13 q13 sS13 sz13 => ?_)
        obtain ⟨rfl, rfl⟩ := q13
        show Go _ _ _ _ (T13.setTop (mkF m 216 #[.val (.int p1), .val (.int p2), .val (.int p3), .val (.int p4), .val (.int p5), .val (.int (3 : Int32)), .val (.int y1), .val (.int y2), .val (.int y3), .val (.int y4), .val (.ref h0.size), .unset] [(.int (if tokB y3 = true then 1 else 0))]))
        refine br0 X13 hby d_code_216 (pc1 := 237) (by decide) (fun t3 => ?_) (fun t3 => ?_)
        · replace t3 := eqT t3
          show Go _ _ _ _ (T13.setTop (mkF m 237 #[.val (.int p1), .val (.int p2), .val (.int p3), .val (.int p4), .val (.int p5), .val (.int (3 : Int32)), .val (.int y1), .val (.int y2), .val (.int y3), .val (.int y4), .val (.ref h0.size), .unset] []))
          replace t3 := ite10.mp t3
          refine blk X13 hby b302 (pc' := 240) (Ls' := #[.val (.int p1), .val (.int p2), .val (.int p3), .val (.int p4), .val (.int p5), .val (.int (3 : Int32)), .val (.int y1), .val (.int y2), .val (.int y3), .val (.int y4), .val (.ref h0.size), .val (.int (0 : Int32))]) (st' := []) rfl ?_
          exact tl _ _ _ (X13.more (by decide) (by decide)) (isTok_no (i := 2) (Nat.le_of_ble_eq_true rfl) t3)
        · replace t3 := eqF t3
          show Go _ _ _ _ (T13.setTop (mkF m 219 #[.val (.int p1), .val (.int p2), .val (.int p3), .val (.int p4), .val (.int p5), .val (.int (3 : Int32)), .val (.int y1), .val (.int y2), .val (.int y3), .val (.int y4), .val (.ref h0.size), .unset] []))
          replace t3 : tokB y3 = true := by simpa using fun q => t3 (ite10.mpr q)
          refine blk X13 hby b303 (pc' := 222) (Ls' := #[.val (.int p1), .val (.int p2), .val (.int p3), .val (.int p4), .val (.int p5), .val (.int (3 : Int32)), .val (.int y1), .val (.int y2), .val (.int y3), .val (.int y4), .val (.ref h0.size), .unset]) (st' := [(.int (4 : Int32)), (.int (3 : Int32))]) rfl ?_
          refine brI X13 hby d_code_222 (pc1 := 233) (by decide) (fun h4n => ?_) (fun h4n => absurd (ltF h4n) (fun q => q (by decide)))
          show Go _ _ _ _ (T13.setTop (mkF m 233 #[.val (.int p1), .val (.int p2), .val (.int p3), .val (.int p4), .val (.int p5), .val (.int (3 : Int32)), .val (.int y1), .val (.int y2), .val (.int y3), .val (.int y4), .val (.ref h0.size), .unset] []))
          refine blk X13 hby b304 (pc' := 240) (Ls' := #[.val (.int p1), .val (.int p2), .val (.int p3), .val (.int p4), .val (.int p5), .val (.int (3 : Int32)), .val (.int y1), .val (.int y2), .val (.int y3), .val (.int y4), .val (.ref h0.size), .val (.int (1 : Int32))]) (st' := []) rfl ?_
          exact tl _ _ (1 : Int32) (X13.more (by decide) (by decide)) (by simp [isTok, t1, t2, t3])
  · rw [hq]
    show Go _ _ _ _ (T4.setTop (mkF m 33 #[.val (.int p1), .val (.int p2), .val (.int p3), .val (.int p4), .val (.int p5), .val (.int (4 : Int32)), .val (.int y1), .val (.int y2), .val (.int y3), .val (.int y4), .unset, .unset] []))
    refine blk X4 hby b305 (pc' := 35) (Ls' := #[.val (.int p1), .val (.int p2), .val (.int p3), .val (.int p4), .val (.int p5), .val (.int (4 : Int32)), .val (.int y1), .val (.int y2), .val (.int y3), .val (.int y4), .unset, .unset]) (st' := [(.int (4 : Int32))]) rfl ?_
    refine br0 X4 hby d_code_35 (pc1 := 53) (by decide) (fun hn => ?_) (fun hn => absurd (neF hn) (by decide))
    show Go _ _ _ _ (T4.setTop (mkF m 53 #[.val (.int p1), .val (.int p2), .val (.int p3), .val (.int p4), .val (.int p5), .val (.int (4 : Int32)), .val (.int y1), .val (.int y2), .val (.int y3), .val (.int y4), .unset, .unset] []))
    refine blk X4 hby b306 (pc' := 56) (Ls' := #[.val (.int p1), .val (.int p2), .val (.int p3), .val (.int p4), .val (.int p5), .val (.int (4 : Int32)), .val (.int y1), .val (.int y2), .val (.int y3), .val (.int y4), .unset, .unset]) (st' := [(.int (1 : Int32)), (.int (4 : Int32))]) rfl ?_
    refine brI X4 hby d_code_56 (pc1 := 79) (by decide) (fun hn => ?_) (fun hn => absurd (neF hn) (by decide))
    show Go _ _ _ _ (T4.setTop (mkF m 79 #[.val (.int p1), .val (.int p2), .val (.int p3), .val (.int p4), .val (.int p5), .val (.int (4 : Int32)), .val (.int y1), .val (.int y2), .val (.int y3), .val (.int y4), .unset, .unset] []))
    refine blk X4 hby b307 (pc' := 82) (Ls' := #[.val (.int p1), .val (.int p2), .val (.int p3), .val (.int p4), .val (.int p5), .val (.int (4 : Int32)), .val (.int y1), .val (.int y2), .val (.int y3), .val (.int y4), .unset, .unset]) (st' := [(.int (2 : Int32)), (.int (4 : Int32))]) rfl ?_
    refine brI X4 hby d_code_82 (pc1 := 110) (by decide) (fun hn => ?_) (fun hn => absurd (neF hn) (by decide))
    show Go _ _ _ _ (T4.setTop (mkF m 110 #[.val (.int p1), .val (.int p2), .val (.int p3), .val (.int p4), .val (.int p5), .val (.int (4 : Int32)), .val (.int y1), .val (.int y2), .val (.int y3), .val (.int y4), .unset, .unset] []))
    refine blk X4 hby b308 (pc' := 113) (Ls' := #[.val (.int p1), .val (.int p2), .val (.int p3), .val (.int p4), .val (.int p5), .val (.int (4 : Int32)), .val (.int y1), .val (.int y2), .val (.int y3), .val (.int y4), .unset, .unset]) (st' := [(.int (3 : Int32)), (.int (4 : Int32))]) rfl ?_
    refine brI X4 hby d_code_113 (pc1 := 146) (by decide) (fun hn => ?_) (fun hn => absurd (neF hn) (by decide))
    show Go _ _ _ _ (T4.setTop (mkF m 146 #[.val (.int p1), .val (.int p2), .val (.int p3), .val (.int p4), .val (.int p5), .val (.int (4 : Int32)), .val (.int y1), .val (.int y2), .val (.int y3), .val (.int y4), .unset, .unset] []))
    refine gNew X4 hby (hw _ (List.mem_of_getElem? (i := 5) rfl)) (hw _ (List.mem_of_getElem? (i := 6) rfl)) (hw _ (List.mem_of_getElem? (i := 7) rfl)) d_code_146 (by decide) (by decide) (fun T5 h5 S5 X5 E5 A5 D5 M5 sS5 sn5 => ?_)
    show Go _ _ _ _ (T5.setTop (mkF m 149 #[.val (.int p1), .val (.int p2), .val (.int p3), .val (.int p4), .val (.int p5), .val (.int (4 : Int32)), .val (.int y1), .val (.int y2), .val (.int y3), .val (.int y4), .unset, .unset] [(.ref h0.size)]))
    refine blk X5 hby b309 (pc' := 151) (Ls' := #[.val (.int p1), .val (.int p2), .val (.int p3), .val (.int p4), .val (.int p5), .val (.int (4 : Int32)), .val (.int y1), .val (.int y2), .val (.int y3), .val (.int y4), .unset, .unset]) (st' := [(.int (4 : Int32)), (.ref h0.size), (.ref h0.size)]) rfl ?_
    refine gNewA X5 hby (aty := .char) (hw _ (List.mem_of_getElem? (i := 8) rfl)) d_code_151 rfl (N := 4) (cap := 4) rfl (by decide) (by decide) (by decide) (by decide) (fun T6 h6 S6 X6 E6 V6 sS6 sn6 => ?_)
    show Go _ _ _ _ (T6.setTop (mkF m 153 #[.val (.int p1), .val (.int p2), .val (.int p3), .val (.int p4), .val (.int p5), .val (.int (4 : Int32)), .val (.int y1), .val (.int y2), .val (.int y3), .val (.int y4), .unset, .unset] [(.ref h5.size), (.ref h0.size), (.ref h0.size)]))
    have hA : Exa Z h6 h0.size "java/lang/String" := A5.ext E6
    have hF : Fld Z h6 h0.size "java/lang/String" "value" "[B" .null := (D5 (O := "java/lang/String") (nm := "value") (d := "[B") (Or.inr (hw _ (List.mem_of_getElem? (i := 21) rfl))) (ty := .array .byte) (by decide)).ext E6
    have hG : Fld Z h6 h0.size "java/lang/String" "coder" "B" (.int 0) := (D5 (O := "java/lang/String") (nm := "coder") (d := "B") (Or.inr (hw _ (List.mem_of_getElem? (i := 22) rfl))) (ty := .byte) (by decide)).ext E6
    have hK : Keep h0 h6 [] := ((Keep.refl h0 []).ext E5).ext E6
    have hs : S6 h0.size := sS6 _ sn5
    have gx : Z.heap.size ≤ h0.size := X4.old.2.1
    have ga : Z.heap.size ≤ h5.size := X5.old.2.1
    have na : h0.size ≠ h5.size := Nat.ne_of_lt A5.lt
    have hV : Ari Z h6 h5.size .char (List.replicate 4 0) := V6
    have hsa : S6 h5.size := sn6
    refine blk X6 hby b310 (pc' := 157) (Ls' := #[.val (.int p1), .val (.int p2), .val (.int p3), .val (.int p4), .val (.int p5), .val (.int (4 : Int32)), .val (.int y1), .val (.int y2), .val (.int y3), .val (.int y4), .unset, .unset]) (st' := [(.int y1), (.int (0 : Int32)), (.ref h5.size), (.ref h5.size), (.ref h0.size), (.ref h0.size)]) rfl ?_
    refine gSt X6 hby hV (Or.inr (Or.inl ⟨rfl, rfl⟩)) d_code_157 (i := 0) rfl (Nat.le_of_ble_eq_true rfl) (fits_nar_char _) ga hsa (fun T7 h7 S7 X7 W7 V7 sS7 => ?_)
    show Go _ _ _ _ (T7.setTop (mkF m 158 #[.val (.int p1), .val (.int p2), .val (.int p3), .val (.int p4), .val (.int p5), .val (.int (4 : Int32)), .val (.int y1), .val (.int y2), .val (.int y3), .val (.int y4), .unset, .unset] [(.ref h5.size), (.ref h0.size), (.ref h0.size)]))
    rw [nar_char hr1] at V7
    replace hV := V7; replace hA := hA.wr W7; replace hF := hF.other W7 (Or.inl na); replace hG := hG.other W7 (Or.inl na); replace hK := hK.wr W7 (Or.inr (Nat.le_of_lt A5.lt)); replace hs := sS7 _ hs; replace hsa := sS7 _ hsa
    refine blk X7 hby b311 (pc' := 162) (Ls' := #[.val (.int p1), .val (.int p2), .val (.int p3), .val (.int p4), .val (.int p5), .val (.int (4 : Int32)), .val (.int y1), .val (.int y2), .val (.int y3), .val (.int y4), .unset, .unset]) (st' := [(.int y2), (.int (1 : Int32)), (.ref h5.size), (.ref h5.size), (.ref h0.size), (.ref h0.size)]) rfl ?_
    refine gSt X7 hby hV (Or.inr (Or.inl ⟨rfl, rfl⟩)) d_code_162 (i := 1) rfl (Nat.le_of_ble_eq_true rfl) (fits_nar_char _) ga hsa (fun T8 h8 S8 X8 W8 V8 sS8 => ?_)
    show Go _ _ _ _ (T8.setTop (mkF m 163 #[.val (.int p1), .val (.int p2), .val (.int p3), .val (.int p4), .val (.int p5), .val (.int (4 : Int32)), .val (.int y1), .val (.int y2), .val (.int y3), .val (.int y4), .unset, .unset] [(.ref h5.size), (.ref h0.size), (.ref h0.size)]))
    rw [nar_char hr2] at V8
    replace hV := V8; replace hA := hA.wr W8; replace hF := hF.other W8 (Or.inl na); replace hG := hG.other W8 (Or.inl na); replace hK := hK.wr W8 (Or.inr (Nat.le_of_lt A5.lt)); replace hs := sS8 _ hs; replace hsa := sS8 _ hsa
    refine blk X8 hby b312 (pc' := 167) (Ls' := #[.val (.int p1), .val (.int p2), .val (.int p3), .val (.int p4), .val (.int p5), .val (.int (4 : Int32)), .val (.int y1), .val (.int y2), .val (.int y3), .val (.int y4), .unset, .unset]) (st' := [(.int y3), (.int (2 : Int32)), (.ref h5.size), (.ref h5.size), (.ref h0.size), (.ref h0.size)]) rfl ?_
    refine gSt X8 hby hV (Or.inr (Or.inl ⟨rfl, rfl⟩)) d_code_167 (i := 2) rfl (Nat.le_of_ble_eq_true rfl) (fits_nar_char _) ga hsa (fun T9 h9 S9 X9 W9 V9 sS9 => ?_)
    show Go _ _ _ _ (T9.setTop (mkF m 168 #[.val (.int p1), .val (.int p2), .val (.int p3), .val (.int p4), .val (.int p5), .val (.int (4 : Int32)), .val (.int y1), .val (.int y2), .val (.int y3), .val (.int y4), .unset, .unset] [(.ref h5.size), (.ref h0.size), (.ref h0.size)]))
    rw [nar_char hr3] at V9
    replace hV := V9; replace hA := hA.wr W9; replace hF := hF.other W9 (Or.inl na); replace hG := hG.other W9 (Or.inl na); replace hK := hK.wr W9 (Or.inr (Nat.le_of_lt A5.lt)); replace hs := sS9 _ hs; replace hsa := sS9 _ hsa
    refine blk X9 hby b313 (pc' := 172) (Ls' := #[.val (.int p1), .val (.int p2), .val (.int p3), .val (.int p4), .val (.int p5), .val (.int (4 : Int32)), .val (.int y1), .val (.int y2), .val (.int y3), .val (.int y4), .unset, .unset]) (st' := [(.int y4), (.int (3 : Int32)), (.ref h5.size), (.ref h5.size), (.ref h0.size), (.ref h0.size)]) rfl ?_
    refine gSt X9 hby hV (Or.inr (Or.inl ⟨rfl, rfl⟩)) d_code_172 (i := 3) rfl (Nat.le_of_ble_eq_true rfl) (fits_nar_char _) ga hsa (fun T10 h10 S10 X10 W10 V10 sS10 => ?_)
    show Go _ _ _ _ (T10.setTop (mkF m 173 #[.val (.int p1), .val (.int p2), .val (.int p3), .val (.int p4), .val (.int p5), .val (.int (4 : Int32)), .val (.int y1), .val (.int y2), .val (.int y3), .val (.int y4), .unset, .unset] [(.ref h5.size), (.ref h0.size), (.ref h0.size)]))
    rw [nar_char hr4] at V10
    replace hV := V10; replace hA := hA.wr W10; replace hF := hF.other W10 (Or.inl na); replace hG := hG.other W10 (Or.inl na); replace hK := hK.wr W10 (Or.inr (Nat.le_of_lt A5.lt)); replace hs := sS10 _ hs; replace hsa := sS10 _ hsa
    replace hV : Ari Z h10 h5.size .char [y1, y2, y3, y4] := hV
    refine gInit X10 hby (argsL := [(.ref h5.size)]) (st := [(.ref h0.size)]) (ct_init1 hw hEL X10.old U hA hF hG hV gx (Nat.le_of_ble_eq_true rfl)) rfl (hw _ (List.mem_of_getElem? (i := 9) rfl)) (hw _ (List.mem_of_getElem? (i := 10) rfl)) (hw _ (List.mem_of_getElem? (i := 7) rfl)) (hw _ (List.mem_of_getElem? (i := 11) rfl)) pd___C_V rfl d_code_173 rfl (by rw [hml]; rfl) (allS hs all0) (by decide) (Nat.le_of_ble_eq_true rfl) (by decide) (by decide) (fun v11 T11 h11 S11 X11 q11 sS11 sz11 => ?_)
    obtain ⟨rfl, q1, b, hx, hb⟩ := q11
    have hk := hK.trans q1 (fun y hy => Or.inr (by cases List.mem_singleton.mp hy; exact Nat.le_refl _))
    show Go _ _ _ _ (T11.setTop (mkF m 176 #[.val (.int p1), .val (.int p2), .val (.int p3), .val (.int p4), .val (.int p5), .val (.int (4 : Int32)), .val (.int y1), .val (.int y2), .val (.int y3), .val (.int y4), .unset, .unset] [(.ref h0.size)]))
    refine blk X11 hby b314 (pc' := 178) (Ls' := #[.val (.int p1), .val (.int p2), .val (.int p3), .val (.int p4), .val (.int p5), .val (.int (4 : Int32)), .val (.int y1), .val (.int y2), .val (.int y3), .val (.int y4), .val (.ref h0.size), .unset]) (st' := []) rfl ?_
    have tl : ∀ (T : State) (S : Addr → Prop) (ee : Int32), Sd true false Z a0 EL p l e room_1 s m #[(.int p1), (.int p2), (.int p3), (.int p4), (.int p5)] below meth c "com/example/ligature/ligature/http/HeadersIsTokenPinLaw" T h11 S 12 200 → isTok [y1, y2, y3, y4] = ee → Go p e below (Pst true Z EL room_1.cells room_1.slots (QL) s) (T.setTop (mkF m 240 #[.val (.int p1), .val (.int p2), .val (.int p3), .val (.int p4), .val (.int p5), .val (.int (4 : Int32)), .val (.int y1), .val (.int y2), .val (.int y3), .val (.int y4), .val (.ref h0.size), .val (.int ee)] [])) := by
      intro T S ee X he
      refine blk X hby b315 (pc' := 242) (Ls' := #[.val (.int p1), .val (.int p2), .val (.int p3), .val (.int p4), .val (.int p5), .val (.int (4 : Int32)), .val (.int y1), .val (.int y2), .val (.int y3), .val (.int y4), .val (.ref h0.size), .val (.int ee)]) (st' := [(.ref h0.size)]) rfl ?_
      refine gStatic X hby (argsL := [(.ref h0.size)]) (st := []) (ct_tok hw hEL X.old U hFM hfm hx (Nat.le_of_ble_eq_true rfl)) (hw _ (List.mem_of_getElem? (i := 27) rfl)) (hw _ (List.mem_of_getElem? (i := 28) rfl)) (hw _ (List.mem_of_getElem? (i := 29) rfl)) (hw _ (List.mem_of_getElem? (i := 30) rfl)) pd__Ljava_lang_String__Z rfl d_code_242 rfl (by rw [hml]; rfl) all0 (by decide) (Nat.le_of_ble_eq_true rfl) (by decide) (by decide) (fun v51 T51 h51 S51 X51 q51 sS51 sz51 => ?_)
      obtain rfl := q51
      show Go _ _ _ _ (T51.setTop (mkF m 245 #[.val (.int p1), .val (.int p2), .val (.int p3), .val (.int p4), .val (.int p5), .val (.int (4 : Int32)), .val (.int y1), .val (.int y2), .val (.int y3), .val (.int y4), .val (.ref h0.size), .val (.int ee)] [(.int (isTok [y1, y2, y3, y4]))]))
      refine blk X51 hby b316 (pc' := 247) (Ls' := #[.val (.int p1), .val (.int p2), .val (.int p3), .val (.int p4), .val (.int p5), .val (.int (4 : Int32)), .val (.int y1), .val (.int y2), .val (.int y3), .val (.int y4), .val (.ref h0.size), .val (.int ee)]) (st' := [(.int ee), (.int (isTok [y1, y2, y3, y4]))]) rfl ?_
      refine brI X51 hby d_code_247 (pc1 := 254) (by decide) (fun hz => absurd (neT hz) (fun q => q he)) (fun hz => ?_)
      show Go _ _ _ _ (T51.setTop (mkF m 250 #[.val (.int p1), .val (.int p2), .val (.int p3), .val (.int p4), .val (.int p5), .val (.int (4 : Int32)), .val (.int y1), .val (.int y2), .val (.int y3), .val (.int y4), .val (.ref h0.size), .val (.int ee)] []))
      refine blk X51 hby b317 (pc' := 255) (Ls' := #[.val (.int p1), .val (.int p2), .val (.int p3), .val (.int p4), .val (.int p5), .val (.int (4 : Int32)), .val (.int y1), .val (.int y2), .val (.int y3), .val (.int y4), .val (.ref h0.size), .val (.int ee)]) (st' := [(.int (1 : Int32))]) rfl ?_
      exact retI' X51 hby hret d_code_255 rfl (fun S' hS' => rfl)
    refine blk X11 hby b318 (pc' := 180) (Ls' := #[.val (.int p1), .val (.int p2), .val (.int p3), .val (.int p4), .val (.int p5), .val (.int (4 : Int32)), .val (.int y1), .val (.int y2), .val (.int y3), .val (.int y4), .val (.ref h0.size), .unset]) (st' := [(.int (4 : Int32))]) rfl ?_
    refine br0 X11 hby d_code_180 (pc1 := 237) (by decide) (fun h0n => absurd (leT h0n) (fun q => q (by decide))) (fun h0n => ?_)
    show Go _ _ _ _ (T11.setTop (mkF m 183 #[.val (.int p1), .val (.int p2), .val (.int p3), .val (.int p4), .val (.int p5), .val (.int (4 : Int32)), .val (.int y1), .val (.int y2), .val (.int y3), .val (.int y4), .val (.ref h0.size), .unset] []))
    refine blk X11 hby b319 (pc' := 185) (Ls' := #[.val (.int p1), .val (.int p2), .val (.int p3), .val (.int p4), .val (.int p5), .val (.int (4 : Int32)), .val (.int y1), .val (.int y2), .val (.int y3), .val (.int y4), .val (.ref h0.size), .unset]) (st' := [(.int y1)]) rfl ?_
    refine gStatic X11 hby (argsL := [(.int y1)]) (st := []) (ct_tch hw hEL X11.old) (hw _ (List.mem_of_getElem? (i := 47) rfl)) (hw _ (List.mem_of_getElem? (i := 48) rfl)) (hw _ (List.mem_of_getElem? (i := 3) rfl)) (hw _ (List.mem_of_getElem? (i := 49) rfl)) pd__C_Z rfl d_code_185 rfl (by rw [hml]; rfl) all0 (by decide) (Nat.le_of_ble_eq_true rfl) (by decide) (by decide) (fun v12 T12 h12 S12 X12 q12 sS12 sz12 => ?_)
    obtain ⟨rfl, rfl⟩ := q12
    show Go _ _ _ _ (T12.setTop (mkF m 188 #[.val (.int p1), .val (.int p2), .val (.int p3), .val (.int p4), .val (.int p5), .val (.int (4 : Int32)), .val (.int y1), .val (.int y2), .val (.int y3), .val (.int y4), .val (.ref h0.size), .unset] [(.int (if tokB y1 = true then 1 else 0))]))
    refine br0 X12 hby d_code_188 (pc1 := 237) (by decide) (fun t1 => ?_) (fun t1 => ?_)
    · replace t1 := eqT t1
      show Go _ _ _ _ (T12.setTop (mkF m 237 #[.val (.int p1), .val (.int p2), .val (.int p3), .val (.int p4), .val (.int p5), .val (.int (4 : Int32)), .val (.int y1), .val (.int y2), .val (.int y3), .val (.int y4), .val (.ref h0.size), .unset] []))
      replace t1 := ite10.mp t1
      refine blk X12 hby b320 (pc' := 240) (Ls' := #[.val (.int p1), .val (.int p2), .val (.int p3), .val (.int p4), .val (.int p5), .val (.int (4 : Int32)), .val (.int y1), .val (.int y2), .val (.int y3), .val (.int y4), .val (.ref h0.size), .val (.int (0 : Int32))]) (st' := []) rfl ?_
      exact tl _ _ _ (X12.more (by decide) (by decide)) (isTok_no (i := 0) (Nat.le_of_ble_eq_true rfl) t1)
    · replace t1 := eqF t1
      show Go _ _ _ _ (T12.setTop (mkF m 191 #[.val (.int p1), .val (.int p2), .val (.int p3), .val (.int p4), .val (.int p5), .val (.int (4 : Int32)), .val (.int y1), .val (.int y2), .val (.int y3), .val (.int y4), .val (.ref h0.size), .unset] []))
      replace t1 : tokB y1 = true := by simpa using fun q => t1 (ite10.mpr q)
      refine blk X12 hby b321 (pc' := 194) (Ls' := #[.val (.int p1), .val (.int p2), .val (.int p3), .val (.int p4), .val (.int p5), .val (.int (4 : Int32)), .val (.int y1), .val (.int y2), .val (.int y3), .val (.int y4), .val (.ref h0.size), .unset]) (st' := [(.int (2 : Int32)), (.int (4 : Int32))]) rfl ?_
      refine brI X12 hby d_code_194 (pc1 := 205) (by decide) (fun h2n => absurd (ltT h2n) (by decide)) (fun h2n => ?_)
      show Go _ _ _ _ (T12.setTop (mkF m 197 #[.val (.int p1), .val (.int p2), .val (.int p3), .val (.int p4), .val (.int p5), .val (.int (4 : Int32)), .val (.int y1), .val (.int y2), .val (.int y3), .val (.int y4), .val (.ref h0.size), .unset] []))
      refine blk X12 hby b322 (pc' := 199) (Ls' := #[.val (.int p1), .val (.int p2), .val (.int p3), .val (.int p4), .val (.int p5), .val (.int (4 : Int32)), .val (.int y1), .val (.int y2), .val (.int y3), .val (.int y4), .val (.ref h0.size), .unset]) (st' := [(.int y2)]) rfl ?_
      refine gStatic X12 hby (argsL := [(.int y2)]) (st := []) (ct_tch hw hEL X12.old) (hw _ (List.mem_of_getElem? (i := 47) rfl)) (hw _ (List.mem_of_getElem? (i := 48) rfl)) (hw _ (List.mem_of_getElem? (i := 3) rfl)) (hw _ (List.mem_of_getElem? (i := 49) rfl)) pd__C_Z rfl d_code_199 rfl (by rw [hml]; rfl) all0 (by decide) (Nat.le_of_ble_eq_true rfl) (by decide) (by decide) (fun v13 T13 h13 S13 X13 q13 sS13 sz13 => ?_)
      obtain ⟨rfl, rfl⟩ := q13
      show Go _ _ _ _ (T13.setTop (mkF m 202 #[.val (.int p1), .val (.int p2), .val (.int p3), .val (.int p4), .val (.int p5), .val (.int (4 : Int32)), .val (.int y1), .val (.int y2), .val (.int y3), .val (.int y4), .val (.ref h0.size), .unset] [(.int (if tokB y2 = true then 1 else 0))]))
      refine br0 X13 hby d_code_202 (pc1 := 237) (by decide) (fun t2 => ?_) (fun t2 => ?_)
      · replace t2 := eqT t2
        show Go _ _ _ _ (T13.setTop (mkF m 237 #[.val (.int p1), .val (.int p2), .val (.int p3), .val (.int p4), .val (.int p5), .val (.int (4 : Int32)), .val (.int y1), .val (.int y2), .val (.int y3), .val (.int y4), .val (.ref h0.size), .unset] []))
        replace t2 := ite10.mp t2
        refine blk X13 hby b323 (pc' := 240) (Ls' := #[.val (.int p1), .val (.int p2), .val (.int p3), .val (.int p4), .val (.int p5), .val (.int (4 : Int32)), .val (.int y1), .val (.int y2), .val (.int y3), .val (.int y4), .val (.ref h0.size), .val (.int (0 : Int32))]) (st' := []) rfl ?_
        exact tl _ _ _ (X13.more (by decide) (by decide)) (isTok_no (i := 1) (Nat.le_of_ble_eq_true rfl) t2)
      · replace t2 := eqF t2
        show Go _ _ _ _ (T13.setTop (mkF m 205 #[.val (.int p1), .val (.int p2), .val (.int p3), .val (.int p4), .val (.int p5), .val (.int (4 : Int32)), .val (.int y1), .val (.int y2), .val (.int y3), .val (.int y4), .val (.ref h0.size), .unset] []))
        replace t2 : tokB y2 = true := by simpa using fun q => t2 (ite10.mpr q)
        refine blk X13 hby b324 (pc' := 208) (Ls' := #[.val (.int p1), .val (.int p2), .val (.int p3), .val (.int p4), .val (.int p5), .val (.int (4 : Int32)), .val (.int y1), .val (.int y2), .val (.int y3), .val (.int y4), .val (.ref h0.size), .unset]) (st' := [(.int (3 : Int32)), (.int (4 : Int32))]) rfl ?_
        refine brI X13 hby d_code_208 (pc1 := 219) (by decide) (fun h3n => absurd (ltT h3n) (by decide)) (fun h3n => ?_)
        show Go _ _ _ _ (T13.setTop (mkF m 211 #[.val (.int p1), .val (.int p2), .val (.int p3), .val (.int p4), .val (.int p5), .val (.int (4 : Int32)), .val (.int y1), .val (.int y2), .val (.int y3), .val (.int y4), .val (.ref h0.size), .unset] []))
        refine blk X13 hby b325 (pc' := 213) (Ls' := #[.val (.int p1), .val (.int p2), .val (.int p3), .val (.int p4), .val (.int p5), .val (.int (4 : Int32)), .val (.int y1), .val (.int y2), .val (.int y3), .val (.int y4), .val (.ref h0.size), .unset]) (st' := [(.int y3)]) rfl ?_
        refine gStatic X13 hby (argsL := [(.int y3)]) (st := []) (ct_tch hw hEL X13.old) (hw _ (List.mem_of_getElem? (i := 47) rfl)) (hw _ (List.mem_of_getElem? (i := 48) rfl)) (hw _ (List.mem_of_getElem? (i := 3) rfl)) (hw _ (List.mem_of_getElem? (i := 49) rfl)) pd__C_Z rfl d_code_213 rfl (by rw [hml]; rfl) all0 (by decide) (Nat.le_of_ble_eq_true rfl) (by decide) (by decide) (fun v14 T14 h14 S14 X14 q14 sS14 sz14 => ?_)
        obtain ⟨rfl, rfl⟩ := q14
        show Go _ _ _ _ (T14.setTop (mkF m 216 #[.val (.int p1), .val (.int p2), .val (.int p3), .val (.int p4), .val (.int p5), .val (.int (4 : Int32)), .val (.int y1), .val (.int y2), .val (.int y3), .val (.int y4), .val (.ref h0.size), .unset] [(.int (if tokB y3 = true then 1 else 0))]))
        refine br0 X14 hby d_code_216 (pc1 := 237) (by decide) (fun t3 => ?_) (fun t3 => ?_)
        · replace t3 := eqT t3
          show Go _ _ _ _ (T14.setTop (mkF m 237 #[.val (.int p1), .val (.int p2), .val (.int p3), .val (.int p4), .val (.int p5), .val (.int (4 : Int32)), .val (.int y1), .val (.int y2), .val (.int y3), .val (.int y4), .val (.ref h0.size), .unset] []))
          replace t3 := ite10.mp t3
          refine blk X14 hby b326 (pc' := 240) (Ls' := #[.val (.int p1), .val (.int p2), .val (.int p3), .val (.int p4), .val (.int p5), .val (.int (4 : Int32)), .val (.int y1), .val (.int y2), .val (.int y3), .val (.int y4), .val (.ref h0.size), .val (.int (0 : Int32))]) (st' := []) rfl ?_
          exact tl _ _ _ (X14.more (by decide) (by decide)) (isTok_no (i := 2) (Nat.le_of_ble_eq_true rfl) t3)
        · replace t3 := eqF t3
          show Go _ _ _ _ (T14.setTop (mkF m 219 #[.val (.int p1), .val (.int p2), .val (.int p3), .val (.int p4), .val (.int p5), .val (.int (4 : Int32)), .val (.int y1), .val (.int y2), .val (.int y3), .val (.int y4), .val (.ref h0.size), .unset] []))
          replace t3 : tokB y3 = true := by simpa using fun q => t3 (ite10.mpr q)
          refine blk X14 hby b327 (pc' := 222) (Ls' := #[.val (.int p1), .val (.int p2), .val (.int p3), .val (.int p4), .val (.int p5), .val (.int (4 : Int32)), .val (.int y1), .val (.int y2), .val (.int y3), .val (.int y4), .val (.ref h0.size), .unset]) (st' := [(.int (4 : Int32)), (.int (4 : Int32))]) rfl ?_
          refine brI X14 hby d_code_222 (pc1 := 233) (by decide) (fun h4n => absurd (ltT h4n) (by decide)) (fun h4n => ?_)
          show Go _ _ _ _ (T14.setTop (mkF m 225 #[.val (.int p1), .val (.int p2), .val (.int p3), .val (.int p4), .val (.int p5), .val (.int (4 : Int32)), .val (.int y1), .val (.int y2), .val (.int y3), .val (.int y4), .val (.ref h0.size), .unset] []))
          refine blk X14 hby b328 (pc' := 227) (Ls' := #[.val (.int p1), .val (.int p2), .val (.int p3), .val (.int p4), .val (.int p5), .val (.int (4 : Int32)), .val (.int y1), .val (.int y2), .val (.int y3), .val (.int y4), .val (.ref h0.size), .unset]) (st' := [(.int y4)]) rfl ?_
          refine gStatic X14 hby (argsL := [(.int y4)]) (st := []) (ct_tch hw hEL X14.old) (hw _ (List.mem_of_getElem? (i := 47) rfl)) (hw _ (List.mem_of_getElem? (i := 48) rfl)) (hw _ (List.mem_of_getElem? (i := 3) rfl)) (hw _ (List.mem_of_getElem? (i := 49) rfl)) pd__C_Z rfl d_code_227 rfl (by rw [hml]; rfl) all0 (by decide) (Nat.le_of_ble_eq_true rfl) (by decide) (by decide) (fun v15 T15 h15 S15 X15 q15 sS15 sz15 => ?_)
          obtain ⟨rfl, rfl⟩ := q15
          show Go _ _ _ _ (T15.setTop (mkF m 230 #[.val (.int p1), .val (.int p2), .val (.int p3), .val (.int p4), .val (.int p5), .val (.int (4 : Int32)), .val (.int y1), .val (.int y2), .val (.int y3), .val (.int y4), .val (.ref h0.size), .unset] [(.int (if tokB y4 = true then 1 else 0))]))
          refine br0 X15 hby d_code_230 (pc1 := 237) (by decide) (fun t4 => ?_) (fun t4 => ?_)
          · replace t4 := eqT t4
            show Go _ _ _ _ (T15.setTop (mkF m 237 #[.val (.int p1), .val (.int p2), .val (.int p3), .val (.int p4), .val (.int p5), .val (.int (4 : Int32)), .val (.int y1), .val (.int y2), .val (.int y3), .val (.int y4), .val (.ref h0.size), .unset] []))
            replace t4 := ite10.mp t4
            refine blk X15 hby b329 (pc' := 240) (Ls' := #[.val (.int p1), .val (.int p2), .val (.int p3), .val (.int p4), .val (.int p5), .val (.int (4 : Int32)), .val (.int y1), .val (.int y2), .val (.int y3), .val (.int y4), .val (.ref h0.size), .val (.int (0 : Int32))]) (st' := []) rfl ?_
            exact tl _ _ _ (X15.more (by decide) (by decide)) (isTok_no (i := 3) (Nat.le_of_ble_eq_true rfl) t4)
          · replace t4 := eqF t4
            show Go _ _ _ _ (T15.setTop (mkF m 233 #[.val (.int p1), .val (.int p2), .val (.int p3), .val (.int p4), .val (.int p5), .val (.int (4 : Int32)), .val (.int y1), .val (.int y2), .val (.int y3), .val (.int y4), .val (.ref h0.size), .unset] []))
            replace t4 : tokB y4 = true := by simpa using fun q => t4 (ite10.mpr q)
            refine blk X15 hby b330 (pc' := 240) (Ls' := #[.val (.int p1), .val (.int p2), .val (.int p3), .val (.int p4), .val (.int p5), .val (.int (4 : Int32)), .val (.int y1), .val (.int y2), .val (.int y3), .val (.int y4), .val (.ref h0.size), .val (.int (1 : Int32))]) (st' := []) rfl ?_
            exact tl _ _ (1 : Int32) (X15.more (by decide) (by decide)) (by simp [isTok, t1, t2, t3, t4])
set_option maxRecDepth 65536 in
set_option maxHeartbeats 40000000 in
theorem comes_1 {Post : Tables → Env → Array Value → State → Outcome → State → Prop} (hpost : ∀ tb e args s v u, (limb_1_1.after args s (.returned v) u = true ∧ limb_1_2.after args s (.returned v) u = true ∧ True) → FramedW s (.returned v) u (Jvm.fieldLocs frame_1_writes args s ++ Jvm.arrayLocs frame_1_arrays args s ++ Jvm.staticLocs frame_1_statics s) 24 2176 → Post tb e args s (.returned v) u) :
    ArmFor flags0 classFile x code maxLocals ret World_1 tables_1 room_1 Calls_1 rest_1 Pre_1 Post := by
  intro l hfl _ _ p e ha hc hk s m args below hf hA hF happ hP
  obtain ⟨⟨hck, -⟩, hrest, hpre⟩ := hP
  obtain ⟨-, -, -, hnamed, -, -, -, hat⟩ := (Spec.applies_iff hf).mp happ
  obtain ⟨hg, hn⟩ := and_e (Cond.before_iff.mp (show (Jvm.Cond.and given_1 narrow_1).before args s = true from hpre))
  obtain ⟨h1, g1⟩ := and_e hg
  obtain ⟨a0, g2⟩ := and_e g1
  obtain ⟨a1, g3⟩ := and_e g2
  obtain ⟨a2, g4⟩ := and_e g3
  obtain ⟨a3, g5⟩ := and_e g4
  have a4 := g5
  obtain ⟨w0, w1, w2, w3, w4, rfl⟩ : ∃ w0 w1 w2 w3 w4 : Value, args = #[w0, w1, w2, w3, w4] := by
    have hs : args.size = 5 := by simpa [Cond.value, given_1] using h1
    obtain ⟨L⟩ := args
    match L, hs with
    | [w0, w1, w2, w3, w4], _ => exact ⟨w0, w1, w2, w3, w4, rfl⟩
  have hw := fun d (hd : d ∈ tables_1) => atoms_spec (ws := Jvm.Cond.code x code maxLocals ret :: tables_1) hat d (List.mem_cons_of_mem _ hd)
  obtain ⟨i0, e0⟩ := is_v a0
  obtain rfl : w0 = (.int i0) := Option.some.inj e0
  obtain ⟨i1, e1⟩ := is_v a1
  obtain rfl : w1 = (.int i1) := Option.some.inj e1
  obtain ⟨i2, e2⟩ := is_v a2
  obtain rfl : w2 = (.int i2) := Option.some.inj e2
  obtain ⟨i3, e3⟩ := is_v a3
  obtain rfl : w3 = (.int i3) := Option.some.inj e3
  obtain ⟨i4, e4⟩ := is_v a4
  obtain rfl : w4 = (.int i4) := Option.some.inj e4
  obtain ⟨hsets, -⟩ := atoms_of _ (rest_1_c_eq ▸ (show rest_1_c.before _ s = true from hrest))
  obtain ⟨zc, ezc⟩ := is_v (Cond.before_iff.mp (hsets _ (List.mem_of_getElem? (i := 1) rfl)))
  have hCS := Sta.start ezc (Or.inl (hsets _ (List.mem_of_getElem? (i := 0) rfl)))
  have hzc : ¬ zc = 0 := fun q => gotF (Cond.eq_ints ezc (Term.int_eval (0))) (not_v (Cond.before_iff.mp (hsets _ (List.mem_of_getElem? (i := 2) rfl)))) q
  have hAD := Sta.start (eqI_v (Cond.before_iff.mp (hsets _ (List.mem_of_getElem? (i := 12) rfl)))) (Or.inl (hsets _ (List.mem_of_getElem? (i := 11) rfl)))
  have hHI := Sta.start (eqI_v (Cond.before_iff.mp (hsets _ (List.mem_of_getElem? (i := 15) rfl)))) (Or.inl (hsets _ (List.mem_of_getElem? (i := 14) rfl)))
  have hLO := Sta.start (eqI_v (Cond.before_iff.mp (hsets _ (List.mem_of_getElem? (i := 18) rfl)))) (Or.inl (hsets _ (List.mem_of_getElem? (i := 17) rfl)))
  have U : US s zc := ⟨hCS, hzc, hAD, hHI, hLO⟩
  obtain ⟨fm, efm, hfm⟩ := ref_v (Cond.before_iff.mp (hsets _ (List.mem_of_getElem? (i := 8) rfl)))
  have hFM := Sta.start efm (Or.inl (hsets _ (List.mem_of_getElem? (i := 7) rfl)))
  have hEL : EW s #[.int i0, .int i1, .int i2, .int i3, .int i4] EL := (EW.cons (hw _ (List.mem_of_getElem? (i := 82) rfl)) (by decide) (EW.cons (hw _ (List.mem_of_getElem? (i := 19) rfl)) (by decide) EW.nil))
  have hch : CHv s EL s.vm s.heap := CHv.start hEL hck (hsets _ (List.mem_of_getElem? (i := 2) rfl)) (hw _ (List.mem_of_getElem? (i := 20) rfl)) (hw _ (List.mem_of_getElem? (i := 6) rfl))
  obtain ⟨n, o, r1, r2, r3, v, L, rfl, rfl, N, -, -, hE⟩ := ct_law (Z := s) (l := l) (h0 := s.heap) hw hEL (Old.start s) U hFM hfm p e ha hc hk s m _ below hf ((Spec.applies_iff_loose hf).mp happ).1 ⟨rfl, State.Warmed39.refl s, rfl, hch, fun x hx => nomatch hx⟩ trivial
  refine ⟨n, _, r1, r2, r3, hpost _ _ _ _ _ _ ⟨Cond.after_iff.mpr rfl, Cond.after_iff.mpr (eq_i res_at (Term.int_eval (1)) rfl), trivial⟩ ⟨hE.1, hE.2.1, hE.2.2.1, (hE.2.2.2.sift fun y hy => Or.inr (N y hy)).mono (by decide) (by decide)⟩⟩
theorem main_1_1 : Claimed_1_1 := comes_1 fun _ _ _ _ _ _ h hF => ⟨h.1, hF⟩
theorem main_1_2 : Claimed_1_2 := comes_1 fun _ _ _ _ _ _ h hF => ⟨h.2.1, hF⟩
end Jvm.Pilot.@@N@@
namespace Jvm.Pilot.@@N@@
open Jvm Jvm.ClassFile Sem Op Lib Jvm.Free Jvm.Stand Jvm.Pilot.@@N@@.Jvm.D
/-! MADE BY PROGRAM (witnessworld.py) out of the Statement's table words and the real class files: 21 classes; the members and pool entries that the words name. The judged class is class 1, her method 1. -/
namespace start1
open Jvm.ClassFile
def u (s : String) : CpInfo := .utf8 (stringToUtf16 s)
/-- a pool by its gaps: so many unusable entries, then the entry; so many at the end -/
def gap : Nat → List CpInfo → List CpInfo
  | 0, r => r
  | n + 1, r => .unusable :: gap n r
def poolList (es : List (Nat × CpInfo)) (last : Nat) : List CpInfo := es.foldr (fun e r => gap e.1 (e.2 :: r)) (gap last [])
def pool (es : List (Nat × CpInfo)) (last : Nat) : Array CpInfo := ⟨poolList es last⟩
def fileOf (pool : Array CpInfo) (this : Nat) (attrs : Array Attribute := #[]) (ms : Array MethodInfo := #[]) (fl : Nat := 33) (sup : Nat := 0) (ifs : Array Nat := #[]) (fds : Array FieldInfo := #[]) : ClassFile where
  minorVersion := 0
  majorVersion := 65
  constantPool := pool
  accessFlags := fl
  thisClass := this
  superClass := sup
  interfaces := ifs
  fields := fds
  methods := ms
  attributes := attrs
def plain (name : String) (sup : Option ClassId) : Class where
  name := name
  kind := .ordinary
  loader := none
  accessFlags := 33
  super := sup
  interfaces := #[]
  cf := none
  fields := #[]
  methods := #[]
  instanceTypes := #[]
  staticTypes := #[]
  resolved := #[]
  callSites := []
  init := .initialized
  statics := none
  mirror := none

def pool0 : Array CpInfo := pool [(5, u "<init>"), (0, u "()V"), (1, .class_ 10), (1, u "java/lang/Object")] 113

def k0c0 : Code := { maxStack := 0, maxLocals := 1, code := object_method_1_code, exceptionTable := #[], attributes := #[] }
def k0m0 : Method := { name := "<init>", desc := "()V", sig := { parameters := [], returnType := none }, accessFlags := 1, code := some k0c0 }
/-- java/lang/Object -/
def k0 : Class := { plain "java/lang/Object" none with
  accessFlags := 33
  interfaces := #[]
  cf := some (fileOf pool0 8 #[] #[{ accessFlags := 1, nameIndex := 5, descriptorIndex := 6, attributes := #[] }] 33 0 #[] #[])
  fields := #[]
  methods := #[k0m0]
  instanceTypes := #[]
  staticTypes := #[]
  resolved := Array.replicate 124 none
  statics := none }

def pool1 : Array CpInfo := pool [(2, .class_ 4), (1, u "java/lang/Object"), (0, u "<init>"), (0, u "()V"), (0, .integer 2147483647), (0, .methodref 9 10), (0, .class_ 11), (0, .nameAndType 12 13), (0, u "com/example/ligature/ligature/http/HeadersIsTokenPinLaw"), (0, u "draw"), (0, u "(I)C"), (0, .class_ 15), (0, u "java/lang/String"), (0, .methodref 14 17), (0, .nameAndType 5 18), (0, u "([C)V"), (0, .methodref 9 20), (0, .nameAndType 21 22), (0, u "tchar"), (0, u "(C)Z"), (0, .methodref 24 25), (0, .class_ 26), (0, .nameAndType 27 28), (0, u "com/example/ligature/ligature/http/Headers"), (0, u "isToken"), (0, u "(Ljava/lang/String;)Z"), (2, u "law"), (0, u "(IIIII)Z")] 3

def k1m0 : Method := { name := "<init>", desc := "()V", sig := { parameters := [], returnType := none }, accessFlags := 1, code := none }
def k1c1 : Code := { maxStack := 6, maxLocals := 12, code := code, exceptionTable := #[], attributes := #[] }
def k1m1 : Method := { name := "law", desc := "(IIIII)Z", sig := { parameters := [.int, .int, .int, .int, .int], returnType := some .boolean }, accessFlags := 9, code := some k1c1 }
def k1c2 : Code := { maxStack := 2, maxLocals := 1, code := method_3_code, exceptionTable := #[], attributes := #[] }
def k1m2 : Method := { name := "draw", desc := "(I)C", sig := { parameters := [.int], returnType := some .char }, accessFlags := 10, code := some k1c2 }
def k1c3 : Code := { maxStack := 2, maxLocals := 2, code := method_4_code, exceptionTable := #[], attributes := #[] }
def k1m3 : Method := { name := "tchar", desc := "(C)Z", sig := { parameters := [.char], returnType := some .boolean }, accessFlags := 10, code := some k1c3 }
/-- com/example/ligature/ligature/http/HeadersIsTokenPinLaw -/
def k1 : Class := { plain "com/example/ligature/ligature/http/HeadersIsTokenPinLaw" (some 0) with
  accessFlags := 49
  interfaces := #[]
  cf := some (fileOf pool1 9 #[] #[{ accessFlags := 1, nameIndex := 5, descriptorIndex := 6, attributes := #[] }, { accessFlags := 9, nameIndex := 31, descriptorIndex := 32, attributes := #[] }, { accessFlags := 10, nameIndex := 12, descriptorIndex := 13, attributes := #[] }, { accessFlags := 10, nameIndex := 21, descriptorIndex := 22, attributes := #[] }] 49 2 #[] #[])
  fields := #[]
  methods := #[k1m0, k1m1, k1m2, k1m3]
  instanceTypes := #[]
  staticTypes := #[]
  resolved := Array.replicate 36 none
  statics := none }

def pool2 : Array CpInfo := pool [(1, .class_ 2), (0, u "java/io/Serializable"), (0, .class_ 4), (0, u "java/lang/Object")] 2

/-- java/io/Serializable -/
def k2 : Class := { plain "java/io/Serializable" (some 0) with
  accessFlags := 1537
  interfaces := #[]
  cf := some (fileOf pool2 1 #[] #[] 1537 3 #[] #[])
  fields := #[]
  methods := #[]
  instanceTypes := #[]
  staticTypes := #[]
  resolved := Array.replicate 7 none
  statics := none }

def pool3 : Array CpInfo := pool [(1, .class_ 2), (0, u "java/lang/Comparable"), (0, .class_ 4), (0, u "java/lang/Object")] 7

/-- java/lang/Comparable -/
def k3 : Class := { plain "java/lang/Comparable" (some 0) with
  accessFlags := 1537
  interfaces := #[]
  cf := some (fileOf pool3 1 #[] #[] 1537 3 #[] #[])
  fields := #[]
  methods := #[]
  instanceTypes := #[]
  staticTypes := #[]
  resolved := Array.replicate 12 none
  statics := none }

def pool4 : Array CpInfo := pool [(2, .class_ 4), (1, u "java/lang/CharSequence"), (42, .class_ 48), (0, u "java/lang/CharSequence$1CodePointIterator"), (10, .class_ 60), (0, u "java/lang/CharSequence$1CharIterator"), (5, .class_ 67), (0, u "java/lang/Object")] 63

/-- java/lang/CharSequence -/
def k4 : Class := { plain "java/lang/CharSequence" (some 0) with
  accessFlags := 1537
  interfaces := #[]
  cf := some (fileOf pool4 2 #[.nestMembers #[47, 59]] #[] 1537 66 #[] #[])
  fields := #[]
  methods := #[]
  instanceTypes := #[]
  staticTypes := #[]
  resolved := Array.replicate 131 none
  statics := none }

def pool5 : Array CpInfo := pool [(1, .class_ 2), (0, u "java/lang/constant/Constable"), (0, .class_ 4), (0, u "java/lang/Object")] 6

/-- java/lang/constant/Constable -/
def k5 : Class := { plain "java/lang/constant/Constable" (some 0) with
  accessFlags := 1537
  interfaces := #[]
  cf := some (fileOf pool5 1 #[] #[] 1537 3 #[] #[])
  fields := #[]
  methods := #[]
  instanceTypes := #[]
  staticTypes := #[]
  resolved := Array.replicate 11 none
  statics := none }

def pool6 : Array CpInfo := pool [(1, .class_ 2), (0, u "java/lang/constant/ConstantDesc"), (0, .class_ 4), (0, u "java/lang/Object")] 32

/-- java/lang/constant/ConstantDesc -/
def k6 : Class := { plain "java/lang/constant/ConstantDesc" (some 0) with
  accessFlags := 1537
  interfaces := #[]
  cf := some (fileOf pool6 1 #[] #[] 1537 3 #[] #[])
  fields := #[]
  methods := #[]
  instanceTypes := #[]
  staticTypes := #[]
  resolved := Array.replicate 37 none
  statics := none }

def pool7 : Array CpInfo := pool [(1, .methodref 2 3), (0, .class_ 4), (0, .nameAndType 5 6), (0, u "java/lang/Object"), (0, u "<init>"), (0, u "()V"), (0, .string 8), (0, u ""), (0, .fieldref 10 11), (0, .class_ 12), (0, .nameAndType 13 14), (0, u "java/lang/String"), (0, u "value"), (0, u "[B"), (0, .fieldref 10 16), (0, .nameAndType 17 18), (0, u "coder"), (0, u "B"), (2, u "hash"), (0, u "I"), (2, u "hashIsZero"), (0, u "Z"), (0, .methodref 10 28), (0, .nameAndType 5 29), (0, u "([CIILjava/lang/Void;)V"), (8, .fieldref 10 39), (0, .nameAndType 40 26), (0, u "COMPACT_STRINGS"), (1, .class_ 44), (1, u "java/lang/StringUTF16"), (0, u "compress"), (1, .methodref 42 48), (0, .nameAndType 49 50), (0, u "coderFromArrayLen"), (0, u "([BI)B"), (56, .class_ 109), (1, u "java/lang/StringLatin1"), (32, u "()Z"), (34, .methodref 42 178), (0, .nameAndType 45 179), (0, u "([CII)[B"), (154, u "()I"), (0, .methodref 10 336), (0, .nameAndType 17 337), (0, u "()B"), (25, u "([BI)C"), (27, u "(II)V"), (35, u "(I)C"), (64, .methodref 10 493), (0, .nameAndType 494 142), (0, u "isLatin1"), (0, .methodref 107 496), (0, .nameAndType 497 363), (0, u "charAt"), (0, .methodref 42 496), (2, u "checkIndex"), (3, .methodref 10 506), (0, .nameAndType 507 334), (0, u "length"), (67, .class_ 576), (0, u "java/lang/CharSequence"), (22, u "CASE_INSENSITIVE_ORDER"), (0, u "Ljava/util/Comparator;"), (32, .methodref 10 634), (0, .nameAndType 635 636), (0, u "indexOf"), (0, u "(II)I"), (0, .methodref 107 638), (0, .nameAndType 635 639), (0, u "([BIII)I"), (52, u "isEmpty"), (72, u "(I)I"), (244, u "([C)V"), (42, .fieldref 1054 1055), (0, .class_ 1056), (0, .nameAndType 1057 1058), (0, u "jdk/internal/util/Preconditions"), (0, u "SIOOBE_FORMATTER"), (0, u "Ljava/util/function/BiFunction;"), (0, .methodref 1054 1060), (0, .nameAndType 501 1061), (0, u "(IILjava/util/function/BiFunction;)I"), (39, u "serialPersistentFields"), (0, u "[Ljava/io/ObjectStreamField;"), (0, .class_ 1104), (0, u "java/lang/String$CaseInsensitiveComparator"), (1, .class_ 1107), (0, u "java/io/Serializable"), (0, .class_ 1109), (0, u "java/lang/Comparable"), (0, .class_ 1111), (0, u "java/lang/constant/Constable"), (0, .class_ 1113), (0, u "java/lang/constant/ConstantDesc"), (2, u "serialVersionUID"), (0, u "J"), (3, u "REPL"), (0, u "C"), (2, u "LATIN1"), (1, u "UTF16")] 323

def k7m0 : Method := { name := "<init>", desc := "()V", sig := { parameters := [], returnType := none }, accessFlags := 1, code := none }
def k7c1 : Code := { maxStack := 5, maxLocals := 2, code := jdk_42_method_3_code, exceptionTable := #[], attributes := #[] }
def k7m1 : Method := { name := "<init>", desc := "([C)V", sig := { parameters := [(.array .char)], returnType := none }, accessFlags := 1, code := some k7c1 }
def k7c2 : Code := { maxStack := 2, maxLocals := 1, code := jdk_42_method_54_code, exceptionTable := #[], attributes := #[] }
def k7m2 : Method := { name := "length", desc := "()I", sig := { parameters := [], returnType := some .int }, accessFlags := 1, code := some k7c2 }
def k7c3 : Code := { maxStack := 1, maxLocals := 1, code := jdk_42_method_55_code, exceptionTable := #[], attributes := #[] }
def k7m3 : Method := { name := "isEmpty", desc := "()Z", sig := { parameters := [], returnType := some .boolean }, accessFlags := 1, code := some k7c3 }
def k7c4 : Code := { maxStack := 2, maxLocals := 2, code := jdk_42_method_56_code, exceptionTable := #[], attributes := #[] }
def k7m4 : Method := { name := "charAt", desc := "(I)C", sig := { parameters := [.int], returnType := some .char }, accessFlags := 1, code := some k7c4 }
def k7c5 : Code := { maxStack := 3, maxLocals := 2, code := jdk_42_method_79_code, exceptionTable := #[], attributes := #[] }
def k7m5 : Method := { name := "indexOf", desc := "(I)I", sig := { parameters := [.int], returnType := some .int }, accessFlags := 1, code := some k7c5 }
def k7c6 : Code := { maxStack := 4, maxLocals := 3, code := jdk_42_method_80_code, exceptionTable := #[], attributes := #[] }
def k7m6 : Method := { name := "indexOf", desc := "(II)I", sig := { parameters := [.int, .int], returnType := some .int }, accessFlags := 1, code := some k7c6 }
def k7c7 : Code := { maxStack := 4, maxLocals := 6, code := jdk_42_method_149_code, exceptionTable := #[], attributes := #[] }
def k7m7 : Method := { name := "<init>", desc := "([CIILjava/lang/Void;)V", sig := { parameters := [(.array .char), .int, .int, (.object "java/lang/Void")], returnType := none }, accessFlags := 2, code := some k7c7 }
def k7c8 : Code := { maxStack := 1, maxLocals := 1, code := jdk_42_method_152_code, exceptionTable := #[], attributes := #[] }
def k7m8 : Method := { name := "coder", desc := "()B", sig := { parameters := [], returnType := some .byte }, accessFlags := 0, code := some k7c8 }
def k7c9 : Code := { maxStack := 1, maxLocals := 1, code := jdk_42_method_154_code, exceptionTable := #[], attributes := #[] }
def k7m9 : Method := { name := "isLatin1", desc := "()Z", sig := { parameters := [], returnType := some .boolean }, accessFlags := 0, code := some k7c9 }
def k7c10 : Code := { maxStack := 3, maxLocals := 2, code := jdk_42_method_155_code, exceptionTable := #[], attributes := #[] }
def k7m10 : Method := { name := "checkIndex", desc := "(II)V", sig := { parameters := [.int, .int], returnType := none }, accessFlags := 8, code := some k7c10 }
/-- java/lang/String -/
def k7 : Class := { plain "java/lang/String" (some 0) with
  accessFlags := 49
  interfaces := #[2, 3, 4, 5, 6]
  cf := some (fileOf pool7 10 #[.nestMembers #[1103]] #[{ accessFlags := 1, nameIndex := 5, descriptorIndex := 6, attributes := #[] }, { accessFlags := 1, nameIndex := 5, descriptorIndex := 1010, attributes := #[] }, { accessFlags := 1, nameIndex := 507, descriptorIndex := 334, attributes := #[] }, { accessFlags := 1, nameIndex := 692, descriptorIndex := 142, attributes := #[] }, { accessFlags := 1, nameIndex := 497, descriptorIndex := 427, attributes := #[] }, { accessFlags := 1, nameIndex := 635, descriptorIndex := 765, attributes := #[] }, { accessFlags := 1, nameIndex := 635, descriptorIndex := 636, attributes := #[] }, { accessFlags := 2, nameIndex := 5, descriptorIndex := 29, attributes := #[] }, { accessFlags := 0, nameIndex := 17, descriptorIndex := 337, attributes := #[] }, { accessFlags := 0, nameIndex := 494, descriptorIndex := 142, attributes := #[] }, { accessFlags := 8, nameIndex := 501, descriptorIndex := 391, attributes := #[] }] 49 2 #[1106, 1108, 575, 1110, 1112] #[{ accessFlags := 18, nameIndex := 13, descriptorIndex := 14, attributes := #[] }, { accessFlags := 18, nameIndex := 17, descriptorIndex := 18, attributes := #[] }, { accessFlags := 2, nameIndex := 21, descriptorIndex := 22, attributes := #[] }, { accessFlags := 2, nameIndex := 25, descriptorIndex := 26, attributes := #[] }, { accessFlags := 26, nameIndex := 1116, descriptorIndex := 1117, attributes := #[] }, { accessFlags := 24, nameIndex := 40, descriptorIndex := 26, attributes := #[] }, { accessFlags := 26, nameIndex := 1101, descriptorIndex := 1102, attributes := #[] }, { accessFlags := 26, nameIndex := 1121, descriptorIndex := 1122, attributes := #[] }, { accessFlags := 25, nameIndex := 599, descriptorIndex := 600, attributes := #[] }, { accessFlags := 24, nameIndex := 1125, descriptorIndex := 18, attributes := #[] }, { accessFlags := 24, nameIndex := 1127, descriptorIndex := 18, attributes := #[] }])
  fields := #[{ name := "value", type := (.array .byte), accessFlags := 18, slot := 0, constantValue := 0 }, { name := "coder", type := .byte, accessFlags := 18, slot := 1, constantValue := 0 }, { name := "hash", type := .int, accessFlags := 2, slot := 2, constantValue := 0 }, { name := "hashIsZero", type := .boolean, accessFlags := 2, slot := 3, constantValue := 0 }, { name := "serialVersionUID", type := .long, accessFlags := 26, slot := 0, constantValue := 0 }, { name := "COMPACT_STRINGS", type := .boolean, accessFlags := 24, slot := 1, constantValue := 0 }, { name := "serialPersistentFields", type := (.array (.object "java/io/ObjectStreamField")), accessFlags := 26, slot := 2, constantValue := 0 }, { name := "REPL", type := .char, accessFlags := 26, slot := 3, constantValue := 0 }, { name := "CASE_INSENSITIVE_ORDER", type := (.object "java/util/Comparator"), accessFlags := 25, slot := 4, constantValue := 0 }, { name := "LATIN1", type := .byte, accessFlags := 24, slot := 5, constantValue := 0 }, { name := "UTF16", type := .byte, accessFlags := 24, slot := 6, constantValue := 0 }]
  methods := #[k7m0, k7m1, k7m2, k7m3, k7m4, k7m5, k7m6, k7m7, k7m8, k7m9, k7m10]
  instanceTypes := #[(.array .byte), .byte, .int, .boolean]
  staticTypes := #[.long, .boolean, (.array (.object "java/io/ObjectStreamField")), .char, (.object "java/util/Comparator"), .byte, .byte]
  resolved := Array.replicate 1451 none
  statics := some 0 }

def pool8 : Array CpInfo := pool [(2, .class_ 4), (1, u "java/lang/Object"), (0, u "<init>"), (0, u "()V"), (4, .class_ 13), (1, u "com/example/ligature/ligature/http/Headers"), (0, u "fields"), (0, u "Ljava/util/List;"), (11, u "()Z"), (4, .class_ 33), (0, u "com/example/ligature/ligature/http/Headers$Field"), (5, .class_ 41), (1, u "java/lang/String"), (1, u "(Ljava/lang/String;)Z"), (20, u "isToken"), (31, .methodref 39 97), (0, .nameAndType 98 27), (0, u "isEmpty"), (0, .methodref 39 100), (0, .nameAndType 101 102), (0, u "length"), (0, u "()I"), (0, .methodref 39 104), (0, .nameAndType 105 106), (0, u "charAt"), (0, u "(I)C"), (0, .string 108), (0, u "!#$%&'*+-.^_`|~"), (0, .methodref 39 110), (0, .nameAndType 111 112), (0, u "indexOf"), (0, u "(I)I")] 48

def k8m0 : Method := { name := "<init>", desc := "()V", sig := { parameters := [], returnType := none }, accessFlags := 1, code := none }
def k8c1 : Code := { maxStack := 2, maxLocals := 4, code := prog_62_method_9_code, exceptionTable := #[], attributes := #[] }
def k8m1 : Method := { name := "isToken", desc := "(Ljava/lang/String;)Z", sig := { parameters := [(.object "java/lang/String")], returnType := some .boolean }, accessFlags := 8, code := some k8c1 }
/-- com/example/ligature/ligature/http/Headers -/
def k8 : Class := { plain "com/example/ligature/ligature/http/Headers" (some 0) with
  accessFlags := 49
  interfaces := #[]
  cf := some (fileOf pool8 11 #[.nestMembers #[32]] #[{ accessFlags := 1, nameIndex := 5, descriptorIndex := 6, attributes := #[] }, { accessFlags := 8, nameIndex := 64, descriptorIndex := 43, attributes := #[] }] 49 2 #[] #[{ accessFlags := 18, nameIndex := 14, descriptorIndex := 15, attributes := #[] }])
  fields := #[{ name := "fields", type := (.object "java/util/List"), accessFlags := 18, slot := 0, constantValue := 0 }]
  methods := #[k8m0, k8m1]
  instanceTypes := #[(.object "java/util/List")]
  staticTypes := #[]
  resolved := Array.replicate 161 none
  statics := none }

def pool9 : Array CpInfo := pool [(3, .class_ 4), (0, u "java/lang/String"), (1, .class_ 8), (1, u "java/lang/Object"), (0, u "<init>"), (0, u "()V"), (0, .methodref 12 13), (0, .class_ 14), (0, .nameAndType 15 16), (0, u "java/lang/StringUTF16"), (0, u "newBytesLength"), (0, u "(I)I"), (3, .integer 1073741823), (23, .fieldref 12 45), (0, .nameAndType 46 47), (0, u "$assertionsDisabled"), (0, u "Z"), (0, .methodref 12 49), (0, .nameAndType 50 51), (0, u "length"), (0, u "([B)I"), (7, .fieldref 12 60), (0, .nameAndType 61 62), (0, u "HI_BYTE_SHIFT"), (0, u "I"), (0, .fieldref 12 64), (0, .nameAndType 65 62), (0, u "LO_BYTE_SHIFT"), (1, .methodref 12 68), (0, .nameAndType 69 70), (0, u "checkIndex"), (0, u "(I[B)V"), (0, .methodref 12 72), (0, .nameAndType 73 74), (0, u "getChar"), (0, u "([BI)C"), (32, .methodref 12 108), (0, .nameAndType 109 110), (0, u "newBytesFor"), (0, u "(I)[B"), (0, .methodref 12 112), (0, .nameAndType 113 114), (0, u "putChar"), (0, u "([BII)V"), (0, .methodref 12 116), (0, .nameAndType 117 118), (0, u "compress"), (0, u "([CI[BII)I"), (0, .methodref 12 120), (0, .nameAndType 121 122), (0, u "toBytes"), (0, u "([CII)[B"), (138, u "coderFromArrayLen"), (0, u "([BI)B"), (106, .class_ 371), (1, u "java/lang/StringUTF16$LinesSpliterator"), (20, u "charAt"), (21, .methodref 3 415), (0, .nameAndType 69 416), (0, u "(II)V"), (13, u "MAX_LENGTH"), (196, .class_ 628), (0, u "java/lang/StringUTF16$CodePointsSpliterator"), (0, .class_ 630), (0, u "java/lang/StringUTF16$CharsSpliterator")] 4

def k9m0 : Method := { name := "<init>", desc := "()V", sig := { parameters := [], returnType := none }, accessFlags := 0, code := none }
def k9c1 : Code := { maxStack := 1, maxLocals := 1, code := jdk_52_method_2_code, exceptionTable := #[], attributes := #[] }
def k9m1 : Method := { name := "newBytesFor", desc := "(I)[B", sig := { parameters := [.int], returnType := some (.array .byte) }, accessFlags := 9, code := some k9c1 }
def k9c2 : Code := { maxStack := 4, maxLocals := 1, code := jdk_52_method_3_code, exceptionTable := #[], attributes := #[] }
def k9m2 : Method := { name := "newBytesLength", desc := "(I)I", sig := { parameters := [.int], returnType := some .int }, accessFlags := 9, code := some k9c2 }
def k9c3 : Code := { maxStack := 4, maxLocals := 3, code := jdk_52_method_4_code, exceptionTable := #[], attributes := #[] }
def k9m3 : Method := { name := "putChar", desc := "([BII)V", sig := { parameters := [(.array .byte), .int, .int], returnType := none }, accessFlags := 8, code := some k9c3 }
def k9c4 : Code := { maxStack := 3, maxLocals := 2, code := jdk_52_method_5_code, exceptionTable := #[], attributes := #[] }
def k9m4 : Method := { name := "getChar", desc := "([BI)C", sig := { parameters := [(.array .byte), .int], returnType := some .char }, accessFlags := 8, code := some k9c4 }
def k9c5 : Code := { maxStack := 2, maxLocals := 1, code := jdk_52_method_6_code, exceptionTable := #[], attributes := #[] }
def k9m5 : Method := { name := "length", desc := "([B)I", sig := { parameters := [(.array .byte)], returnType := some .int }, accessFlags := 9, code := some k9c5 }
def k9c6 : Code := { maxStack := 4, maxLocals := 5, code := jdk_52_method_14_code, exceptionTable := #[], attributes := #[] }
def k9m6 : Method := { name := "toBytes", desc := "([CII)[B", sig := { parameters := [(.array .char), .int, .int], returnType := some (.array .byte) }, accessFlags := 9, code := some k9c6 }
def k9c7 : Code := { maxStack := 2, maxLocals := 2, code := jdk_52_method_15_code, exceptionTable := #[], attributes := #[] }
def k9m7 : Method := { name := "coderFromArrayLen", desc := "([BI)B", sig := { parameters := [(.array .byte), .int], returnType := some .byte }, accessFlags := 8, code := some k9c7 }
def k9c8 : Code := { maxStack := 5, maxLocals := 6, code := jdk_52_method_16_code, exceptionTable := #[], attributes := #[] }
def k9m8 : Method := { name := "compress", desc := "([CII)[B", sig := { parameters := [(.array .char), .int, .int], returnType := some (.array .byte) }, accessFlags := 9, code := some k9c8 }
def k9c9 : Code := { maxStack := 3, maxLocals := 7, code := jdk_52_method_21_code, exceptionTable := #[], attributes := #[] }
def k9m9 : Method := { name := "compress", desc := "([CI[BII)I", sig := { parameters := [(.array .char), .int, (.array .byte), .int, .int], returnType := some .int }, accessFlags := 9, code := some k9c9 }
def k9c10 : Code := { maxStack := 2, maxLocals := 2, code := jdk_52_method_83_code, exceptionTable := #[], attributes := #[] }
def k9m10 : Method := { name := "charAt", desc := "([BI)C", sig := { parameters := [(.array .byte), .int], returnType := some .char }, accessFlags := 9, code := some k9c10 }
def k9c11 : Code := { maxStack := 2, maxLocals := 2, code := jdk_52_method_91_code, exceptionTable := #[], attributes := #[] }
def k9m11 : Method := { name := "checkIndex", desc := "(I[B)V", sig := { parameters := [.int, (.array .byte)], returnType := none }, accessFlags := 9, code := some k9c11 }
/-- java/lang/StringUTF16 -/
def k9 : Class := { plain "java/lang/StringUTF16" (some 0) with
  accessFlags := 48
  interfaces := #[]
  cf := some (fileOf pool9 12 #[.nestMembers #[627, 629, 369]] #[{ accessFlags := 0, nameIndex := 9, descriptorIndex := 10, attributes := #[] }, { accessFlags := 9, nameIndex := 109, descriptorIndex := 110, attributes := #[] }, { accessFlags := 9, nameIndex := 15, descriptorIndex := 16, attributes := #[] }, { accessFlags := 8, nameIndex := 113, descriptorIndex := 114, attributes := #[] }, { accessFlags := 8, nameIndex := 73, descriptorIndex := 74, attributes := #[] }, { accessFlags := 9, nameIndex := 50, descriptorIndex := 51, attributes := #[] }, { accessFlags := 9, nameIndex := 121, descriptorIndex := 122, attributes := #[] }, { accessFlags := 8, nameIndex := 261, descriptorIndex := 262, attributes := #[] }, { accessFlags := 9, nameIndex := 117, descriptorIndex := 122, attributes := #[] }, { accessFlags := 9, nameIndex := 117, descriptorIndex := 118, attributes := #[] }, { accessFlags := 9, nameIndex := 392, descriptorIndex := 74, attributes := #[] }, { accessFlags := 9, nameIndex := 69, descriptorIndex := 70, attributes := #[] }] 48 6 #[] #[{ accessFlags := 26, nameIndex := 61, descriptorIndex := 62, attributes := #[] }, { accessFlags := 26, nameIndex := 65, descriptorIndex := 62, attributes := #[] }, { accessFlags := 24, nameIndex := 430, descriptorIndex := 62, attributes := #[] }, { accessFlags := 4120, nameIndex := 46, descriptorIndex := 47, attributes := #[] }])
  fields := #[{ name := "HI_BYTE_SHIFT", type := .int, accessFlags := 26, slot := 0, constantValue := 0 }, { name := "LO_BYTE_SHIFT", type := .int, accessFlags := 26, slot := 1, constantValue := 0 }, { name := "MAX_LENGTH", type := .int, accessFlags := 24, slot := 2, constantValue := 0 }, { name := "$assertionsDisabled", type := .boolean, accessFlags := 4120, slot := 3, constantValue := 0 }]
  methods := #[k9m0, k9m1, k9m2, k9m3, k9m4, k9m5, k9m6, k9m7, k9m8, k9m9, k9m10, k9m11]
  instanceTypes := #[]
  staticTypes := #[.int, .int, .int, .boolean]
  resolved := Array.replicate 635 none
  statics := some 1 }

def pool10 : Array CpInfo := pool [(1, .class_ 2), (0, u "java/lang/String"), (1, .class_ 6), (1, u "java/lang/Object"), (0, u "<init>"), (0, u "()V"), (0, .methodref 1 10), (0, .nameAndType 11 12), (0, u "checkIndex"), (0, u "(II)V"), (1, .class_ 16), (1, u "java/lang/StringLatin1"), (21, .methodref 39 40), (0, .class_ 41), (0, .nameAndType 42 43), (0, u "java/lang/Math"), (0, u "min"), (0, u "(II)I"), (9, u "([BI)C"), (34, .methodref 14 89), (0, .nameAndType 90 91), (0, u "canEncode"), (0, u "(I)Z"), (0, .methodref 39 93), (0, .nameAndType 94 43), (0, u "max"), (0, .methodref 14 96), (0, .nameAndType 97 98), (0, u "indexOfChar"), (0, u "([BIII)I"), (2, u "indexOf"), (19, u "$assertionsDisabled"), (0, u "Z"), (98, .class_ 223), (1, u "java/lang/StringLatin1$LinesSpliterator"), (28, u "charAt"), (137, .class_ 391), (0, u "java/lang/StringLatin1$CharsSpliterator")] 3

def k10m0 : Method := { name := "<init>", desc := "()V", sig := { parameters := [], returnType := none }, accessFlags := 0, code := none }
def k10c1 : Code := { maxStack := 2, maxLocals := 2, code := jdk_43_method_2_code, exceptionTable := #[], attributes := #[] }
def k10m1 : Method := { name := "charAt", desc := "([BI)C", sig := { parameters := [(.array .byte), .int], returnType := some .char }, accessFlags := 9, code := some k10c1 }
def k10c2 : Code := { maxStack := 2, maxLocals := 1, code := jdk_43_method_4_code, exceptionTable := #[], attributes := #[] }
def k10m2 : Method := { name := "canEncode", desc := "(I)Z", sig := { parameters := [.int], returnType := some .boolean }, accessFlags := 9, code := some k10c2 }
def k10c3 : Code := { maxStack := 4, maxLocals := 4, code := jdk_43_method_22_code, exceptionTable := #[], attributes := #[] }
def k10m3 : Method := { name := "indexOf", desc := "([BIII)I", sig := { parameters := [(.array .byte), .int, .int, .int], returnType := some .int }, accessFlags := 9, code := some k10c3 }
def k10c4 : Code := { maxStack := 2, maxLocals := 6, code := jdk_43_method_23_code, exceptionTable := #[], attributes := #[] }
def k10m4 : Method := { name := "indexOfChar", desc := "([BIII)I", sig := { parameters := [(.array .byte), .int, .int, .int], returnType := some .int }, accessFlags := 10, code := some k10c4 }
/-- java/lang/StringLatin1 -/
def k10 : Class := { plain "java/lang/StringLatin1" (some 0) with
  accessFlags := 48
  interfaces := #[]
  cf := some (fileOf pool10 14 #[.nestMembers #[390, 221]] #[{ accessFlags := 0, nameIndex := 7, descriptorIndex := 8, attributes := #[] }, { accessFlags := 9, nameIndex := 252, descriptorIndex := 53, attributes := #[] }, { accessFlags := 9, nameIndex := 90, descriptorIndex := 91, attributes := #[] }, { accessFlags := 9, nameIndex := 101, descriptorIndex := 98, attributes := #[] }, { accessFlags := 10, nameIndex := 97, descriptorIndex := 98, attributes := #[] }] 48 4 #[] #[{ accessFlags := 4120, nameIndex := 121, descriptorIndex := 122, attributes := #[] }])
  fields := #[{ name := "$assertionsDisabled", type := .boolean, accessFlags := 4120, slot := 0, constantValue := 0 }]
  methods := #[k10m0, k10m1, k10m2, k10m3, k10m4]
  instanceTypes := #[]
  staticTypes := #[.boolean]
  resolved := Array.replicate 395 none
  statics := none }

def pool11 : Array CpInfo := pool [(2, .class_ 4), (1, u "java/lang/Object"), (0, u "<init>"), (0, u "()V"), (17, .class_ 26), (1, u "jdk/internal/util/Preconditions"), (6, u "checkIndex"), (21, .class_ 56), (0, u "jdk/internal/util/Preconditions$4"), (57, .class_ 115), (0, u "jdk/internal/util/Preconditions$1"), (7, u "SIOOBE_FORMATTER"), (0, u "Ljava/util/function/BiFunction;"), (0, .class_ 126), (0, u "jdk/internal/util/Preconditions$2"), (3, u "AIOOBE_FORMATTER"), (0, .class_ 132), (0, u "jdk/internal/util/Preconditions$3"), (3, u "IOOBE_FORMATTER"), (41, u "(IILjava/util/function/BiFunction;)I")] 15

def k11m0 : Method := { name := "<init>", desc := "()V", sig := { parameters := [], returnType := none }, accessFlags := 1, code := none }
def k11c1 : Code := { maxStack := 3, maxLocals := 3, code := jdk_41_method_11_code, exceptionTable := #[], attributes := #[] }
def k11m1 : Method := { name := "checkIndex", desc := "(IILjava/util/function/BiFunction;)I", sig := { parameters := [.int, .int, (.object "java/util/function/BiFunction")], returnType := some .int }, accessFlags := 9, code := some k11c1 }
/-- jdk/internal/util/Preconditions -/
def k11 : Class := { plain "jdk/internal/util/Preconditions" (some 0) with
  accessFlags := 33
  interfaces := #[]
  cf := some (fileOf pool11 24 #[.nestMembers #[55, 131, 125, 114]] #[{ accessFlags := 1, nameIndex := 5, descriptorIndex := 6, attributes := #[] }, { accessFlags := 9, nameIndex := 33, descriptorIndex := 178, attributes := #[] }] 33 2 #[] #[{ accessFlags := 25, nameIndex := 123, descriptorIndex := 124, attributes := #[] }, { accessFlags := 25, nameIndex := 130, descriptorIndex := 124, attributes := #[] }, { accessFlags := 25, nameIndex := 136, descriptorIndex := 124, attributes := #[] }])
  fields := #[{ name := "SIOOBE_FORMATTER", type := (.object "java/util/function/BiFunction"), accessFlags := 25, slot := 0, constantValue := 0 }, { name := "AIOOBE_FORMATTER", type := (.object "java/util/function/BiFunction"), accessFlags := 25, slot := 1, constantValue := 0 }, { name := "IOOBE_FORMATTER", type := (.object "java/util/function/BiFunction"), accessFlags := 25, slot := 2, constantValue := 0 }]
  methods := #[k11m0, k11m1]
  instanceTypes := #[]
  staticTypes := #[(.object "java/util/function/BiFunction"), (.object "java/util/function/BiFunction"), (.object "java/util/function/BiFunction")]
  resolved := Array.replicate 194 none
  statics := some 2 }

def pool12 : Array CpInfo := pool [(1, .class_ 2), (0, u "java/lang/Math"), (1, .class_ 6), (1, u "java/lang/Object"), (0, u "<init>"), (0, u "()V"), (89, .class_ 100), (1, u "java/lang/Math$RandomNumberGeneratorHolder"), (71, u "negativeZeroFloatBits"), (0, u "J"), (2, u "negativeZeroDoubleBits"), (21, u "max"), (2, u "min"), (43, u "$assertionsDisabled"), (0, u "Z"), (88, u "(II)I"), (2, u "twoToTheDoubleScaleDown"), (0, u "D"), (4, u "twoToTheDoubleScaleUp"), (9, u "E"), (3, u "PI"), (2, u "TAU"), (2, u "DEGREES_TO_RADIANS"), (0, u "RADIANS_TO_DEGREES")] 94

def k12m0 : Method := { name := "<init>", desc := "()V", sig := { parameters := [], returnType := none }, accessFlags := 2, code := none }
def k12c1 : Code := { maxStack := 2, maxLocals := 2, code := jdk_29_method_65_code, exceptionTable := #[], attributes := #[] }
def k12m1 : Method := { name := "max", desc := "(II)I", sig := { parameters := [.int, .int], returnType := some .int }, accessFlags := 9, code := some k12c1 }
def k12c2 : Code := { maxStack := 2, maxLocals := 2, code := jdk_29_method_69_code, exceptionTable := #[], attributes := #[] }
def k12m2 : Method := { name := "min", desc := "(II)I", sig := { parameters := [.int, .int], returnType := some .int }, accessFlags := 9, code := some k12c2 }
/-- java/lang/Math -/
def k12 : Class := { plain "java/lang/Math" (some 0) with
  accessFlags := 49
  interfaces := #[]
  cf := some (fileOf pool12 1 #[.nestMembers #[98]] #[{ accessFlags := 2, nameIndex := 7, descriptorIndex := 8, attributes := #[] }, { accessFlags := 9, nameIndex := 198, descriptorIndex := 335, attributes := #[] }, { accessFlags := 9, nameIndex := 201, descriptorIndex := 335, attributes := #[] }] 49 4 #[] #[{ accessFlags := 25, nameIndex := 354, descriptorIndex := 339, attributes := #[] }, { accessFlags := 25, nameIndex := 358, descriptorIndex := 339, attributes := #[] }, { accessFlags := 25, nameIndex := 361, descriptorIndex := 339, attributes := #[] }, { accessFlags := 26, nameIndex := 364, descriptorIndex := 339, attributes := #[] }, { accessFlags := 26, nameIndex := 365, descriptorIndex := 339, attributes := #[] }, { accessFlags := 26, nameIndex := 172, descriptorIndex := 173, attributes := #[] }, { accessFlags := 26, nameIndex := 176, descriptorIndex := 173, attributes := #[] }, { accessFlags := 8, nameIndex := 344, descriptorIndex := 339, attributes := #[] }, { accessFlags := 8, nameIndex := 338, descriptorIndex := 339, attributes := #[] }, { accessFlags := 4120, nameIndex := 245, descriptorIndex := 246, attributes := #[] }])
  fields := #[{ name := "E", type := .double, accessFlags := 25, slot := 0, constantValue := 0 }, { name := "PI", type := .double, accessFlags := 25, slot := 1, constantValue := 0 }, { name := "TAU", type := .double, accessFlags := 25, slot := 2, constantValue := 0 }, { name := "DEGREES_TO_RADIANS", type := .double, accessFlags := 26, slot := 3, constantValue := 0 }, { name := "RADIANS_TO_DEGREES", type := .double, accessFlags := 26, slot := 4, constantValue := 0 }, { name := "negativeZeroFloatBits", type := .long, accessFlags := 26, slot := 5, constantValue := 0 }, { name := "negativeZeroDoubleBits", type := .long, accessFlags := 26, slot := 6, constantValue := 0 }, { name := "twoToTheDoubleScaleUp", type := .double, accessFlags := 8, slot := 7, constantValue := 0 }, { name := "twoToTheDoubleScaleDown", type := .double, accessFlags := 8, slot := 8, constantValue := 0 }, { name := "$assertionsDisabled", type := .boolean, accessFlags := 4120, slot := 9, constantValue := 0 }]
  methods := #[k12m0, k12m1, k12m2]
  instanceTypes := #[]
  staticTypes := #[.double, .double, .double, .double, .double, .long, .long, .double, .double, .boolean]
  resolved := Array.replicate 460 none
  statics := none }

def pool13 : Array CpInfo := pool [(9, u "<init>"), (6, .class_ 18), (1, u "java/lang/Object"), (0, u "()V"), (1, .class_ 23), (1, u "jdk/internal/util/ArraysSupport"), (0, u "LOG2_ARRAY_LONG_INDEX_SCALE"), (0, u "I"), (2, u "U"), (0, u "Ljdk/internal/misc/Unsafe;"), (8, u "BIG_ENDIAN"), (0, u "Z"), (8, u "LOG2_BYTE_BIT_SIZE"), (4, u "LOG2_ARRAY_INT_INDEX_SCALE"), (54, u "JLA"), (0, u "Ljdk/internal/access/JavaLangAccess;"), (11, u "LOG2_ARRAY_BOOLEAN_INDEX_SCALE"), (9, u "LOG2_ARRAY_BYTE_INDEX_SCALE"), (5, u "LOG2_ARRAY_CHAR_INDEX_SCALE"), (5, u "LOG2_ARRAY_SHORT_INDEX_SCALE"), (18, u "LOG2_ARRAY_FLOAT_INDEX_SCALE"), (24, u "LOG2_ARRAY_DOUBLE_INDEX_SCALE"), (89, u "T_BOOLEAN"), (2, u "T_CHAR"), (1, u "T_FLOAT"), (1, u "T_DOUBLE"), (1, u "T_BYTE"), (1, u "T_SHORT"), (1, u "T_INT"), (1, u "T_LONG"), (1, u "SOFT_MAX_ARRAY_LENGTH")] 83

def k13m0 : Method := { name := "<init>", desc := "()V", sig := { parameters := [], returnType := none }, accessFlags := 2, code := none }
/-- jdk/internal/util/ArraysSupport -/
def k13 : Class := { plain "jdk/internal/util/ArraysSupport" (some 0) with
  accessFlags := 33
  interfaces := #[]
  cf := some (fileOf pool13 21 #[] #[{ accessFlags := 2, nameIndex := 9, descriptorIndex := 19, attributes := #[] }] 33 16 #[] #[{ accessFlags := 24, nameIndex := 28, descriptorIndex := 29, attributes := #[] }, { accessFlags := 26, nameIndex := 38, descriptorIndex := 39, attributes := #[] }, { accessFlags := 25, nameIndex := 121, descriptorIndex := 25, attributes := #[] }, { accessFlags := 25, nameIndex := 131, descriptorIndex := 25, attributes := #[] }, { accessFlags := 25, nameIndex := 137, descriptorIndex := 25, attributes := #[] }, { accessFlags := 25, nameIndex := 143, descriptorIndex := 25, attributes := #[] }, { accessFlags := 25, nameIndex := 53, descriptorIndex := 25, attributes := #[] }, { accessFlags := 25, nameIndex := 24, descriptorIndex := 25, attributes := #[] }, { accessFlags := 25, nameIndex := 162, descriptorIndex := 25, attributes := #[] }, { accessFlags := 25, nameIndex := 187, descriptorIndex := 25, attributes := #[] }, { accessFlags := 26, nameIndex := 48, descriptorIndex := 25, attributes := #[] }, { accessFlags := 25, nameIndex := 277, descriptorIndex := 25, attributes := #[] }, { accessFlags := 25, nameIndex := 280, descriptorIndex := 25, attributes := #[] }, { accessFlags := 25, nameIndex := 282, descriptorIndex := 25, attributes := #[] }, { accessFlags := 25, nameIndex := 284, descriptorIndex := 25, attributes := #[] }, { accessFlags := 25, nameIndex := 286, descriptorIndex := 25, attributes := #[] }, { accessFlags := 25, nameIndex := 288, descriptorIndex := 25, attributes := #[] }, { accessFlags := 25, nameIndex := 290, descriptorIndex := 25, attributes := #[] }, { accessFlags := 25, nameIndex := 292, descriptorIndex := 25, attributes := #[] }, { accessFlags := 26, nameIndex := 108, descriptorIndex := 109, attributes := #[] }, { accessFlags := 25, nameIndex := 294, descriptorIndex := 25, attributes := #[] }])
  fields := #[{ name := "U", type := (.object "jdk/internal/misc/Unsafe"), accessFlags := 24, slot := 0, constantValue := 0 }, { name := "BIG_ENDIAN", type := .boolean, accessFlags := 26, slot := 1, constantValue := 0 }, { name := "LOG2_ARRAY_BOOLEAN_INDEX_SCALE", type := .int, accessFlags := 25, slot := 2, constantValue := 0 }, { name := "LOG2_ARRAY_BYTE_INDEX_SCALE", type := .int, accessFlags := 25, slot := 3, constantValue := 0 }, { name := "LOG2_ARRAY_CHAR_INDEX_SCALE", type := .int, accessFlags := 25, slot := 4, constantValue := 0 }, { name := "LOG2_ARRAY_SHORT_INDEX_SCALE", type := .int, accessFlags := 25, slot := 5, constantValue := 0 }, { name := "LOG2_ARRAY_INT_INDEX_SCALE", type := .int, accessFlags := 25, slot := 6, constantValue := 0 }, { name := "LOG2_ARRAY_LONG_INDEX_SCALE", type := .int, accessFlags := 25, slot := 7, constantValue := 0 }, { name := "LOG2_ARRAY_FLOAT_INDEX_SCALE", type := .int, accessFlags := 25, slot := 8, constantValue := 0 }, { name := "LOG2_ARRAY_DOUBLE_INDEX_SCALE", type := .int, accessFlags := 25, slot := 9, constantValue := 0 }, { name := "LOG2_BYTE_BIT_SIZE", type := .int, accessFlags := 26, slot := 10, constantValue := 0 }, { name := "T_BOOLEAN", type := .int, accessFlags := 25, slot := 11, constantValue := 0 }, { name := "T_CHAR", type := .int, accessFlags := 25, slot := 12, constantValue := 0 }, { name := "T_FLOAT", type := .int, accessFlags := 25, slot := 13, constantValue := 0 }, { name := "T_DOUBLE", type := .int, accessFlags := 25, slot := 14, constantValue := 0 }, { name := "T_BYTE", type := .int, accessFlags := 25, slot := 15, constantValue := 0 }, { name := "T_SHORT", type := .int, accessFlags := 25, slot := 16, constantValue := 0 }, { name := "T_INT", type := .int, accessFlags := 25, slot := 17, constantValue := 0 }, { name := "T_LONG", type := .int, accessFlags := 25, slot := 18, constantValue := 0 }, { name := "JLA", type := (.object "jdk/internal/access/JavaLangAccess"), accessFlags := 26, slot := 19, constantValue := 0 }, { name := "SOFT_MAX_ARRAY_LENGTH", type := .int, accessFlags := 25, slot := 20, constantValue := 0 }]
  methods := #[k13m0]
  instanceTypes := #[]
  staticTypes := #[(.object "jdk/internal/misc/Unsafe"), .boolean, .int, .int, .int, .int, .int, .int, .int, .int, .int, .int, .int, .int, .int, .int, .int, .int, .int, (.object "jdk/internal/access/JavaLangAccess"), .int]
  resolved := Array.replicate 378 none
  statics := none }

def pool14 : Array CpInfo := pool [(1, u "java/lang/Cloneable"), (0, .class_ 1), (0, u "java/lang/Object"), (0, .class_ 3)] 3

/-- java/lang/Cloneable -/
def k14 : Class := { plain "java/lang/Cloneable" (some 0) with
  accessFlags := 1537
  interfaces := #[]
  cf := some (fileOf pool14 2 #[] #[] 1537 4 #[] #[])
  fields := #[]
  methods := #[]
  instanceTypes := #[]
  staticTypes := #[]
  resolved := Array.replicate 8 none
  statics := none }

/-- the primitive byte -/
def k15 : Class := { plain "byte" none with kind := .primitive 'B', accessFlags := 0x411 }
/-- [B -/
def k16 : Class := { plain "[B" (some 0) with kind := .array 15 .byte, interfaces := #[14, 2], accessFlags := 1041 }

/-- the primitive char -/
def k17 : Class := { plain "char" none with kind := .primitive 'C', accessFlags := 0x411 }
/-- [C -/
def k18 : Class := { plain "[C" (some 0) with kind := .array 17 .char, interfaces := #[14, 2], accessFlags := 1041 }

/-- the primitive int -/
def k19 : Class := { plain "int" none with kind := .primitive 'I', accessFlags := 0x411 }
/-- [I -/
def k20 : Class := { plain "[I" (some 0) with kind := .array 19 .int, interfaces := #[14, 2], accessFlags := 1041 }

def heap : Heap := #[{ cls := 7, slots := #[.long 0, .int 1, .null, .int 0, .null, .int 0, .int 0], vm := .statics 7 },
  { cls := 9, slots := #[.int 0, .int 8, .int 0, .int 1], vm := .statics 9 },
  { cls := 11, slots := #[.null, .null, .null], vm := .statics 11 }]
def classes : Array Class := #[k0, k1, k2, k3, k4, k5, k6, k7, k8, k9, k10, k11, k12, k13, k14, k15, k16, k17, k18, k19, k20]
def interned : List (Array UInt16 × Addr) := []
def slotsUsed : Nat := 14
def theMethod : MethodId := ⟨1, 1⟩
def args0 : Array Value := #[.int 5, .int 6, .int 7, .int 2, .int 65]
def aboutOver (below : List Frame) : State where
  vm := { classes := classes, interned := interned.toArray }
  heap := heap
  slotsUsed := slotsUsed
  threads := #[{ frames := .invoking theMethod args0 :: below }]
def below0 : List Frame := [.native { method := ⟨0, 0⟩, args := #[] }]
def about1 : State := aboutOver below0
def p0 : Program := .bare "" "" ""
def e0 : Env := launch0.env 0 0 0
theorem w_frames : about1.frames = Frame.invoking theMethod args0 :: below0 := rfl
set_option maxRecDepth 65536 in
theorem w_args : argsFit about1.vm theMethod args0 = true := by decide +kernel
set_option maxRecDepth 65536 in
theorem w_heap : heapFits about1 = true := by decide +kernel
set_option maxRecDepth 65536 in
theorem w_runnable : about1.curStatus? = some .runnable := by decide +kernel
set_option maxRecDepth 65536 in
theorem w_alone : about1.alone = true := by decide +kernel
set_option maxRecDepth 65536 in
theorem w_named : about1.methodNamed? x = some theMethod := by decide +kernel
set_option maxRecDepth 65536 in
theorem w_hears : about1.hears theMethod below0 = true := by decide +kernel
set_option maxRecDepth 65536 in
theorem w_ripe : about1.ripe theMethod args0 below0 = true := by decide +kernel
theorem w_running : about1.status = .running := rfl
set_option maxRecDepth 65536 in
theorem w_room : about1.hasRoom e0.platform room_1 = true :=
  launch0.hasRoom_least _ room_1 (by decide +kernel) (by decide +kernel) (by decide +kernel) (by decide +kernel) (by decide +kernel) (by decide +kernel)
theorem allAtoms_all (ts : List Jvm.Cond) (a : Array Jvm.Value) (st : Jvm.State) : (allAtoms ts).before a st = ts.all (fun c => c.before a st) := by
  induction ts with
  | nil => rfl
  | cons c t ih =>
    show (Jvm.Cond.and c (allAtoms t)).before a st = _
    rw [Jvm.Cond.before_and, ih, List.all_cons]
def words1 : List Jvm.Cond := Jvm.Cond.code x code maxLocals ret :: tables_1
/-- a 'code' word, met by the world's own term for the bytes: nothing is compared byte by byte -/
theorem code_word {y : MethodName} {bytes : ByteArray} {mx : Nat} {rt : Option FieldType} {a : Array Value} {s : State} {m : MethodId} {meth : Method} {c : Code} (h1 : s.methodNamed? y = some m) (h2 : s.vm.method? m = some meth) (h3 : meth.code = some c) (h4 : c.code = bytes)
    (h5 : (c.maxLocals == mx && c.exceptionTable.isEmpty && decide (c.maxStack ≤ mostOperands) && decide (meth.sig.returnType = rt) && !meth.locks && decide (parseMethodDescriptor y.desc = some meth.sig)) = true) : (Jvm.Cond.code y bytes mx rt).before a s = true := by
  simp only [Bool.and_eq_true, beq_iff_eq, Bool.not_eq_true', decide_eq_true_eq] at h5
  obtain ⟨⟨⟨⟨⟨g1, g2⟩, g3⟩, g4⟩, g5⟩, g6⟩ := h5
  simp [Cond.before, Cond.holds, Cond.value, h1, h2, h3, h4, g1, g2, g3, g4, g5, g6]
def isCode : Jvm.Cond → Bool
  | .code _ _ _ _ => true
  | _ => false
theorem all_split {L : List Jvm.Cond} {P : Jvm.Cond → Bool} (h1 : L.all (fun c => isCode c || P c) = true) (h2 : ∀ c ∈ L.filter isCode, P c = true) : L.all P = true := by
  refine List.all_eq_true.mpr fun c hc => ?_
  have h := List.all_eq_true.mp h1 c hc
  rcases Bool.eq_false_or_eq_true (isCode c) with hi | hi
  · exact h2 c (List.mem_filter.mpr ⟨hc, hi⟩)
  · simpa [hi] using h
set_option maxRecDepth 65536 in
theorem w_c0 : (Jvm.Cond.code x code maxLocals ret).before args0 about1 = true := code_word (m := ⟨1, 1⟩) (meth := k1m1) (c := k1c1) (by decide +kernel) rfl rfl rfl (by decide +kernel)
set_option maxRecDepth 65536 in
theorem w_c1 : (Jvm.Cond.code ({ cls := "com/example/ligature/ligature/http/HeadersIsTokenPinLaw", name := "draw", desc := "(I)C" } : Jvm.MethodName) method_3_code (1 : Nat) (Option.some Jvm.ClassFile.FieldType.char)).before args0 about1 = true := code_word (m := ⟨1, 2⟩) (meth := k1m2) (c := k1c2) (by decide +kernel) rfl rfl rfl (by decide +kernel)
set_option maxRecDepth 65536 in
theorem w_c2 : (Jvm.Cond.code ({ cls := "java/lang/String", name := "<init>", desc := "([C)V" } : Jvm.MethodName) jdk_42_method_3_code (2 : Nat) (Option.none : Option Jvm.ClassFile.FieldType)).before args0 about1 = true := code_word (m := ⟨7, 1⟩) (meth := k7m1) (c := k7c1) (by decide +kernel) rfl rfl rfl (by decide +kernel)
set_option maxRecDepth 65536 in
theorem w_c3 : (Jvm.Cond.code ({ cls := "java/lang/String", name := "<init>", desc := "([CIILjava/lang/Void;)V" } : Jvm.MethodName) jdk_42_method_149_code (6 : Nat) (Option.none : Option Jvm.ClassFile.FieldType)).before args0 about1 = true := code_word (m := ⟨7, 7⟩) (meth := k7m7) (c := k7c7) (by decide +kernel) rfl rfl rfl (by decide +kernel)
set_option maxRecDepth 65536 in
theorem w_c4 : (Jvm.Cond.code ({ cls := "java/lang/Object", name := "<init>", desc := "()V" } : Jvm.MethodName) object_method_1_code (1 : Nat) (Option.none : Option Jvm.ClassFile.FieldType)).before args0 about1 = true := code_word (m := ⟨0, 0⟩) (meth := k0m0) (c := k0c0) (by decide +kernel) rfl rfl rfl (by decide +kernel)
set_option maxRecDepth 65536 in
theorem w_c5 : (Jvm.Cond.code ({ cls := "com/example/ligature/ligature/http/Headers", name := "isToken", desc := "(Ljava/lang/String;)Z" } : Jvm.MethodName) prog_62_method_9_code (4 : Nat) (Option.some Jvm.ClassFile.FieldType.boolean)).before args0 about1 = true := code_word (m := ⟨8, 1⟩) (meth := k8m1) (c := k8c1) (by decide +kernel) rfl rfl rfl (by decide +kernel)
set_option maxRecDepth 65536 in
theorem w_c6 : (Jvm.Cond.code ({ cls := "java/lang/String", name := "isEmpty", desc := "()Z" } : Jvm.MethodName) jdk_42_method_55_code (1 : Nat) (Option.some Jvm.ClassFile.FieldType.boolean)).before args0 about1 = true := code_word (m := ⟨7, 3⟩) (meth := k7m3) (c := k7c3) (by decide +kernel) rfl rfl rfl (by decide +kernel)
set_option maxRecDepth 65536 in
theorem w_c7 : (Jvm.Cond.code ({ cls := "java/lang/StringUTF16", name := "compress", desc := "([CII)[B" } : Jvm.MethodName) jdk_52_method_16_code (6 : Nat) (Option.some (Jvm.ClassFile.FieldType.array Jvm.ClassFile.FieldType.byte))).before args0 about1 = true := code_word (m := ⟨9, 8⟩) (meth := k9m8) (c := k9c8) (by decide +kernel) rfl rfl rfl (by decide +kernel)
set_option maxRecDepth 65536 in
theorem w_c8 : (Jvm.Cond.code ({ cls := "java/lang/StringUTF16", name := "compress", desc := "([CI[BII)I" } : Jvm.MethodName) jdk_52_method_21_code (7 : Nat) (Option.some Jvm.ClassFile.FieldType.int)).before args0 about1 = true := code_word (m := ⟨9, 9⟩) (meth := k9m9) (c := k9c9) (by decide +kernel) rfl rfl rfl (by decide +kernel)
set_option maxRecDepth 65536 in
theorem w_c9 : (Jvm.Cond.code ({ cls := "java/lang/StringUTF16", name := "coderFromArrayLen", desc := "([BI)B" } : Jvm.MethodName) jdk_52_method_15_code (2 : Nat) (Option.some Jvm.ClassFile.FieldType.byte)).before args0 about1 = true := code_word (m := ⟨9, 7⟩) (meth := k9m7) (c := k9c7) (by decide +kernel) rfl rfl rfl (by decide +kernel)
set_option maxRecDepth 65536 in
theorem w_c10 : (Jvm.Cond.code ({ cls := "com/example/ligature/ligature/http/HeadersIsTokenPinLaw", name := "tchar", desc := "(C)Z" } : Jvm.MethodName) method_4_code (2 : Nat) (Option.some Jvm.ClassFile.FieldType.boolean)).before args0 about1 = true := code_word (m := ⟨1, 3⟩) (meth := k1m3) (c := k1c3) (by decide +kernel) rfl rfl rfl (by decide +kernel)
set_option maxRecDepth 65536 in
theorem w_c11 : (Jvm.Cond.code ({ cls := "java/lang/String", name := "length", desc := "()I" } : Jvm.MethodName) jdk_42_method_54_code (1 : Nat) (Option.some Jvm.ClassFile.FieldType.int)).before args0 about1 = true := code_word (m := ⟨7, 2⟩) (meth := k7m2) (c := k7c2) (by decide +kernel) rfl rfl rfl (by decide +kernel)
set_option maxRecDepth 65536 in
theorem w_c12 : (Jvm.Cond.code ({ cls := "java/lang/String", name := "coder", desc := "()B" } : Jvm.MethodName) jdk_42_method_152_code (1 : Nat) (Option.some Jvm.ClassFile.FieldType.byte)).before args0 about1 = true := code_word (m := ⟨7, 8⟩) (meth := k7m8) (c := k7c8) (by decide +kernel) rfl rfl rfl (by decide +kernel)
set_option maxRecDepth 65536 in
theorem w_c13 : (Jvm.Cond.code ({ cls := "java/lang/String", name := "charAt", desc := "(I)C" } : Jvm.MethodName) jdk_42_method_56_code (2 : Nat) (Option.some Jvm.ClassFile.FieldType.char)).before args0 about1 = true := code_word (m := ⟨7, 4⟩) (meth := k7m4) (c := k7c4) (by decide +kernel) rfl rfl rfl (by decide +kernel)
set_option maxRecDepth 65536 in
theorem w_c14 : (Jvm.Cond.code ({ cls := "java/lang/String", name := "isLatin1", desc := "()Z" } : Jvm.MethodName) jdk_42_method_154_code (1 : Nat) (Option.some Jvm.ClassFile.FieldType.boolean)).before args0 about1 = true := code_word (m := ⟨7, 9⟩) (meth := k7m9) (c := k7c9) (by decide +kernel) rfl rfl rfl (by decide +kernel)
set_option maxRecDepth 65536 in
theorem w_c15 : (Jvm.Cond.code ({ cls := "java/lang/StringLatin1", name := "charAt", desc := "([BI)C" } : Jvm.MethodName) jdk_43_method_2_code (2 : Nat) (Option.some Jvm.ClassFile.FieldType.char)).before args0 about1 = true := code_word (m := ⟨10, 1⟩) (meth := k10m1) (c := k10c1) (by decide +kernel) rfl rfl rfl (by decide +kernel)
set_option maxRecDepth 65536 in
theorem w_c16 : (Jvm.Cond.code ({ cls := "java/lang/String", name := "checkIndex", desc := "(II)V" } : Jvm.MethodName) jdk_42_method_155_code (2 : Nat) (Option.none : Option Jvm.ClassFile.FieldType)).before args0 about1 = true := code_word (m := ⟨7, 10⟩) (meth := k7m10) (c := k7c10) (by decide +kernel) rfl rfl rfl (by decide +kernel)
set_option maxRecDepth 65536 in
theorem w_c17 : (Jvm.Cond.code ({ cls := "jdk/internal/util/Preconditions", name := "checkIndex", desc := "(IILjava/util/function/BiFunction;)I" } : Jvm.MethodName) jdk_41_method_11_code (3 : Nat) (Option.some Jvm.ClassFile.FieldType.int)).before args0 about1 = true := code_word (m := ⟨11, 1⟩) (meth := k11m1) (c := k11c1) (by decide +kernel) rfl rfl rfl (by decide +kernel)
set_option maxRecDepth 65536 in
theorem w_c18 : (Jvm.Cond.code ({ cls := "java/lang/String", name := "indexOf", desc := "(I)I" } : Jvm.MethodName) jdk_42_method_79_code (2 : Nat) (Option.some Jvm.ClassFile.FieldType.int)).before args0 about1 = true := code_word (m := ⟨7, 5⟩) (meth := k7m5) (c := k7c5) (by decide +kernel) rfl rfl rfl (by decide +kernel)
set_option maxRecDepth 65536 in
theorem w_c19 : (Jvm.Cond.code ({ cls := "java/lang/String", name := "indexOf", desc := "(II)I" } : Jvm.MethodName) jdk_42_method_80_code (3 : Nat) (Option.some Jvm.ClassFile.FieldType.int)).before args0 about1 = true := code_word (m := ⟨7, 6⟩) (meth := k7m6) (c := k7c6) (by decide +kernel) rfl rfl rfl (by decide +kernel)
set_option maxRecDepth 65536 in
theorem w_c20 : (Jvm.Cond.code ({ cls := "java/lang/StringLatin1", name := "indexOf", desc := "([BIII)I" } : Jvm.MethodName) jdk_43_method_22_code (4 : Nat) (Option.some Jvm.ClassFile.FieldType.int)).before args0 about1 = true := code_word (m := ⟨10, 3⟩) (meth := k10m3) (c := k10c3) (by decide +kernel) rfl rfl rfl (by decide +kernel)
set_option maxRecDepth 65536 in
theorem w_c21 : (Jvm.Cond.code ({ cls := "java/lang/StringLatin1", name := "canEncode", desc := "(I)Z" } : Jvm.MethodName) jdk_43_method_4_code (1 : Nat) (Option.some Jvm.ClassFile.FieldType.boolean)).before args0 about1 = true := code_word (m := ⟨10, 2⟩) (meth := k10m2) (c := k10c2) (by decide +kernel) rfl rfl rfl (by decide +kernel)
set_option maxRecDepth 65536 in
theorem w_c22 : (Jvm.Cond.code ({ cls := "java/lang/Math", name := "max", desc := "(II)I" } : Jvm.MethodName) jdk_29_method_65_code (2 : Nat) (Option.some Jvm.ClassFile.FieldType.int)).before args0 about1 = true := code_word (m := ⟨12, 1⟩) (meth := k12m1) (c := k12c1) (by decide +kernel) rfl rfl rfl (by decide +kernel)
set_option maxRecDepth 65536 in
theorem w_c23 : (Jvm.Cond.code ({ cls := "java/lang/Math", name := "min", desc := "(II)I" } : Jvm.MethodName) jdk_29_method_69_code (2 : Nat) (Option.some Jvm.ClassFile.FieldType.int)).before args0 about1 = true := code_word (m := ⟨12, 2⟩) (meth := k12m2) (c := k12c2) (by decide +kernel) rfl rfl rfl (by decide +kernel)
set_option maxRecDepth 65536 in
theorem w_c24 : (Jvm.Cond.code ({ cls := "java/lang/StringLatin1", name := "indexOfChar", desc := "([BIII)I" } : Jvm.MethodName) jdk_43_method_23_code (6 : Nat) (Option.some Jvm.ClassFile.FieldType.int)).before args0 about1 = true := code_word (m := ⟨10, 4⟩) (meth := k10m4) (c := k10c4) (by decide +kernel) rfl rfl rfl (by decide +kernel)
set_option maxRecDepth 65536 in
theorem w_c25 : (Jvm.Cond.code ({ cls := "java/lang/StringUTF16", name := "toBytes", desc := "([CII)[B" } : Jvm.MethodName) jdk_52_method_14_code (5 : Nat) (Option.some (Jvm.ClassFile.FieldType.array Jvm.ClassFile.FieldType.byte))).before args0 about1 = true := code_word (m := ⟨9, 6⟩) (meth := k9m6) (c := k9c6) (by decide +kernel) rfl rfl rfl (by decide +kernel)
set_option maxRecDepth 65536 in
theorem w_c26 : (Jvm.Cond.code ({ cls := "java/lang/StringUTF16", name := "newBytesFor", desc := "(I)[B" } : Jvm.MethodName) jdk_52_method_2_code (1 : Nat) (Option.some (Jvm.ClassFile.FieldType.array Jvm.ClassFile.FieldType.byte))).before args0 about1 = true := code_word (m := ⟨9, 1⟩) (meth := k9m1) (c := k9c1) (by decide +kernel) rfl rfl rfl (by decide +kernel)
set_option maxRecDepth 65536 in
theorem w_c27 : (Jvm.Cond.code ({ cls := "java/lang/StringUTF16", name := "newBytesLength", desc := "(I)I" } : Jvm.MethodName) jdk_52_method_3_code (1 : Nat) (Option.some Jvm.ClassFile.FieldType.int)).before args0 about1 = true := code_word (m := ⟨9, 2⟩) (meth := k9m2) (c := k9c2) (by decide +kernel) rfl rfl rfl (by decide +kernel)
set_option maxRecDepth 65536 in
theorem w_c28 : (Jvm.Cond.code ({ cls := "java/lang/StringUTF16", name := "putChar", desc := "([BII)V" } : Jvm.MethodName) jdk_52_method_4_code (3 : Nat) (Option.none : Option Jvm.ClassFile.FieldType)).before args0 about1 = true := code_word (m := ⟨9, 3⟩) (meth := k9m3) (c := k9c3) (by decide +kernel) rfl rfl rfl (by decide +kernel)
set_option maxRecDepth 65536 in
theorem w_c29 : (Jvm.Cond.code ({ cls := "java/lang/StringUTF16", name := "getChar", desc := "([BI)C" } : Jvm.MethodName) jdk_52_method_5_code (2 : Nat) (Option.some Jvm.ClassFile.FieldType.char)).before args0 about1 = true := code_word (m := ⟨9, 4⟩) (meth := k9m4) (c := k9c4) (by decide +kernel) rfl rfl rfl (by decide +kernel)
set_option maxRecDepth 65536 in
theorem w_c30 : (Jvm.Cond.code ({ cls := "java/lang/StringUTF16", name := "charAt", desc := "([BI)C" } : Jvm.MethodName) jdk_52_method_83_code (2 : Nat) (Option.some Jvm.ClassFile.FieldType.char)).before args0 about1 = true := code_word (m := ⟨9, 10⟩) (meth := k9m10) (c := k9c10) (by decide +kernel) rfl rfl rfl (by decide +kernel)
set_option maxRecDepth 65536 in
theorem w_c31 : (Jvm.Cond.code ({ cls := "java/lang/StringUTF16", name := "checkIndex", desc := "(I[B)V" } : Jvm.MethodName) jdk_52_method_91_code (2 : Nat) (Option.none : Option Jvm.ClassFile.FieldType)).before args0 about1 = true := code_word (m := ⟨9, 11⟩) (meth := k9m11) (c := k9c11) (by decide +kernel) rfl rfl rfl (by decide +kernel)
set_option maxRecDepth 65536 in
theorem w_c32 : (Jvm.Cond.code ({ cls := "java/lang/StringUTF16", name := "length", desc := "([B)I" } : Jvm.MethodName) jdk_52_method_6_code (1 : Nat) (Option.some Jvm.ClassFile.FieldType.int)).before args0 about1 = true := code_word (m := ⟨9, 5⟩) (meth := k9m5) (c := k9c5) (by decide +kernel) rfl rfl rfl (by decide +kernel)
def codes1 : List Jvm.Cond := [Jvm.Cond.code x code maxLocals ret, Jvm.Cond.code ({ cls := "com/example/ligature/ligature/http/HeadersIsTokenPinLaw", name := "draw", desc := "(I)C" } : Jvm.MethodName) method_3_code (1 : Nat) (Option.some Jvm.ClassFile.FieldType.char), Jvm.Cond.code ({ cls := "java/lang/String", name := "<init>", desc := "([C)V" } : Jvm.MethodName) jdk_42_method_3_code (2 : Nat) (Option.none : Option Jvm.ClassFile.FieldType), Jvm.Cond.code ({ cls := "java/lang/String", name := "<init>", desc := "([CIILjava/lang/Void;)V" } : Jvm.MethodName) jdk_42_method_149_code (6 : Nat) (Option.none : Option Jvm.ClassFile.FieldType), Jvm.Cond.code ({ cls := "java/lang/Object", name := "<init>", desc := "()V" } : Jvm.MethodName) object_method_1_code (1 : Nat) (Option.none : Option Jvm.ClassFile.FieldType), Jvm.Cond.code ({ cls := "com/example/ligature/ligature/http/Headers", name := "isToken", desc := "(Ljava/lang/String;)Z" } : Jvm.MethodName) prog_62_method_9_code (4 : Nat) (Option.some Jvm.ClassFile.FieldType.boolean), Jvm.Cond.code ({ cls := "java/lang/String", name := "isEmpty", desc := "()Z" } : Jvm.MethodName) jdk_42_method_55_code (1 : Nat) (Option.some Jvm.ClassFile.FieldType.boolean), Jvm.Cond.code ({ cls := "java/lang/StringUTF16", name := "compress", desc := "([CII)[B" } : Jvm.MethodName) jdk_52_method_16_code (6 : Nat) (Option.some (Jvm.ClassFile.FieldType.array Jvm.ClassFile.FieldType.byte)), Jvm.Cond.code ({ cls := "java/lang/StringUTF16", name := "compress", desc := "([CI[BII)I" } : Jvm.MethodName) jdk_52_method_21_code (7 : Nat) (Option.some Jvm.ClassFile.FieldType.int), Jvm.Cond.code ({ cls := "java/lang/StringUTF16", name := "coderFromArrayLen", desc := "([BI)B" } : Jvm.MethodName) jdk_52_method_15_code (2 : Nat) (Option.some Jvm.ClassFile.FieldType.byte), Jvm.Cond.code ({ cls := "com/example/ligature/ligature/http/HeadersIsTokenPinLaw", name := "tchar", desc := "(C)Z" } : Jvm.MethodName) method_4_code (2 : Nat) (Option.some Jvm.ClassFile.FieldType.boolean), Jvm.Cond.code ({ cls := "java/lang/String", name := "length", desc := "()I" } : Jvm.MethodName) jdk_42_method_54_code (1 : Nat) (Option.some Jvm.ClassFile.FieldType.int), Jvm.Cond.code ({ cls := "java/lang/String", name := "coder", desc := "()B" } : Jvm.MethodName) jdk_42_method_152_code (1 : Nat) (Option.some Jvm.ClassFile.FieldType.byte), Jvm.Cond.code ({ cls := "java/lang/String", name := "charAt", desc := "(I)C" } : Jvm.MethodName) jdk_42_method_56_code (2 : Nat) (Option.some Jvm.ClassFile.FieldType.char), Jvm.Cond.code ({ cls := "java/lang/String", name := "isLatin1", desc := "()Z" } : Jvm.MethodName) jdk_42_method_154_code (1 : Nat) (Option.some Jvm.ClassFile.FieldType.boolean), Jvm.Cond.code ({ cls := "java/lang/StringLatin1", name := "charAt", desc := "([BI)C" } : Jvm.MethodName) jdk_43_method_2_code (2 : Nat) (Option.some Jvm.ClassFile.FieldType.char), Jvm.Cond.code ({ cls := "java/lang/String", name := "checkIndex", desc := "(II)V" } : Jvm.MethodName) jdk_42_method_155_code (2 : Nat) (Option.none : Option Jvm.ClassFile.FieldType), Jvm.Cond.code ({ cls := "jdk/internal/util/Preconditions", name := "checkIndex", desc := "(IILjava/util/function/BiFunction;)I" } : Jvm.MethodName) jdk_41_method_11_code (3 : Nat) (Option.some Jvm.ClassFile.FieldType.int), Jvm.Cond.code ({ cls := "java/lang/String", name := "indexOf", desc := "(I)I" } : Jvm.MethodName) jdk_42_method_79_code (2 : Nat) (Option.some Jvm.ClassFile.FieldType.int), Jvm.Cond.code ({ cls := "java/lang/String", name := "indexOf", desc := "(II)I" } : Jvm.MethodName) jdk_42_method_80_code (3 : Nat) (Option.some Jvm.ClassFile.FieldType.int), Jvm.Cond.code ({ cls := "java/lang/StringLatin1", name := "indexOf", desc := "([BIII)I" } : Jvm.MethodName) jdk_43_method_22_code (4 : Nat) (Option.some Jvm.ClassFile.FieldType.int), Jvm.Cond.code ({ cls := "java/lang/StringLatin1", name := "canEncode", desc := "(I)Z" } : Jvm.MethodName) jdk_43_method_4_code (1 : Nat) (Option.some Jvm.ClassFile.FieldType.boolean), Jvm.Cond.code ({ cls := "java/lang/Math", name := "max", desc := "(II)I" } : Jvm.MethodName) jdk_29_method_65_code (2 : Nat) (Option.some Jvm.ClassFile.FieldType.int), Jvm.Cond.code ({ cls := "java/lang/Math", name := "min", desc := "(II)I" } : Jvm.MethodName) jdk_29_method_69_code (2 : Nat) (Option.some Jvm.ClassFile.FieldType.int), Jvm.Cond.code ({ cls := "java/lang/StringLatin1", name := "indexOfChar", desc := "([BIII)I" } : Jvm.MethodName) jdk_43_method_23_code (6 : Nat) (Option.some Jvm.ClassFile.FieldType.int), Jvm.Cond.code ({ cls := "java/lang/StringUTF16", name := "toBytes", desc := "([CII)[B" } : Jvm.MethodName) jdk_52_method_14_code (5 : Nat) (Option.some (Jvm.ClassFile.FieldType.array Jvm.ClassFile.FieldType.byte)), Jvm.Cond.code ({ cls := "java/lang/StringUTF16", name := "newBytesFor", desc := "(I)[B" } : Jvm.MethodName) jdk_52_method_2_code (1 : Nat) (Option.some (Jvm.ClassFile.FieldType.array Jvm.ClassFile.FieldType.byte)), Jvm.Cond.code ({ cls := "java/lang/StringUTF16", name := "newBytesLength", desc := "(I)I" } : Jvm.MethodName) jdk_52_method_3_code (1 : Nat) (Option.some Jvm.ClassFile.FieldType.int), Jvm.Cond.code ({ cls := "java/lang/StringUTF16", name := "putChar", desc := "([BII)V" } : Jvm.MethodName) jdk_52_method_4_code (3 : Nat) (Option.none : Option Jvm.ClassFile.FieldType), Jvm.Cond.code ({ cls := "java/lang/StringUTF16", name := "getChar", desc := "([BI)C" } : Jvm.MethodName) jdk_52_method_5_code (2 : Nat) (Option.some Jvm.ClassFile.FieldType.char), Jvm.Cond.code ({ cls := "java/lang/StringUTF16", name := "charAt", desc := "([BI)C" } : Jvm.MethodName) jdk_52_method_83_code (2 : Nat) (Option.some Jvm.ClassFile.FieldType.char), Jvm.Cond.code ({ cls := "java/lang/StringUTF16", name := "checkIndex", desc := "(I[B)V" } : Jvm.MethodName) jdk_52_method_91_code (2 : Nat) (Option.none : Option Jvm.ClassFile.FieldType), Jvm.Cond.code ({ cls := "java/lang/StringUTF16", name := "length", desc := "([B)I" } : Jvm.MethodName) jdk_52_method_6_code (1 : Nat) (Option.some Jvm.ClassFile.FieldType.int)]
set_option maxRecDepth 65536 in
theorem codes_eq : words1.filter isCode = codes1 := rfl
theorem w_codes : ∀ c ∈ words1.filter isCode, c.before args0 about1 = true := by
  rw [codes_eq]
  intro c hc
  simp only [codes1, List.mem_cons, List.not_mem_nil, or_false] at hc
  rcases hc with rfl | rfl | rfl | rfl | rfl | rfl | rfl | rfl | rfl | rfl | rfl | rfl | rfl | rfl | rfl | rfl | rfl | rfl | rfl | rfl | rfl | rfl | rfl | rfl | rfl | rfl | rfl | rfl | rfl | rfl | rfl | rfl | rfl
  · exact w_c0
  · exact w_c1
  · exact w_c2
  · exact w_c3
  · exact w_c4
  · exact w_c5
  · exact w_c6
  · exact w_c7
  · exact w_c8
  · exact w_c9
  · exact w_c10
  · exact w_c11
  · exact w_c12
  · exact w_c13
  · exact w_c14
  · exact w_c15
  · exact w_c16
  · exact w_c17
  · exact w_c18
  · exact w_c19
  · exact w_c20
  · exact w_c21
  · exact w_c22
  · exact w_c23
  · exact w_c24
  · exact w_c25
  · exact w_c26
  · exact w_c27
  · exact w_c28
  · exact w_c29
  · exact w_c30
  · exact w_c31
  · exact w_c32
set_option maxRecDepth 65536 in
theorem w_t1 : (words1.take 24).all (fun c => isCode c || c.before args0 about1) = true := by decide +kernel
set_option maxRecDepth 65536 in
theorem w_t2 : ((words1.drop 24).take 24).all (fun c => isCode c || c.before args0 about1) = true := by decide +kernel
set_option maxRecDepth 65536 in
theorem w_t3 : (((words1.drop 24).drop 24).take 24).all (fun c => isCode c || c.before args0 about1) = true := by decide +kernel
set_option maxRecDepth 65536 in
theorem w_t4 : ((((words1.drop 24).drop 24).drop 24).take 24).all (fun c => isCode c || c.before args0 about1) = true := by decide +kernel
set_option maxRecDepth 65536 in
theorem w_t5 : (((((words1.drop 24).drop 24).drop 24).drop 24).take 24).all (fun c => isCode c || c.before args0 about1) = true := by decide +kernel
set_option maxRecDepth 65536 in
theorem w_t6 : (((((words1.drop 24).drop 24).drop 24).drop 24).drop 24).all (fun c => isCode c || c.before args0 about1) = true := by decide +kernel
theorem w_tables : (allAtoms (Jvm.Cond.code x code maxLocals ret :: tables_1)).before args0 about1 = true := by
  rw [allAtoms_all]
  show words1.all (fun c => c.before args0 about1) = true
  refine all_split ?_ w_codes
  rw [← List.take_append_drop 24 words1, List.all_append, w_t1, ← List.take_append_drop 24 (words1.drop 24), List.all_append, w_t2, ← List.take_append_drop 24 ((words1.drop 24).drop 24), List.all_append, w_t3, ← List.take_append_drop 24 (((words1.drop 24).drop 24).drop 24), List.all_append, w_t4, ← List.take_append_drop 24 ((((words1.drop 24).drop 24).drop 24).drop 24), List.all_append, w_t5, w_t6]
  rfl
set_option maxRecDepth 65536 in
theorem w_rest : rest_1_c.before args0 about1 = true := by decide +kernel
set_option maxRecDepth 65536 in
theorem w_case : (Jvm.Cond.and given_1 narrow_1).before args0 about1 = true := by decide +kernel
set_option maxRecDepth 65536 in
theorem w_consts : constsHeld consts_1 about1 := Jvm.Lit.constsHeldB_iff.mp (by decide +kernel)
theorem w_applies : (headSpec (Jvm.Cond.code x code maxLocals ret :: tables_1) room_1).applies x e0.platform about1 = true :=
  (Spec.applies_iff w_frames).mpr ⟨w_running, w_runnable, w_alone, w_named, w_hears, w_ripe, w_room, w_tables⟩
theorem atStart : AtStart classFile x code maxLocals ret World_1 tables_1 room_1 Calls_1 rest_1 Pre_1 launch0 p0 e0 about1 theMethod args0 below0 :=
  ⟨lists_1, trivial, launch0.admits_env _ _ _, launch0.least_env, fairChoices_fair.cas, fairChoices_fair.clock, w_frames, w_args, w_heap, w_applies, ⟨w_consts, trivial⟩, w_rest, w_case⟩
end start1
theorem witness_1 : WitnessClaimed_1 := ⟨start1.p0, start1.e0, start1.about1, start1.theMethod, start1.args0, start1.below0, start1.atStart⟩
end Jvm.Pilot.@@N@@
