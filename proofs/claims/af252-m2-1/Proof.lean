import JvmDerived
import JvmDerived.Pilot.@@N@@Statement
import JvmDerived.Pilot.@@N@@Code
set_option linter.unusedVariables false
set_option linter.unusedSimpArgs false
@@BLOCK:TracedD.lean.txt@@
namespace Jvm.Pilot.@@N@@
namespace OwnKit
open Jvm Jvm.ClassFile Sem Op Lib Jvm.Free Jvm.Stand Jvm.LawKit Jvm.RoadKit Bundle
/-! ## OwnKit: a walk in lawnew's family, its bookkeeping in one word (Sd), its steps in continuation style (Go). General text: no program in sight. -/
section OwnBase
variable {p : Program} {l : Launch} {e : Env} {R : Room} {s : State} {m : MethodId} {args : Array Value} {below : List Frame} {meth : Method} {c : Code} {T : State} {locs : List Loc} {cells slots : Nat} {Z : State} {a0 : Array Value} {h h' : Heap} {EL : List (String × Nat)} {own : String} {w kn : Bool} {S : Addr → Prop} {A : Outcome → State → Prop} {Ls : Array Slot} {st : List Value} {pc : Nat}
/-- how the tables at hand may differ from the invocation's own -/
def Mo (w : Bool) (s : State) (vm0 : Vm) (n : Nat) : Prop := match w with
  | false => s.WarmedH vm0
  | true => ∃ k0, s.Since vm0 k0 ∧ k0 ≤ n
theorem Mo.mono {vm0 : Vm} {n n' : Nat} (H : Mo w s vm0 n) (q : n ≤ n') : Mo w s vm0 n' := by
  cases w with
  | false => exact H
  | true => obtain ⟨k, a, b⟩ := H; exact ⟨k, a, Nat.le_trans b q⟩
theorem Mo.start (w : Bool) (s : State) (n : Nat) (q : s.heap.size ≤ n) : Mo w s s.vm n := by
  cases w with
  | false => exact State.WarmedH.refl s
  | true => exact ⟨s.heap.size, (State.WarmedH.refl s).since _, q⟩
theorem Mo.narrow {vm0 vm1 : Vm} {n : Nat} (H : Mo w s vm0 n) (q : (s.setVm vm0).WarmedH vm1) : Mo w s vm1 n := by
  cases w with
  | false => exact State.WarmedH.trans (t := s.setVm vm0) H q
  | true => obtain ⟨k, a, b⟩ := H; exact ⟨k, a.trans (q.since k) (Nat.le_refl _), b⟩
theorem Mo.since {vm0 vm1 : Vm} {n n1 : Nat} (H : Mo true s vm0 n) (q : (s.setVm vm0).Since vm1 n1) (r : n ≤ n1) : Mo true s vm1 n1 := by
  obtain ⟨k, a, b⟩ := H; exact ⟨n1, a.trans q (Nat.le_trans b r), Nat.le_refl _⟩
/-- where a stack trace may be filled in: the methods of the tables and the frames beneath are known -/
def Kn (kn : Bool) (vm : Vm) (below : List Frame) : Prop := match kn with
  | false => True
  | true => vm.MethodsKnown ∧ vm.FramesKnown below
def EndM (w : Bool) (U : State) (o : Outcome) (U' : State) (L : List Loc) (k n : Nat) : Prop := match w with
  | false => FrameEnd U o U' L k n
  | true => ReturnedEndW U o U' L k n
/-- the promise of a body -/
def Pst (w : Bool) (Z : State) (EL : List (String × Nat)) (kc ks : Nat) (Q : Option Value → Heap → (Addr → Prop) → Prop) (s : State) (o : Outcome) (t : State) : Prop :=
  ∃ v L, o = .returned v ∧ Q v t.heap (Safe Z EL t.vm t.heap) ∧ Fr Z.heap.size L ∧ Old Z Z.heap.size t.heap ∧ CHr Z EL s.vm s.heap t.vm t.heap ∧ EndM w s o t L kc ks
/-- a contract: the callee y, at the heap h with the arguments as' -/
def Ct (w kn : Bool) (Z : State) (EL : List (String × Nat)) (l : Launch) (y : MethodName) (bytes : ByteArray) (maxL : Nat) (ret : Option FieldType) (rm : Room) (as' : Array Value) (h : Heap) (sf : List Addr) (Q : Option Value → Heap → (Addr → Prop) → Prop) (ws : List Jvm.Cond := []) : Prop :=
  MetFree l y (head1 (Jvm.Cond.code y bytes maxL ret :: ws) rm) (fun a U => a = as' ∧ Z.Warmed39 U.vm ∧ U.heap = h ∧ CHv Z EL U.vm h ∧ ∀ x ∈ sf, Safe Z EL U.vm h x)
    (fun _ _ bl U _ => Kn kn U.vm bl) (fun _ U o U' => Pst w Z EL rm.cells rm.slots Q U o U')
/-- what doesn't move in a walk -/
def Bs (kn : Bool) (Z : State) (a0 : Array Value) (EL : List (String × Nat)) (p : Program) (s : State) (below : List Frame) (meth : Method) : Prop := p.tables.exec = Jvm.exec ∧ EW Z a0 EL ∧ Kn kn s.vm below ∧ meth.locks = false ∧ Old Z Z.heap.size s.heap
/-- the walk stands at T, whose heap is h; S: the places that no constant of EL lies at -/
def Sd (w kn : Bool) (Z : State) (a0 : Array Value) (EL : List (String × Nat)) (p : Program) (l : Launch) (e : Env) (R : Room) (s : State) (m : MethodId) (args : Array Value) (below : List Frame) (meth : Method) (c : Code) (own : String) (T : State) (h : Heap) (S : Addr → Prop) (cells slots : Nat) : Prop :=
  Bs kn Z a0 EL p s below meth ∧ ∃ (vm0 : Vm) (locs : List Loc), Stand p l e R (s.setVm vm0) m args below meth c T locs cells slots ∧ T.heap = h ∧ Z.Warmed39 vm0 ∧
    vm0.findClass own = some m.cls ∧ Mo w s vm0 h.size ∧ Fr Z.heap.size locs ∧ Old Z Z.heap.size h ∧ CHr Z EL s.vm s.heap vm0 h ∧ S = Safe Z EL vm0 h
/-- the goal of a walk -/
def Go (p : Program) (e : Env) (below : List Frame) (A : Outcome → State → Prop) (a : State) : Prop := ∃ t o, Steps p.tables e below a t ∧ t.status = .running ∧ Ended t below o ∧ A o t
theorem Go.step {a b : State} (k : ∀ t, Steps p.tables e below b t → Steps p.tables e below a t) (g : Go p e below A b) : Go p e below A a := by
  obtain ⟨t, o, q, r⟩ := g; exact ⟨t, o, k t q, r⟩
theorem Go.tr {a b : State} (k : Steps p.tables e below a b) (g : Go p e below A b) : Go p e below A a := by
  obtain ⟨t, o, q, r⟩ := g; exact ⟨t, o, k.trans q, r⟩
theorem Sd.hx (X : Sd w kn Z a0 EL p l e R s m args below meth c own T h S cells slots) : p.tables.exec = Jvm.exec := X.1.1
theorem Sd.here (X : Sd w kn Z a0 EL p l e R s m args below meth c own T h S cells slots) : At T m c below := by obtain ⟨-, _, _, X, -⟩ := X; exact X.here
theorem Sd.old (X : Sd w kn Z a0 EL p l e R s m args below meth c own T h S cells slots) : Old Z Z.heap.size h := by obtain ⟨-, _, _, -, -, -, -, -, -, q, -⟩ := X; exact q
theorem Sd.more (X : Sd w kn Z a0 EL p l e R s m args below meth c own T h S cells slots) {cells' slots' : Nat} (q : cells ≤ cells') (r : slots ≤ slots') : Sd w kn Z a0 EL p l e R s m args below meth c own T h S cells' slots' := by
  obtain ⟨q1, vm0, locs, X, q2⟩ := X; exact ⟨q1, vm0, locs, X.more q r, q2⟩
/-- S: what is known of it -/
theorem Sd.safeExa (X : Sd w kn Z a0 EL p l e R s m args below meth c own T h S cells slots) {x : Addr} {C : String} (E : Exa Z h x C) (h1 : C ≠ "java/lang/String") (h2 : C ≠ "[B") : S x := by
  obtain ⟨-, vm0, _, -, -, hZ, -, -, -, -, -, rfl⟩ := X; exact Safe.exa hZ.alike E h1 h2
theorem Sd.safeArr (X : Sd w kn Z a0 EL p l e R s m args below meth c own T h S cells slots) {x : Addr} {k : ClassId} {ty : FieldType} {z : Int32} {vs : List Value} {dv : Value} (E : Arv Z h x k ty z vs dv) (ht : ty ≠ .byte) : S x := by
  obtain ⟨-, vm0, _, -, -, hZ, -, -, -, -, -, rfl⟩ := X; exact Safe.arv hZ.alike E ht
theorem Sd.safeNil (X : Sd w kn Z a0 [] p l e R s m args below meth c own T h S cells slots) (x : Addr) : S x := by
  obtain ⟨-, vm0, _, -, -, -, -, -, -, -, -, rfl⟩ := X; rintro ⟨_, q, -⟩; cases q
end OwnBase
section OwnPlain
/-! ### plain instructions, a block at a time -/
def oI : Option Slot → Option Int32 | some (.val (.int v)) => some v | _ => none
theorem oI_eq {o : Option Slot} {v : Int32} (h : oI o = some v) : o = some (.val (.int v)) := by unfold oI at h; split at h <;> first | (cases h; rfl) | cases h
def oJ : Option Slot → Option Int64 | some (.val (.long v)) => some v | _ => none
theorem oJ_eq {o : Option Slot} {v : Int64} (h : oJ o = some v) : o = some (.val (.long v)) := by unfold oJ at h; split at h <;> first | (cases h; rfl) | cases h
def oR : Option Slot → Option Value | some (.val (.ref v)) => some (.ref v) | some (.val .null) => some .null | _ => none
theorem oR_eq {o : Option Slot} {v : Value} (h : oR o = some v) : o = some (.val v) ∧ v.isRef = true := by unfold oR at h; split at h <;> first | (cases h; exact ⟨rfl, rfl⟩) | cases h
/-- one plain instruction at pc: the next pc, locals, stack -/
def px (i : Instr) (pc : Nat) (L : Array Slot) (S : List Value) : Option (Nat × Array Slot × List Value) := match i with
  | .iload k => (oI L[k]?).map fun v => (pc + 2, L, .int v :: S)
  | .iload_n k => (oI L[k.val]?).map fun v => (pc + 1, L, .int v :: S)
  | .aload k => (oR L[k]?).map fun v => (pc + 2, L, v :: S)
  | .aload_n k => (oR L[k.val]?).map fun v => (pc + 1, L, v :: S)
  | .lload k => (oJ L[k]?).map fun v => (pc + 2, L, .long v :: S)
  | .lload_n k => (oJ L[k.val]?).map fun v => (pc + 1, L, .long v :: S)
  | .istore k => (match S with | .int v :: r => (storeLocals L k (.int v)).map fun L' => (pc + 2, L', r) | _ => none)
  | .istore_n k => (match S with | .int v :: r => (storeLocals L k.val (.int v)).map fun L' => (pc + 1, L', r) | _ => none)
  | .astore k => (match S with | .ref v :: r => (storeLocals L k (.ref v)).map fun L' => (pc + 2, L', r) | .null :: r => (storeLocals L k .null).map fun L' => (pc + 2, L', r) | _ => none)
  | .astore_n k => (match S with | .ref v :: r => (storeLocals L k.val (.ref v)).map fun L' => (pc + 1, L', r) | .null :: r => (storeLocals L k.val .null).map fun L' => (pc + 1, L', r) | _ => none)
  | .lstore k => (match S with | .long v :: r => (storeLocals L k (.long v)).map fun L' => (pc + 2, L', r) | _ => none)
  | .lstore_n k => (match S with | .long v :: r => (storeLocals L k.val (.long v)).map fun L' => (pc + 1, L', r) | _ => none)
  | .iconst i => some (pc + 1, L, .int (Int32.ofInt i) :: S)
  | .bipush i => some (pc + 2, L, .int ((Int8.ofInt i).toInt32) :: S)
  | .sipush i => some (pc + 3, L, .int ((Int16.ofInt i).toInt32) :: S)
  | .lconst k => some (pc + 1, L, .long (Int64.ofNat k) :: S)
  | .aconst_null => some (pc + 1, L, .null :: S)
  | .iadd => (match S with | .int y :: .int x :: r => some (pc + 1, L, .int (x + y) :: r) | _ => none)
  | .isub => (match S with | .int y :: .int x :: r => some (pc + 1, L, .int (x - y) :: r) | _ => none)
  | .imul => (match S with | .int y :: .int x :: r => some (pc + 1, L, .int (x * y) :: r) | _ => none)
  | .iand => (match S with | .int y :: .int x :: r => some (pc + 1, L, .int (x &&& y) :: r) | _ => none)
  | .ior => (match S with | .int y :: .int x :: r => some (pc + 1, L, .int (x ||| y) :: r) | _ => none)
  | .ixor => (match S with | .int y :: .int x :: r => some (pc + 1, L, .int (x ^^^ y) :: r) | _ => none)
  | .ishl => (match S with | .int y :: .int x :: r => some (pc + 1, L, .int (x <<< (y &&& 31)) :: r) | _ => none)
  | .ishr => (match S with | .int y :: .int x :: r => some (pc + 1, L, .int (x >>> (y &&& 31)) :: r) | _ => none)
  | .iushr => (match S with | .int y :: .int x :: r => some (pc + 1, L, .int (XT.ushr x y) :: r) | _ => none)
  | .ladd => (match S with | .long y :: .long x :: r => some (pc + 1, L, .long (x + y) :: r) | _ => none)
  | .lsub => (match S with | .long y :: .long x :: r => some (pc + 1, L, .long (x - y) :: r) | _ => none)
  | .land => (match S with | .long y :: .long x :: r => some (pc + 1, L, .long (x &&& y) :: r) | _ => none)
  | .lor => (match S with | .long y :: .long x :: r => some (pc + 1, L, .long (x ||| y) :: r) | _ => none)
  | .lshl => (match S with | .int y :: .long x :: r => some (pc + 1, L, .long (x <<< (y.toInt64 &&& 63)) :: r) | _ => none)
  | .lcmp => (match S with | .long y :: .long x :: r => some (pc + 1, L, .int (XT.cmpL x y) :: r) | _ => none)
  | .i2c => (match S with | .int x :: r => some (pc + 1, L, .int (x.toUInt32.toUInt16.toUInt32.toInt32) :: r) | _ => none)
  | .i2b => (match S with | .int x :: r => some (pc + 1, L, .int (x.toInt8.toInt32) :: r) | _ => none)
  | .i2l => (match S with | .int x :: r => some (pc + 1, L, .long (x.toInt64) :: r) | _ => none)
  | .l2i => (match S with | .long x :: r => some (pc + 1, L, .int (x.toInt32) :: r) | _ => none)
  | .ineg => (match S with | .int x :: r => some (pc + 1, L, .int (-x) :: r) | _ => none)
  | .iinc k i => (oI L[k]?).bind fun v => (storeLocals L k (.int (v + Int32.ofInt i))).map fun L' => (pc + 3, L', S)
  | .dup => (match S with | .int x :: r => some (pc + 1, L, .int x :: .int x :: r) | .ref x :: r => some (pc + 1, L, .ref x :: .ref x :: r) | _ => none)
  | .dup_x1 => (match S with | .int x :: .ref y :: r => some (pc + 1, L, .int x :: .ref y :: .int x :: r) | .ref x :: .ref y :: r => some (pc + 1, L, .ref x :: .ref y :: .ref x :: r) | _ => none)
  | .dup2 => (match S with | .int x :: .ref y :: r => some (pc + 1, L, .int x :: .ref y :: .int x :: .ref y :: r) | _ => none)
  | .pop => (match S with | .int _ :: r => some (pc + 1, L, r) | .ref _ :: r => some (pc + 1, L, r) | .null :: r => some (pc + 1, L, r) | _ => none)
  | .goto o => if 0 ≤ (pc : Int) + o then some (((pc : Int) + o).toNat, L, S) else none
  | _ => none
/-- its length -/
def ln : Instr → Nat
  | .iload _ => 2 | .aload _ => 2 | .lload _ => 2 | .istore _ => 2 | .astore _ => 2 | .lstore _ => 2 | .bipush _ => 2 | .sipush _ => 3 | .iinc _ _ => 3 | .goto _ => 3 | _ => 1
def nx (i : Instr) (pc : Nat) : Nat := match i with | .goto o => ((pc : Int) + o).toNat | _ => pc + ln i
/-- the bytes at pc read as these instructions, one behind the other -/
def decs (code : ByteArray) : Nat → List Instr → Bool
  | _, [] => true
  | pc, i :: r => decide (decode code pc = .ok (i, ln i)) && decs code (nx i pc) r
def pxl : List Instr → Nat → Array Slot → List Value → Option (Nat × Array Slot × List Value)
  | [], pc, L, S => some (pc, L, S)
  | i :: r, pc, L, S => match px i pc L S with
    | some (pc', L', S') => pxl r pc' L' S'
    | none => none
variable {p : Program} {e : Env} {below : List Frame} {T : State} {m : MethodId} {c : Code} {A : Outcome → State → Prop}
theorem px_sound {t : State} (h : At T m c below) (hx : p.tables.exec = Jvm.exec) {i : Instr} {pc pc' : Nat} {L L' : Array Slot} {S S' : List Value} (hd : decode c.code pc = .ok (i, ln i)) (hp : px i pc L S = some (pc', L', S'))
    (hr : Steps p.tables e below (T.setTop (mkF m pc' L' S')) t) : Steps p.tables e below (T.setTop (mkF m pc L S)) t := by
  cases i
  case iload k =>
    simp only [px] at hp
    obtain ⟨v, q, e⟩ := Option.map_eq_some_iff.mp hp; cases e; exact XS.iload h hx rfl hd (oI_eq q) hr
  case iload_n k =>
    simp only [px] at hp
    obtain ⟨v, q, e⟩ := Option.map_eq_some_iff.mp hp; cases e; exact XS.iloadN h hx rfl hd (oI_eq q) hr
  case aload k =>
    simp only [px] at hp
    obtain ⟨v, q, e⟩ := Option.map_eq_some_iff.mp hp; cases e; exact XS.aload h hx rfl hd (oR_eq q).1 (oR_eq q).2 hr
  case aload_n k =>
    simp only [px] at hp
    obtain ⟨v, q, e⟩ := Option.map_eq_some_iff.mp hp; cases e; exact XS.aloadN h hx rfl hd (oR_eq q).1 (oR_eq q).2 hr
  case lload k =>
    simp only [px] at hp
    obtain ⟨v, q, e⟩ := Option.map_eq_some_iff.mp hp; cases e; exact XT.lload h hx rfl hd (oJ_eq q) hr
  case lload_n k =>
    simp only [px] at hp
    obtain ⟨v, q, e⟩ := Option.map_eq_some_iff.mp hp; cases e; exact XT.lloadN h hx rfl hd (oJ_eq q) hr
  case istore k =>
    simp only [px] at hp
    split at hp
    · obtain ⟨v, q, e⟩ := Option.map_eq_some_iff.mp hp; cases e; exact XS.istore h hx rfl hd rfl q hr
    · cases hp
  case istore_n k =>
    simp only [px] at hp
    split at hp
    · obtain ⟨v, q, e⟩ := Option.map_eq_some_iff.mp hp; cases e; exact XS.istoreN h hx rfl hd rfl q hr
    · cases hp
  case astore k =>
    simp only [px] at hp
    split at hp
    · obtain ⟨v, q, e⟩ := Option.map_eq_some_iff.mp hp; cases e; exact XS.astore h hx rfl hd rfl rfl q hr
    · obtain ⟨v, q, e⟩ := Option.map_eq_some_iff.mp hp; cases e; exact XS.astore h hx rfl hd rfl rfl q hr
    · cases hp
  case astore_n k =>
    simp only [px] at hp
    split at hp
    · obtain ⟨v, q, e⟩ := Option.map_eq_some_iff.mp hp; cases e; exact XS.astoreN h hx rfl hd rfl rfl q hr
    · obtain ⟨v, q, e⟩ := Option.map_eq_some_iff.mp hp; cases e; exact XS.astoreN h hx rfl hd rfl rfl q hr
    · cases hp
  case lstore k =>
    simp only [px] at hp
    split at hp
    · obtain ⟨v, q, e⟩ := Option.map_eq_some_iff.mp hp; cases e; exact XT.lstore h hx rfl hd rfl q hr
    · cases hp
  case lstore_n k =>
    simp only [px] at hp
    split at hp
    · obtain ⟨v, q, e⟩ := Option.map_eq_some_iff.mp hp; cases e; exact XT.lstoreN h hx rfl hd rfl q hr
    · cases hp
  case iconst i =>
    simp only [px] at hp
    cases hp; exact XS.iconst h hx rfl hd hr
  case bipush i =>
    simp only [px] at hp
    cases hp; exact XS.bipush h hx rfl hd hr
  case sipush i =>
    simp only [px] at hp
    cases hp; exact XS.sipush h hx rfl hd hr
  case lconst k =>
    simp only [px] at hp
    cases hp; exact XT.lconst h hx rfl hd hr
  case aconst_null =>
    simp only [px] at hp
    cases hp; exact XS.aconstNull h hx rfl hd hr
  case iadd =>
    simp only [px] at hp
    split at hp
    · cases hp; exact XS.iadd h hx rfl hd rfl hr
    · cases hp
  case isub =>
    simp only [px] at hp
    split at hp
    · cases hp; exact XS.isub h hx rfl hd rfl hr
    · cases hp
  case imul =>
    simp only [px] at hp
    split at hp
    · cases hp; exact XS.imul h hx rfl hd rfl hr
    · cases hp
  case iand =>
    simp only [px] at hp
    split at hp
    · cases hp; exact XS.iand h hx rfl hd rfl hr
    · cases hp
  case ior =>
    simp only [px] at hp
    split at hp
    · cases hp; exact XT.ior h hx rfl hd rfl hr
    · cases hp
  case ixor =>
    simp only [px] at hp
    split at hp
    · cases hp; exact XT.ixor h hx rfl hd rfl hr
    · cases hp
  case ishl =>
    simp only [px] at hp
    split at hp
    · cases hp; exact XT.ishl h hx rfl hd rfl hr
    · cases hp
  case ishr =>
    simp only [px] at hp
    split at hp
    · cases hp; exact XT.ishr h hx rfl hd rfl hr
    · cases hp
  case iushr =>
    simp only [px] at hp
    split at hp
    · cases hp; exact XT.iushr h hx rfl hd rfl hr
    · cases hp
  case ladd =>
    simp only [px] at hp
    split at hp
    · cases hp; exact XT.ladd h hx rfl hd rfl hr
    · cases hp
  case lsub =>
    simp only [px] at hp
    split at hp
    · cases hp; exact XT.lsub h hx rfl hd rfl hr
    · cases hp
  case land =>
    simp only [px] at hp
    split at hp
    · cases hp; exact XT.land h hx rfl hd rfl hr
    · cases hp
  case lor =>
    simp only [px] at hp
    split at hp
    · cases hp; exact XT.lor h hx rfl hd rfl hr
    · cases hp
  case lshl =>
    simp only [px] at hp
    split at hp
    · cases hp; exact XT.lshl h hx rfl hd rfl hr
    · cases hp
  case lcmp =>
    simp only [px] at hp
    split at hp
    · cases hp; exact XT.lcmp h hx rfl hd rfl hr
    · cases hp
  case i2c =>
    simp only [px] at hp
    split at hp
    · cases hp; exact XT.i2c h hx rfl hd rfl hr
    · cases hp
  case i2b =>
    simp only [px] at hp
    split at hp
    · cases hp; exact XT.i2b h hx rfl hd rfl hr
    · cases hp
  case i2l =>
    simp only [px] at hp
    split at hp
    · cases hp; exact XT.i2l h hx rfl hd rfl hr
    · cases hp
  case l2i =>
    simp only [px] at hp
    split at hp
    · cases hp; exact XT.l2i h hx rfl hd rfl hr
    · cases hp
  case ineg =>
    simp only [px] at hp
    split at hp
    · cases hp; exact XS.ineg h hx rfl hd rfl hr
    · cases hp
  case iinc k i =>
    simp only [px] at hp
    obtain ⟨v, q, e⟩ := Option.bind_eq_some_iff.mp hp; obtain ⟨L2, q2, e2⟩ := Option.map_eq_some_iff.mp e; cases e2; exact XS.iinc h hx rfl hd (oI_eq q) q2 hr
  case dup =>
    simp only [px] at hp
    split at hp
    · cases hp; exact XS.dup h hx rfl hd rfl rfl hr
    · cases hp; exact XS.dup h hx rfl hd rfl rfl hr
    · cases hp
  case dup_x1 =>
    simp only [px] at hp
    split at hp
    · cases hp; exact XT.dupX1 h hx rfl hd rfl rfl rfl hr
    · cases hp; exact XT.dupX1 h hx rfl hd rfl rfl rfl hr
    · cases hp
  case dup2 =>
    simp only [px] at hp
    split at hp
    · cases hp; exact XT.dup2 h hx rfl hd rfl rfl rfl hr
    · cases hp
  case pop =>
    simp only [px] at hp
    split at hp
    · cases hp; exact XT.pop h hx rfl hd rfl rfl hr
    · cases hp; exact XT.pop h hx rfl hd rfl rfl hr
    · cases hp; exact XT.pop h hx rfl hd rfl rfl hr
    · cases hp
  case goto o =>
    simp only [px] at hp
    split at hp
    · rename_i q; cases hp; exact XS.goto h hx rfl rfl hd q rfl hr
    · cases hp
  all_goals cases hp
theorem px_next {i : Instr} {pc pc' : Nat} {L L' : Array Slot} {S S' : List Value} (hp : px i pc L S = some (pc', L', S')) : pc' = nx i pc := by
  cases i
  case iload k =>
    simp only [px] at hp
    obtain ⟨v, q, e⟩ := Option.map_eq_some_iff.mp hp; cases e; rfl
  case iload_n k =>
    simp only [px] at hp
    obtain ⟨v, q, e⟩ := Option.map_eq_some_iff.mp hp; cases e; rfl
  case aload k =>
    simp only [px] at hp
    obtain ⟨v, q, e⟩ := Option.map_eq_some_iff.mp hp; cases e; rfl
  case aload_n k =>
    simp only [px] at hp
    obtain ⟨v, q, e⟩ := Option.map_eq_some_iff.mp hp; cases e; rfl
  case lload k =>
    simp only [px] at hp
    obtain ⟨v, q, e⟩ := Option.map_eq_some_iff.mp hp; cases e; rfl
  case lload_n k =>
    simp only [px] at hp
    obtain ⟨v, q, e⟩ := Option.map_eq_some_iff.mp hp; cases e; rfl
  case istore k =>
    simp only [px] at hp
    split at hp
    · obtain ⟨v, q, e⟩ := Option.map_eq_some_iff.mp hp; cases e; rfl
    · cases hp
  case istore_n k =>
    simp only [px] at hp
    split at hp
    · obtain ⟨v, q, e⟩ := Option.map_eq_some_iff.mp hp; cases e; rfl
    · cases hp
  case astore k =>
    simp only [px] at hp
    split at hp
    · obtain ⟨v, q, e⟩ := Option.map_eq_some_iff.mp hp; cases e; rfl
    · obtain ⟨v, q, e⟩ := Option.map_eq_some_iff.mp hp; cases e; rfl
    · cases hp
  case astore_n k =>
    simp only [px] at hp
    split at hp
    · obtain ⟨v, q, e⟩ := Option.map_eq_some_iff.mp hp; cases e; rfl
    · obtain ⟨v, q, e⟩ := Option.map_eq_some_iff.mp hp; cases e; rfl
    · cases hp
  case lstore k =>
    simp only [px] at hp
    split at hp
    · obtain ⟨v, q, e⟩ := Option.map_eq_some_iff.mp hp; cases e; rfl
    · cases hp
  case lstore_n k =>
    simp only [px] at hp
    split at hp
    · obtain ⟨v, q, e⟩ := Option.map_eq_some_iff.mp hp; cases e; rfl
    · cases hp
  case iconst i =>
    simp only [px] at hp
    cases hp; rfl
  case bipush i =>
    simp only [px] at hp
    cases hp; rfl
  case sipush i =>
    simp only [px] at hp
    cases hp; rfl
  case lconst k =>
    simp only [px] at hp
    cases hp; rfl
  case aconst_null =>
    simp only [px] at hp
    cases hp; rfl
  case iadd =>
    simp only [px] at hp
    split at hp
    · cases hp; rfl
    · cases hp
  case isub =>
    simp only [px] at hp
    split at hp
    · cases hp; rfl
    · cases hp
  case imul =>
    simp only [px] at hp
    split at hp
    · cases hp; rfl
    · cases hp
  case iand =>
    simp only [px] at hp
    split at hp
    · cases hp; rfl
    · cases hp
  case ior =>
    simp only [px] at hp
    split at hp
    · cases hp; rfl
    · cases hp
  case ixor =>
    simp only [px] at hp
    split at hp
    · cases hp; rfl
    · cases hp
  case ishl =>
    simp only [px] at hp
    split at hp
    · cases hp; rfl
    · cases hp
  case ishr =>
    simp only [px] at hp
    split at hp
    · cases hp; rfl
    · cases hp
  case iushr =>
    simp only [px] at hp
    split at hp
    · cases hp; rfl
    · cases hp
  case ladd =>
    simp only [px] at hp
    split at hp
    · cases hp; rfl
    · cases hp
  case lsub =>
    simp only [px] at hp
    split at hp
    · cases hp; rfl
    · cases hp
  case land =>
    simp only [px] at hp
    split at hp
    · cases hp; rfl
    · cases hp
  case lor =>
    simp only [px] at hp
    split at hp
    · cases hp; rfl
    · cases hp
  case lshl =>
    simp only [px] at hp
    split at hp
    · cases hp; rfl
    · cases hp
  case lcmp =>
    simp only [px] at hp
    split at hp
    · cases hp; rfl
    · cases hp
  case i2c =>
    simp only [px] at hp
    split at hp
    · cases hp; rfl
    · cases hp
  case i2b =>
    simp only [px] at hp
    split at hp
    · cases hp; rfl
    · cases hp
  case i2l =>
    simp only [px] at hp
    split at hp
    · cases hp; rfl
    · cases hp
  case l2i =>
    simp only [px] at hp
    split at hp
    · cases hp; rfl
    · cases hp
  case ineg =>
    simp only [px] at hp
    split at hp
    · cases hp; rfl
    · cases hp
  case iinc k i =>
    simp only [px] at hp
    obtain ⟨v, q, e⟩ := Option.bind_eq_some_iff.mp hp; obtain ⟨L2, q2, e2⟩ := Option.map_eq_some_iff.mp e; cases e2; rfl
  case dup =>
    simp only [px] at hp
    split at hp
    · cases hp; rfl
    · cases hp; rfl
    · cases hp
  case dup_x1 =>
    simp only [px] at hp
    split at hp
    · cases hp; rfl
    · cases hp; rfl
    · cases hp
  case dup2 =>
    simp only [px] at hp
    split at hp
    · cases hp; rfl
    · cases hp
  case pop =>
    simp only [px] at hp
    split at hp
    · cases hp; rfl
    · cases hp; rfl
    · cases hp; rfl
    · cases hp
  case goto o =>
    simp only [px] at hp
    split at hp
    · rename_i q; cases hp; rfl
    · cases hp
  all_goals cases hp
theorem pxl_sound (h : At T m c below) (hx : p.tables.exec = Jvm.exec) {code : ByteArray} (hby : c.code = code) : ∀ {is : List Instr} {pc pc' : Nat} {L L' : Array Slot} {S S' : List Value}, decs code pc is = true → pxl is pc L S = some (pc', L', S') →
    Go p e below A (T.setTop (mkF m pc' L' S')) → Go p e below A (T.setTop (mkF m pc L S))
  | [], pc, pc', L, L', S, S', _, hp, g => by cases hp; exact g
  | i :: r, pc, pc', L, L', S, S', hd, hp, g => by
    simp only [decs, Bool.and_eq_true, decide_eq_true_eq] at hd
    simp only [pxl] at hp
    split at hp
    · rename_i pc1 L1 S1 q
      refine Go.step (fun t k => px_sound h hx (by rw [hby]; exact hd.1) q k) (pxl_sound h hx hby (is := r) ?_ hp g)
      rw [px_next q]; exact hd.2
    · cases hp
end OwnPlain
section OwnLaws
variable {p : Program} {l : Launch} {e : Env} {R : Room} {s : State} {m : MethodId} {args : Array Value} {below : List Frame} {meth : Method} {c : Code} {T : State} {locs : List Loc} {cells slots : Nat} {Z : State} {a0 : Array Value} {h h' : Heap} {EL : List (String × Nat)} {own : String} {w kn : Bool} {S : Addr → Prop} {A : Outcome → State → Prop} {Ls : Array Slot} {st : List Value} {pc : Nat} {code : ByteArray}
theorem Mo.alike {vm0 : Vm} {n : Nat} (H : Mo w s vm0 n) : s.vm.Alike vm0 := by
  cases w with
  | false => exact State.WarmedH.alike H
  | true => obtain ⟨k, a, -⟩ := H; exact a.1.alike
theorem Kn.mv {vm vm' : Vm} (h : vm.Alike vm') (H : Kn kn vm below) : Kn kn vm' below := by
  cases kn with
  | false => trivial
  | true => exact ⟨H.1.alikeC h, H.2.alikeC h⟩
/-- a block of plain instructions -/
theorem blk (X : Sd w kn Z a0 EL p l e R s m args below meth c own T h S cells slots) (hby : c.code = code) {is : List Instr} (hd : decs code pc is = true) {pc' : Nat} {Ls' : Array Slot} {st' : List Value} (hp : pxl is pc Ls st = some (pc', Ls', st'))
    (g : Go p e below A (T.setTop (mkF m pc' Ls' st'))) : Go p e below A (T.setTop (mkF m pc Ls st)) := pxl_sound X.here X.hx hby hd hp g
/-! branches -/
theorem brI (X : Sd w kn Z a0 EL p l e R s m args below meth c own T h S cells slots) (hby : c.code = code) {cd : ClassFile.Cond} {o : Int} (hd : decode code pc = .ok (.if_icmp cd o, 3)) {x y : Int32} {pc1 : Nat} (hp : 0 ≤ (pc : Int) + o ∧ ((pc : Int) + o).toNat = pc1)
    (kt : if_icmp.holds cd x y = true → Go p e below A (T.setTop (mkF m pc1 Ls st))) (kf : if_icmp.holds cd x y = false → Go p e below A (T.setTop (mkF m (pc + 3) Ls st))) : Go p e below A (T.setTop (mkF m pc Ls (.int y :: .int x :: st))) := by
  cases q : if_icmp.holds cd x y with
  | true => exact Go.step (fun t k => XS.icmpYes X.here X.hx rfl rfl (hb hby hd) rfl q hp.1 hp.2 k) (kt q)
  | false => exact Go.step (fun t k => XS.icmpNo X.here X.hx rfl (hb hby hd) rfl q k) (kf q)
theorem br0 (X : Sd w kn Z a0 EL p l e R s m args below meth c own T h S cells slots) (hby : c.code = code) {cd : ClassFile.Cond} {o : Int} (hd : decode code pc = .ok (.ifCond cd o, 3)) {x : Int32} {pc1 : Nat} (hp : 0 ≤ (pc : Int) + o ∧ ((pc : Int) + o).toNat = pc1)
    (kt : if_icmp.holds cd x 0 = true → Go p e below A (T.setTop (mkF m pc1 Ls st))) (kf : if_icmp.holds cd x 0 = false → Go p e below A (T.setTop (mkF m (pc + 3) Ls st))) : Go p e below A (T.setTop (mkF m pc Ls (.int x :: st))) := by
  cases q : if_icmp.holds cd x 0 with
  | true => exact Go.step (fun t k => XS.ifYes X.here X.hx rfl rfl (hb hby hd) rfl ((if0 cd x).trans q) hp.1 hp.2 k) (kt q)
  | false => exact Go.step (fun t k => XS.ifNo X.here X.hx rfl (hb hby hd) rfl ((if0 cd x).trans q) k) (kf q)
theorem brA (X : Sd w kn Z a0 EL p l e R s m args below meth c own T h S cells slots) (hby : c.code = code) {cd : ClassFile.ACond} {o : Int} (hd : decode code pc = .ok (.if_acmp cd o, 3)) {x y : Value} (hx1 : x.isRef = true) (hy1 : y.isRef = true) {pc1 : Nat} (hp : 0 ≤ (pc : Int) + o ∧ ((pc : Int) + o).toNat = pc1)
    (kt : XT.acmp cd x y = true → Go p e below A (T.setTop (mkF m pc1 Ls st))) (kf : XT.acmp cd x y = false → Go p e below A (T.setTop (mkF m (pc + 3) Ls st))) : Go p e below A (T.setTop (mkF m pc Ls (y :: x :: st))) := by
  cases q : XT.acmp cd x y with
  | true => exact Go.step (fun t k => XT.acmpYes X.here X.hx rfl rfl (hb hby hd) rfl hx1 hy1 q hp.1 hp.2 k) (kt q)
  | false => exact Go.step (fun t k => XT.acmpNo X.here X.hx rfl (hb hby hd) rfl hx1 hy1 q k) (kf q)
theorem nnR (X : Sd w kn Z a0 EL p l e R s m args below meth c own T h S cells slots) (hby : c.code = code) {o : Int} (hd : decode code pc = .ok (.ifnonnull o, 3)) {x : Addr} {pc1 : Nat} (hp : 0 ≤ (pc : Int) + o ∧ ((pc : Int) + o).toNat = pc1)
    (kt : Go p e below A (T.setTop (mkF m pc1 Ls st))) : Go p e below A (T.setTop (mkF m pc Ls (.ref x :: st))) := Go.step (fun t k => XT.ifnonnullYes X.here X.hx rfl rfl (hb hby hd) rfl hp.1 hp.2 k) kt
theorem nnN (X : Sd w kn Z a0 EL p l e R s m args below meth c own T h S cells slots) (hby : c.code = code) {o : Int} (hd : decode code pc = .ok (.ifnonnull o, 3))
    (kf : Go p e below A (T.setTop (mkF m (pc + 3) Ls st))) : Go p e below A (T.setTop (mkF m pc Ls (.null :: st))) := Go.step (fun t k => XT.ifnonnullNo X.here X.hx rfl (hb hby hd) rfl k) kf
theorem nuN (X : Sd w kn Z a0 EL p l e R s m args below meth c own T h S cells slots) (hby : c.code = code) {o : Int} (hd : decode code pc = .ok (.ifnull o, 3)) {pc1 : Nat} (hp : 0 ≤ (pc : Int) + o ∧ ((pc : Int) + o).toNat = pc1)
    (kt : Go p e below A (T.setTop (mkF m pc1 Ls st))) : Go p e below A (T.setTop (mkF m pc Ls (.null :: st))) := Go.step (fun t k => XS.ifnullYes X.here X.hx rfl rfl (hb hby hd) rfl hp.1 hp.2 k) kt
theorem nuR (X : Sd w kn Z a0 EL p l e R s m args below meth c own T h S cells slots) (hby : c.code = code) {o : Int} (hd : decode code pc = .ok (.ifnull o, 3)) {x : Addr}
    (kf : Go p e below A (T.setTop (mkF m (pc + 3) Ls st))) : Go p e below A (T.setTop (mkF m pc Ls (.ref x :: st))) := Go.step (fun t k => XS.ifnullNo X.here X.hx rfl (hb hby hd) rfl k) kf
/-! the end -/
theorem leaveM {kc ks : Nat} {Q : Option Value → Heap → (Addr → Prop) → Prop} {v : Option Value} (X : Sd w kn Z a0 EL p l e R s m args below meth c own T h S cells slots) (hv : meth.sig.returnType = none → v = none) (q : ∀ S', (∀ x, S x → S' x) → Q v h S') (hc : cells ≤ kc) (hs : slots ≤ ks) :
    ∃ fs, (∀ (f : JFrame) (acts : List Action), f.method = m → f.locked = none → f.entered = [] → (doReturn e (T.setTop f) acts v).1 = T.setFrames fs) ∧ (T.setFrames fs).status = .running ∧ Ended (T.setFrames fs) below (.returned v) ∧ Pst w Z EL kc ks Q s (.returned v) (T.setFrames fs) := by
  obtain ⟨⟨hx, hEL, -, hlk, -⟩, vm0, locs, X, eT, hZ, hown, hMo, N, hO, hC, rfl⟩ := X
  subst eT
  have A := CHv.at X hZ hEL hC.1
  have q' : Q v T.heap (Safe Z EL T.vm T.heap) := q _ fun x hx => by
    by_cases hlt : x < T.heap.size
    · exact A.safe hlt hx
    · exact Safe.new (Nat.le_of_not_lt hlt)
  cases w with
  | false =>
    obtain ⟨fs, hr, hrun, hended, hW, hsame⟩ := X.leave hv
    exact ⟨fs, hr, hrun, hended, v, locs, rfl, q', N, hO, hC.trans A, ⟨v, rfl⟩, State.WarmedH.trans (t := s.setVm vm0) hMo hW, (hsame.setVm s.vm).mono hc hs⟩
  | true =>
    obtain ⟨k0, hS, hk⟩ := hMo
    obtain ⟨fs, hr, hrun, hended, hE⟩ := X.leaveW hS hk hv
    exact ⟨fs, hr, hrun, hended, v, locs, rfl, q', N, hO, hC.trans A, hE.1, hE.2.1, hE.2.2.1, hE.2.2.2.mono hc hs⟩
theorem retI' {kc ks : Nat} {Q : Option Value → Heap → (Addr → Prop) → Prop} {z : Int32} {t : FieldType} (X : Sd w kn Z a0 EL p l e R s m args below meth c own T h S cells slots) (hby : c.code = code) (hret : meth.sig.returnType = some t) (hd : decode code pc = .ok (.ireturn, 1)) (hn : narrow t (.int z) = .int z)
    (q : ∀ S', (∀ x, S x → S' x) → Q (some (.int z)) h S') (ht : t = .int ∨ t = .boolean ∨ t = .byte ∨ t = .char ∨ t = .short := by decide) (hc : cells ≤ kc := by decide) (hs : slots ≤ ks := by decide) : Go p e below (Pst w Z EL kc ks Q s) (T.setTop (mkF m pc Ls (.int z :: st))) := by
  obtain ⟨fs, hr, hrun, hended, hP⟩ := leaveM (v := some (.int z)) X (fun h => by rw [hret] at h; cases h) q hc hs
  obtain ⟨⟨hx, -⟩, vm0, locs, X, -⟩ := X
  exact ⟨_, _, retOut X hx hret hn (Or.inl ⟨rfl, ht, z, rfl⟩) (hb hby hd) hr, hrun, hended, hP⟩
theorem retA' {kc ks : Nat} {Q : Option Value → Heap → (Addr → Prop) → Prop} {v : Value} {t : FieldType} (X : Sd w kn Z a0 EL p l e R s m args below meth c own T h S cells slots) (hby : c.code = code) (hret : meth.sig.returnType = some t) (hd : decode code pc = .ok (.areturn, 1)) (hv : v.isRef = true)
    (q : ∀ S', (∀ x, S x → S' x) → Q (some v) h S') (ht : t.isReference = true := by rfl) (hc : cells ≤ kc := by decide) (hs : slots ≤ ks := by decide) : Go p e below (Pst w Z EL kc ks Q s) (T.setTop (mkF m pc Ls (v :: st))) := by
  obtain ⟨fs, hr, hrun, hended, hP⟩ := leaveM (v := some v) X (fun h => by rw [hret] at h; cases h) q hc hs
  obtain ⟨⟨hx, -⟩, vm0, locs, X, -⟩ := X
  have hn : narrow t v = v := by
    rcases ref_cases hv with rfl | ⟨a, rfl⟩ <;> cases t <;> rfl
  exact ⟨_, _, retOut X hx hret hn (Or.inr (Or.inr (Or.inr (Or.inr ⟨rfl, ht, hv⟩)))) (hb hby hd) hr, hrun, hended, hP⟩
theorem retV' {kc ks : Nat} {Q : Option Value → Heap → (Addr → Prop) → Prop} (X : Sd w kn Z a0 EL p l e R s m args below meth c own T h S cells slots) (hby : c.code = code) (hret : meth.sig.returnType = none) (hd : decode code pc = .ok (.return_, 1))
    (q : ∀ S', (∀ x, S x → S' x) → Q none h S') (hc : cells ≤ kc := by decide) (hs : slots ≤ ks := by decide) : Go p e below (Pst w Z EL kc ks Q s) (T.setTop (mkF m pc Ls [])) := by
  obtain ⟨fs, hr, hrun, hended, hP⟩ := leaveM (v := none) X (fun _ => rfl) q hc hs
  obtain ⟨⟨hx, -⟩, vm0, locs, X, -⟩ := X
  exact ⟨_, _, X.returnOut hx hret (hb hby hd) hr, hrun, hended, hP⟩
/-! the beginning -/
theorem ctOf {y : MethodName} {bytes : ByteArray} {maxL : Nat} {ret : Option FieldType} {rm : Room} {as' : Array Value} {sf : List Addr} {Q : Option Value → Heap → (Addr → Prop) → Prop} (pn : plainFor y = true) (hO : Old Z Z.heap.size h) (hEL : EW Z a0 EL)
    (body : ∀ p e s m below meth c s₁ S, Sd w kn Z a0 EL p l e rm s m as' below meth c y.cls s₁ h S 0 0 → c.code = bytes → c.maxLocals = maxL → meth.sig.returnType = ret → meth.name = y.name → (∀ x ∈ sf, S x) →
      Go p e below (Pst w Z EL rm.cells rm.slots Q s) (s₁.setTop (entryFrame m as' maxL))) {ws : List Jvm.Cond} : Ct w kn Z EL l y bytes maxL ret rm as' h sf Q ws := by
  refine MetFree.of_bodySF pn hisR ?_
  intro p e s m args below meth c s₁ Bd hml0 hP hK
  obtain ⟨rfl, hZ, rfl, hC, hsf⟩ := hP
  have X0 : Stand p l e rm s m args below meth c s₁ [] 0 0 := Stand.of_body Bd
  have e0 : s₁.heap = s.heap := by rw [Bd.state]; rfl
  exact body p e s m below meth c s₁ (Safe Z EL s.vm s.heap) ⟨⟨Bd.exec, hEL, hK, BodyLoose.notSynchronized Bd, hO⟩, s.vm, [], X0, e0, hZ, findClass_of_methodNamed Bd.named, Mo.start w s _ (Nat.le_refl _), Fr.nil _, hO, CHr.refl hC, rfl⟩
    Bd.bytes hml0 Bd.returns (name_of_methodNamed Bd.named Bd.method).1 hsf
theorem Go.entry {g g' : JFrame} (q : g = g') (k : Go p e below A (T.setTop g')) : Go p e below A (T.setTop g) := q ▸ k
/-! the heap's instructions -/
theorem gNew (X : Sd w kn Z a0 EL p l e R s m args below meth c own T h S cells slots) (hby : c.code = code) {C : String} {index n : Nat} (w1 : (Jvm.Cond.classLink own index C).before a0 Z = true) (w2 : (Jvm.Cond.instantiable C n).before a0 Z = true) (w3 : (Jvm.Cond.initialized C).before a0 Z = true)
    (hd : decode code pc = .ok (.new index, 3)) (hc : cells + 1 ≤ R.cells) (hl : slots + n ≤ R.slots)
    (k : ∀ T' h' S', Sd w kn Z a0 EL p l e R s m args below meth c own T' h' S' (cells + 1) (slots + n) → Ext h h' → Exa Z h' h.size C → (∀ {O nm d : String} {ty : FieldType}, Laid Z a0 C O nm d → parseFieldDescriptor d = some ty → Fld Z h' h.size O nm d (defaultValue ty)) →
      (∃ cell : Cell, h'[h.size]? = some cell ∧ cell.vm = .none ∧ cell.monitor = {}) → (∀ x, S x → S' x) → S' h.size → Go p e below A (T'.setTop (mkF m (pc + 3) Ls (.ref h.size :: st)))) : Go p e below A (T.setTop (mkF m pc Ls st)) := by
  obtain ⟨q1, vm0, locs, X, eT, hZ, hown, hMo, N, hO, hC, rfl⟩ := X
  obtain ⟨T', h', X', e', E, A', D, M, stp⟩ := newO X q1.1 hZ hown w1 w2 w3 eT (g := mkF m pc Ls st) rfl (hb hby hd) hc hl
  exact Go.step stp (k T' h' (Safe Z EL vm0 h') ⟨q1, vm0, locs, X', e', hZ, hown, hMo.mono E.1, N, hO.ext E, hC.trans (CHr.ext E hC.1), rfl⟩ E A' D M (fun x hs => hs.ext E hC.1) fun B => by
    obtain ⟨cell, q⟩ := ((hC.1.step fun _ _ _ q => E.2 _ _ q).2 _ B).there
    exact absurd (Array.getElem?_eq_some_iff.mp q).1 (Nat.lt_irrefl _))
theorem gGetF (X : Sd w kn Z a0 EL p l e R s m args below meth c own T h S cells slots) (hby : c.code = code) {R0 O n d : String} {index : Nat} (w1 : (Jvm.Cond.fieldLink own index R0 n d).before a0 Z = true) (via : Via Z R0 O n d) {a : Addr} {v : Value} (F : Fld Z h a O n d v)
    (hd : decode code pc = .ok (.getfield index, 3)) (k : ∀ T', Sd w kn Z a0 EL p l e R s m args below meth c own T' h S cells slots → Go p e below A (T'.setTop (mkF m (pc + 3) Ls (v :: st)))) : Go p e below A (T.setTop (mkF m pc Ls (.ref a :: st))) := by
  obtain ⟨q1, vm0, locs, X, eT, hZ, r⟩ := X
  obtain ⟨T', X', e', stp⟩ := getF X q1.1 hZ r.1 (host := "") (Or.inl w1) via eT F (g := mkF m pc Ls (.ref a :: st)) rfl rfl (hb hby hd)
  exact Go.step stp (k T' ⟨q1, vm0, locs, X', e', hZ, r⟩)
theorem gGetS (X : Sd w kn Z a0 EL p l e R s m args below meth c own T h S cells slots) (hby : c.code = code) {R0 O n d : String} {index : Nat} (w1 : (Jvm.Cond.fieldLink own index R0 n d).before a0 Z = true) (via : Via Z R0 O n d) {v : Value} (F : Sta Z Z.heap O n d v)
    (hd : decode code pc = .ok (.getstatic index, 3)) (k : ∀ T', Sd w kn Z a0 EL p l e R s m args below meth c own T' h S cells slots → Go p e below A (T'.setTop (mkF m (pc + 3) Ls (v :: st)))) : Go p e below A (T.setTop (mkF m pc Ls st)) := by
  have hO := X.old
  obtain ⟨q1, vm0, locs, X, eT, hZ, r⟩ := X
  obtain ⟨T', X', e', stp⟩ := getS X q1.1 hZ r.1 (host := "") w1 via eT (F.ext hO.2) (g := mkF m pc Ls st) rfl (hb hby hd)
  exact Go.step stp (k T' ⟨q1, vm0, locs, X', e', hZ, r⟩)
theorem gPutF (X : Sd w kn Z a0 EL p l e R s m args below meth c own T h S cells slots) (hby : c.code = code) {R0 O n d C : String} {index kk : Nat} {ty : FieldType} (w1 : (Jvm.Cond.fieldLink own index R0 n d).before a0 Z = true) (via : Via Z R0 O n d) {a : Addr} {v old : Value} (F : Fld Z h a O n d old) (E : Exa Z h a C)
    (L : (Jvm.Cond.lays C O n d).before a0 Z = true ∨ ((Jvm.Cond.laysFinal C O n d).before a0 Z = true ∧ own = O ∧ meth.name = "<init>")) (wi : (Jvm.Cond.instantiable C kk).before a0 Z = true) (hty : parseFieldDescriptor d = some ty) (hn : narrow ty v = v) (hf : fits ty v = true) (hna : Z.heap.size ≤ a) (hs : S a)
    (hd : decode code pc = .ok (.putfield index, 3)) (k : ∀ T' h' S', Sd w kn Z a0 EL p l e R s m args below meth c own T' h' S' cells slots → Wr h h' a (Jvm.RoadKit.slotOf Z O n d) v → (∀ x, S x → S' x) → Go p e below A (T'.setTop (mkF m (pc + 3) Ls st))) : Go p e below A (T.setTop (mkF m pc Ls (v :: .ref a :: st))) := by
  obtain ⟨q1, vm0, locs, X, eT, hZ, hown, hMo, N, hO, hC, rfl⟩ := X
  obtain ⟨T', h', X', e', W, stp⟩ := putF X q1.1 hZ hown (host := "") (Or.inl w1) via eT F E L wi hty hn hf (g := mkF m pc Ls (v :: .ref a :: st)) rfl rfl (hb hby hd)
  exact Go.step stp (k T' h' (Safe Z EL vm0 h') ⟨q1, vm0, _, X', e', hZ, hown, hMo.mono (Nat.le_of_eq W.size.symm), Fr.snoc X' N hna, hO.wr W hna, hC.trans (CHr.wr W hs hC.1), rfl⟩ W (fun x hx => Safe.wr W hs hC.1 hx))
theorem gInitO (X : Sd w kn Z a0 EL p l e R s m args below meth c own T h S cells slots) (hby : c.code = code) {idx : Nat} (w1 : (Jvm.Cond.methodLink own idx Lib.objectInit).before a0 Z = true) (w2 : (Jvm.Cond.instanceMethod Lib.objectInit).before a0 Z = true) (w3 : (Jvm.Cond.code Lib.objectInit ⟨#[0xb1]⟩ 1 none).before a0 Z = true)
    (hsz : Ls.size = c.maxLocals) {a : Addr} (hd : decode code pc = .ok (.invokespecial idx, 3)) (hf : 1 ≤ R.frames) (hl : (st.map fun v => v.category).sum + 12 ≤ R.locals)
    (k : ∀ T', Sd w kn Z a0 EL p l e R s m args below meth c own T' h S cells slots → Go p e below A (T'.setTop (mkF m (pc + 3) Ls st))) : Go p e below A (T.setTop (mkF m pc Ls (.ref a :: st))) := by
  obtain ⟨q1, vm0, locs, X, eT, hZ, r⟩ := X
  obtain ⟨T', X', e', stp⟩ := initO X q1.1 hZ r.1 w1 w2 w3 eT (g := mkF m pc Ls (.ref a :: st)) rfl hsz rfl (hb hby hd) hf (W := (st.map fun v => v.category).sum) (by show 2 * 0 + _ ≤ _; omega) hl
  exact Go.step stp (k T' ⟨q1, vm0, locs, X', e', hZ, r⟩)
end OwnLaws
section OwnArrays
variable {p : Program} {l : Launch} {e : Env} {R : Room} {s : State} {m : MethodId} {args : Array Value} {below : List Frame} {meth : Method} {c : Code} {T : State} {locs : List Loc} {cells slots : Nat} {Z : State} {a0 : Array Value} {h h' : Heap} {EL : List (String × Nat)} {own : String} {w kn : Bool} {S : Addr → Prop} {A : Outcome → State → Prop} {Ls : Array Slot} {st : List Value} {pc : Nat} {code : ByteArray} {a b : Addr} {ty : FieldType} {xs : List Int32}
theorem n32 {n : Nat} (hn : n < 2147483648) : (Int32.ofNat n).toInt = n := Int32.toInt_ofNat_small hn
theorem c32 {n : Nat} (hn : n < 2147483648) : (Int32.ofNat n).toNatClampNeg = n := by simp only [Int32.toNatClampNeg, n32 hn]; omega
theorem nn32 {n : Nat} (hn : n < 2147483648) : ¬ Int32.ofNat n < 0 := by
  rw [Int32.lt_iff_toInt_lt, n32 hn]; simp
/-- an array of ints (chars, bytes ..) whose components are all known -/
def Ari (Z : State) (h : Heap) (a : Addr) (ty : FieldType) (xs : List Int32) : Prop := xs.length < 2147483648 ∧ ∃ k, Arv Z h a k ty (Int32.ofNat xs.length) (xs.map Value.int) (.int 0)
theorem Ari.ext (E : Ext h h') (F : Ari Z h a ty xs) : Ari Z h' a ty xs := by obtain ⟨q, k, F⟩ := F; exact ⟨q, k, F.ext E⟩
theorem Ari.keep {ws : List Addr} (F : Ari Z h a ty xs) (K : Keep h h' ws) (q : a ∉ ws) : Ari Z h' a ty xs := by obtain ⟨r, k, F⟩ := F; exact ⟨r, k, F.keep K q⟩
theorem Ari.other {sl : Nat} {v : Value} (F : Ari Z h a ty xs) (W : Wr h h' b sl v) (q : a ≠ b) : Ari Z h' a ty xs := by obtain ⟨r, k, F⟩ := F; exact ⟨r, k, F.other W q⟩
theorem Ari.lt (F : Ari Z h a ty xs) : a < h.size := by obtain ⟨-, k, F⟩ := F; exact F.lt
theorem Ari.len (F : Ari Z h a ty xs) : xs.length < 2147483648 := F.1
theorem Ari.fits (F : Ari Z h a ty xs) {i : Nat} (hi : i < xs.length) : fits ty (.int (xs.getD i 0)) = true := by
  obtain ⟨q, k, cl, A, r1, r2, r3, H, G⟩ := F
  have := G i (by rw [r2, c32 q]; exact hi)
  simpa [List.getD_eq_getElem?_getD, hi] using this
theorem Sd.safeAri (X : Sd w kn Z a0 EL p l e R s m args below meth c own T h S cells slots) (F : Ari Z h a ty xs) (ht : ty ≠ .byte) : S a := by obtain ⟨-, k, F⟩ := F; exact X.safeArr F ht
theorem nar_fits {x : Int32} (ht : ty = .int ∨ ty = .char ∨ ty = .byte ∨ ty = .boolean) (hf : Jvm.fits ty (.int x) = true) : nar ty x = x := by
  rcases ht with rfl | rfl | rfl | rfl
  · rfl
  · have q := rng_char hf
    apply Int32.toInt_inj.mp
    have r := c_i2c x
    simp only [nar]
    simp only [Int32.lt_iff_toInt_lt, Int32.reduceToInt] at q
    omega
  · have q := rng_byte hf
    apply Int32.toInt_inj.mp
    have r := c_i2b x
    simp only [nar]
    simp only [Int32.lt_iff_toInt_lt, Int32.reduceToInt] at q
    omega
  · simp only [Jvm.fits, Bool.or_eq_true, beq_iff_eq] at hf
    rcases hf with rfl | rfl <;> rfl
theorem gLen (X : Sd w kn Z a0 EL p l e R s m args below meth c own T h S cells slots) (hby : c.code = code) (F : Ari Z h a ty xs) (hd : decode code pc = .ok (.arraylength, 1)) (k : Go p e below A (T.setTop (mkF m (pc + 1) Ls (.int (Int32.ofNat xs.length) :: st)))) :
    Go p e below A (T.setTop (mkF m pc Ls (.ref a :: st))) := by
  obtain ⟨q1, vm0, locs, X, eT, hZ, -⟩ := X
  obtain ⟨q, kk, cl, F, r1, r2, r3, H, G⟩ := F
  refine Go.step (fun t k => X.arraylength q1.1 (by rw [eT]; exact F.1) (State.isArrayOf_alike (T := s.setVm vm0) hZ.alike F.2.1) (g := mkF m pc Ls (.ref a :: st)) rfl rfl (hb hby hd) t k) ?_
  rw [len_of r2 r3]; exact k
theorem gLd (X : Sd w kn Z a0 EL p l e R s m args below meth c own T h S cells slots) (hby : c.code = code) (F : Ari Z h a ty xs) {ins : Instr} (hi : (ins = .iaload ∧ ty = .int) ∨ (ins = .caload ∧ ty = .char) ∨ (ins = .baload ∧ ty = .byte)) (hd : decode code pc = .ok (ins, 1)) {j : Int32} {i : Nat} (hj : j = Int32.ofNat i) (hl : i < xs.length)
    (k : Go p e below A (T.setTop (mkF m (pc + 1) Ls (.int (xs.getD i 0) :: st)))) : Go p e below A (T.setTop (mkF m pc Ls (.int j :: .ref a :: st))) := by
  obtain ⟨q1, vm0, locs, X, eT, hZ, -⟩ := X
  obtain ⟨q, kk, cl, F, r1, r2, r3, H, G⟩ := F
  subst hj
  have hi31 : i < 2147483648 := Nat.lt_trans hl q
  have hin : ¬ (Int32.ofNat i < 0 ∨ cl.slots.size ≤ (Int32.ofNat i).toNatClampNeg) := by
    rw [r2, c32 q, c32 hi31]; exact fun z => z.elim (nn32 hi31) (by omega)
  have hat : cl.slots[(Int32.ofNat i).toNatClampNeg]? = some (.int (xs.getD i 0)) := Has.at H hin (by rw [c32 hi31]; simp [List.getD_eq_getElem?_getD, hl])
  have hT := State.isArrayOf_alike (T := s.setVm vm0) hZ.alike F.2.1
  have hc : T.heap[a]? = some cl := by rw [eT]; exact F.1
  rcases hi with ⟨rfl, rfl⟩ | ⟨rfl, rfl⟩ | ⟨rfl, rfl⟩
  · exact Go.step (fun t k => X.iaload q1.1 hc hT F.2.2 hin hat (g := mkF m pc Ls _) rfl rfl (hb hby hd) t k) k
  · exact Go.step (fun t k => X.caload q1.1 hc hT F.2.2 hin hat (g := mkF m pc Ls _) rfl rfl (hb hby hd) t k) k
  · exact Go.step (fun t k => X.baloadBytes q1.1 hc hT F.2.2 hin hat (g := mkF m pc Ls _) rfl rfl (hb hby hd) t k) k
theorem gSt (X : Sd w kn Z a0 EL p l e R s m args below meth c own T h S cells slots) (hby : c.code = code) (F : Ari Z h a ty xs) {ins : Instr} (hi : (ins = .iastore ∧ ty = .int) ∨ (ins = .castore ∧ ty = .char) ∨ (ins = .bastore ∧ ty = .byte)) (hd : decode code pc = .ok (ins, 1)) {j x : Int32} {i : Nat} (hj : j = Int32.ofNat i) (hl : i < xs.length)
    (hf : Jvm.fits ty (.int (nar ty x)) = true) (hna : Z.heap.size ≤ a) (hs : S a)
    (k : ∀ T' h' S', Sd w kn Z a0 EL p l e R s m args below meth c own T' h' S' cells slots → Wr h h' a i (.int (nar ty x)) → Ari Z h' a ty (xs.set i (nar ty x)) → (∀ x, S x → S' x) → Go p e below A (T'.setTop (mkF m (pc + 1) Ls st))) :
    Go p e below A (T.setTop (mkF m pc Ls (.int x :: .int j :: .ref a :: st))) := by
  obtain ⟨q1, vm0, locs, X, eT, hZ, hown, hMo, N, hO, hC, rfl⟩ := X
  obtain ⟨q, kk, cl, F, r1, r2, r3, H, G⟩ := F
  subst hj
  have hi31 : i < 2147483648 := Nat.lt_trans hl q
  have hin : ¬ (Int32.ofNat i < 0 ∨ cl.slots.size ≤ (Int32.ofNat i).toNatClampNeg) := by
    rw [r2, c32 q, c32 hi31]; exact fun z => z.elim (nn32 hi31) (by omega)
  have go : ∀ T' h', Stand p l e R (s.setVm vm0) m args below meth c T' (locs ++ [⟨a, (Int32.ofNat i).toNatClampNeg⟩]) cells slots → T'.heap = h' → Wr h h' a (Int32.ofNat i).toNatClampNeg (.int (nar ty x)) →
      (∀ target, Steps p.tables e below (T'.setTop (mkF m (pc + 1) Ls st)) target → Steps p.tables e below (T.setTop (mkF m pc Ls (.int x :: .int (Int32.ofNat i) :: .ref a :: st))) target) → Go p e below A (T.setTop (mkF m pc Ls (.int x :: .int (Int32.ofNat i) :: .ref a :: st))) := by
    intro T' h' X' e' W stp
    refine Go.step stp (k T' h' (Safe Z EL vm0 h') ⟨q1, vm0, _, X', e', hZ, hown, hMo.mono (Nat.le_of_eq W.size.symm), Fr.snoc X' N hna, hO.wr W hna, hC.trans (CHr.wr W hs hC.1), rfl⟩ (by rw [c32 hi31] at W; exact W) ⟨by simpa using q, kk, ?_⟩ (fun x hx => Safe.wr W hs hC.1 hx))
    have := Arv.set (v := .int (nar ty x)) F r1 r2 r3 H G hf W i (c32 hi31) (by simpa using hl)
    rw [List.length_set, List.map_set]
    exact this
  rcases hi with ⟨rfl, rfl⟩ | ⟨rfl, rfl⟩ | ⟨rfl, rfl⟩
  · obtain ⟨T', h', X', e', W, stp⟩ := stI X q1.1 hZ eT F hin (g := mkF m pc Ls _) rfl rfl (hb hby hd)
    exact go T' h' X' e' W stp
  · obtain ⟨T', h', X', e', W, stp⟩ := stC X q1.1 hZ eT F hin (g := mkF m pc Ls _) rfl rfl (hb hby hd)
    exact go T' h' X' e' W stp
  · obtain ⟨T', h', X', e', W, stp⟩ := stB X q1.1 hZ eT F hin (g := mkF m pc Ls _) rfl rfl (hb hby hd)
    exact go T' h' X' e' W stp
theorem gNewA (X : Sd w kn Z a0 EL p l e R s m args below meth c own T h S cells slots) (hby : c.code = code) {aty : ArrayType} (w1 : (Jvm.Cond.arrayClass (newarray.typeOf aty)).before a0 Z = true) (hd : decode code pc = .ok (.newarray aty, 2)) (hdv : defaultValue (newarray.typeOf aty) = .int 0) {n : Int32} {N cap : Nat} (hn : n = Int32.ofNat N) (hN : N ≤ cap) (hb8 : cap * 8 ≤ 536870912)
    (hc : cells + 1 ≤ R.cells) (hl : slots + cap ≤ R.slots)
    (k : ∀ T' h' S', Sd w kn Z a0 EL p l e R s m args below meth c own T' h' S' (cells + 1) (slots + cap) → Ext h h' → Ari Z h' h.size (newarray.typeOf aty) (List.replicate N 0) → (∀ x, S x → S' x) → S' h.size → Go p e below A (T'.setTop (mkF m (pc + 2) Ls (.ref h.size :: st)))) :
    Go p e below A (T.setTop (mkF m pc Ls (.int n :: st))) := by
  obtain ⟨q1, vm0, locs, X, eT, hZ, hown, hMo, N0, hO, hC, rfl⟩ := X
  subst hn
  have hN31 : N < 2147483648 := by omega
  obtain ⟨T', h', kA, X', e', E, A', stp⟩ := newP X q1.1 hZ w1 eT (g := mkF m pc Ls _) rfl (hb hby hd) rfl (nn32 hN31) (cap := cap) (by rw [c32 hN31]; exact hN) hb8 hc hl
  refine Go.step stp (k T' h' (Safe Z EL vm0 h') ⟨q1, vm0, locs, X', e', hZ, hown, hMo.mono E.1, N0, hO.ext E, hC.trans (CHr.ext E hC.1), rfl⟩ E ⟨by simpa using hN31, kA, ?_⟩ (fun x hs => hs.ext E hC.1) fun B => by
    obtain ⟨cell, q⟩ := ((hC.1.step fun _ _ _ q => E.2 _ _ q).2 _ B).there
    exact absurd (Array.getElem?_eq_some_iff.mp q).1 (Nat.lt_irrefl _))
  have V := Arv.new A' (nn32 hN31)
  rw [hdv] at V
  have := V.pad (vs' := [] ++ List.replicate N (.int 0)) (pad_rep [] (.int 0) N)
  rw [List.nil_append] at this
  simpa using this
end OwnArrays
section OwnCalls
variable {p : Program} {l : Launch} {e : Env} {R : Room} {s : State} {m : MethodId} {args : Array Value} {below : List Frame} {meth : Method} {c : Code} {T : State} {locs : List Loc} {cells slots : Nat} {Z : State} {a0 : Array Value} {h h' : Heap} {EL : List (String × Nat)} {own : String} {w kn : Bool} {S : Addr → Prop} {A : Outcome → State → Prop} {Ls : Array Slot} {st stk : List Value} {pc : Nat} {code : ByteArray}
  {y : MethodName} {bytes : ByteArray} {maxL : Nat} {ret : Option FieldType} {rm : Room} {as' : Array Value} {sf : List Addr} {Q : Option Value → Heap → (Addr → Prop) → Prop} {vm0 : Vm} {len W : Nat}
/-- what comes back of a call by its contract -/
def Bck (Z : State) (EL : List (String × Nat)) (rm : Room) (Q : Option Value → Heap → (Addr → Prop) → Prop) (vm0 : Vm) (h : Heap) (A : Pt) (v : Option Value) (B : Pt) : Prop := ∃ L, Q v B.U.heap (Safe Z EL B.U.vm B.U.heap) ∧ Fr Z.heap.size L ∧ Old Z Z.heap.size B.U.heap ∧ B.locs = A.locs ++ L ∧ B.cells = A.cells + rm.cells ∧ B.slots = A.slots + rm.slots ∧ CHr Z EL vm0 h B.U.vm B.U.heap
theorem Ct.backW (K : Ct true kn Z EL l y bytes maxL ret rm as' h sf Q) (hZ : Z.Warmed39 vm0) (wc : (Jvm.Cond.code y bytes maxL ret).before a0 Z = true) (wz : (Jvm.Cond.initialized y.cls).before a0 Z = true) (hf : rm.frames + 1 ≤ R.frames) (hl : W + (maxL + 11) + rm.locals ≤ R.locals) (hEL : EW Z a0 EL) (H : CHv Z EL vm0 h) (hsf : ∀ x ∈ sf, Safe Z EL vm0 h x) (hKn : Kn kn vm0 below) :
    BackS l R p e below (s.setVm vm0) args y len W (fun A a => a = as' ∧ A.U.heap = h ∧ A.cells + rm.cells ≤ R.cells ∧ A.slots + rm.slots ≤ R.slots) (fun A _ v B => Bck Z EL rm Q vm0 h A v B) :=
  BackS.of_freeWG (bytes := bytes) (maxL := maxL) (ret := ret) (E := fun _ first o t L k n => k = rm.cells ∧ n = rm.slots ∧ (∃ v, o = .returned v ∧ Q v t.heap (Safe Z EL t.vm t.heap)) ∧ Fr Z.heap.size L ∧ Old Z Z.heap.size t.heap ∧ CHr Z EL first.vm first.heap t.vm t.heap) K hf hl
    (fun m meth c A a Y hp => have hU : Z.Warmed39 A.U.vm := wtrans (s := s.setVm vm0) hZ Y.warmed
      ⟨by show (Jvm.Cond.and _ .tt).before a A.U = true; rw [Cond.before_and, mv hU wc]; rfl, mv hU wc, mv hU wz, hp.2.2.1, hp.2.2.2⟩)
    (fun m meth c A a g mk Y hp => ⟨hp.1, wtrans (s := s.setVm vm0) hZ Y.warmed, hp.2.1, (CHv.at Y hZ hEL H).1, fun x hx => by
      by_cases hlt : x < h.size
      · exact (CHv.at Y hZ hEL H).safe hlt (hsf x hx)
      · exact Safe.new (Nat.le_of_not_lt hlt)⟩)
    (fun m meth c A a g mk Y _ hg => by
      cases kn with
      | false => trivial
      | true => exact known_frames Y hg hKn.1 hKn.2)
    (fun _ _ _ _ ⟨v, L, h1, h2, h3, h4, h5, h6⟩ => ⟨L, _, _, h6, rfl, rfl, ⟨v, h1, h2⟩, h3, h4, h5⟩)
    (fun m meth c A a g mk v t L k n Y hp _ _ ⟨e1, e2, ⟨v', e3, e4⟩, e5, e6, e7⟩ => by
      cases e3; subst e1 e2
      refine ⟨L, e4, e5, e6, rfl, rfl, rfl, (CHv.at Y hZ hEL H).trans ?_⟩
      rw [← hp.2.1]; exact e7)
theorem Ct.backN (K : Ct false kn Z EL l y bytes maxL ret rm as' h sf Q) (hZ : Z.Warmed39 vm0) (wc : (Jvm.Cond.code y bytes maxL ret).before a0 Z = true) (wz : (Jvm.Cond.initialized y.cls).before a0 Z = true) (hf : rm.frames + 1 ≤ R.frames) (hl : W + (maxL + 11) + rm.locals ≤ R.locals) (hEL : EW Z a0 EL) (H : CHv Z EL vm0 h) (hsf : ∀ x ∈ sf, Safe Z EL vm0 h x) (hKn : Kn kn vm0 below) :
    Back l R p e below (s.setVm vm0) args y len W (fun A a => a = as' ∧ A.U.heap = h ∧ A.cells + rm.cells ≤ R.cells ∧ A.slots + rm.slots ≤ R.slots) (fun A _ v B => Bck Z EL rm Q vm0 h A v B) :=
  Back.of_freeG (bytes := bytes) (maxL := maxL) (ret := ret) (E := fun _ first o t L k n => k = rm.cells ∧ n = rm.slots ∧ (∃ v, o = .returned v ∧ Q v t.heap (Safe Z EL t.vm t.heap)) ∧ Fr Z.heap.size L ∧ Old Z Z.heap.size t.heap ∧ CHr Z EL first.vm first.heap t.vm t.heap) K hf hl
    (fun m meth c A a Y hp => have hU : Z.Warmed39 A.U.vm := wtrans (s := s.setVm vm0) hZ Y.warmed
      ⟨by show (Jvm.Cond.and _ .tt).before a A.U = true; rw [Cond.before_and, mv hU wc]; rfl, mv hU wc, mv hU wz, hp.2.2.1, hp.2.2.2⟩)
    (fun m meth c A a g mk Y hp => ⟨hp.1, wtrans (s := s.setVm vm0) hZ Y.warmed, hp.2.1, (CHv.at Y hZ hEL H).1, fun x hx => by
      by_cases hlt : x < h.size
      · exact (CHv.at Y hZ hEL H).safe hlt (hsf x hx)
      · exact Safe.new (Nat.le_of_not_lt hlt)⟩)
    (fun m meth c A a g mk Y _ hg => by
      cases kn with
      | false => trivial
      | true => exact known_frames Y hg hKn.1 hKn.2)
    (fun _ _ _ _ ⟨v, L, h1, h2, h3, h4, h5, h6⟩ => ⟨L, _, _, h6, rfl, rfl, ⟨v, h1, h2⟩, h3, h4, h5⟩)
    (fun m meth c A a g mk v t L k n Y hp _ _ ⟨e1, e2, ⟨v', e3, e4⟩, e5, e6, e7⟩ => by
      cases e3; subst e1 e2
      refine ⟨L, e4, e5, e6, rfl, rfl, rfl, (CHv.at Y hZ hEL H).trans ?_⟩
      rw [← hp.2.1]; exact e7)
/-- the walk behind a call, wide and narrow -/
theorem doneW {T' : State} {B : Pt} {v : Option Value} {A0 : Pt} (q1 : Bs kn Z a0 EL p s below meth) (hZ : Z.Warmed39 vm0) (hown : vm0.findClass own = some m.cls) (hMo : Mo true s vm0 h.size) (N : Fr Z.heap.size A0.locs) (hC : CHr Z EL s.vm s.heap vm0 h)
    (X' : Stand p l e R ((s.setVm vm0).setVm B.U.vm) m args below meth c B.U B.locs B.cells B.slots) (hS : (s.setVm vm0).Since B.U.vm B.U.heap.size) (hB : Bck Z EL rm Q vm0 h A0 v B) :
    Sd true kn Z a0 EL p l e R s m args below meth c own B.U B.U.heap (Safe Z EL B.U.vm B.U.heap) (A0.cells + rm.cells) (A0.slots + rm.slots) ∧ Q v B.U.heap (Safe Z EL B.U.vm B.U.heap) ∧ (∀ x, x < h.size → Safe Z EL vm0 h x → Safe Z EL B.U.vm B.U.heap x) ∧ h.size ≤ B.U.heap.size := by
  obtain ⟨L, hQ, hN, hO', l1, l2, l3, hC'⟩ := hB
  rw [l1, l2, l3] at X'
  exact ⟨⟨q1, _, _, X', rfl, State.Warmed39.trans (t := s.setVm vm0) hZ hS.1, by rw [hS.1.alike.findClass]; exact hown, hMo.since hS hC'.2.1, Fr.app N hN, hO', hC.trans hC', rfl⟩, hQ, fun x hx hs => hC'.safe hx hs, hC'.2.1⟩
theorem doneN {B : Pt} {v : Option Value} {A0 : Pt} (q1 : Bs kn Z a0 EL p s below meth) (hZ : Z.Warmed39 vm0) (hown : vm0.findClass own = some m.cls) (hMo : Mo w s vm0 h.size) (N : Fr Z.heap.size A0.locs) (hC : CHr Z EL s.vm s.heap vm0 h)
    (X' : Stand p l e R (s.setVm vm0) m args below meth c B.U B.locs B.cells B.slots) (hB : Bck Z EL rm Q vm0 h A0 v B) :
    Sd w kn Z a0 EL p l e R s m args below meth c own B.U B.U.heap (Safe Z EL B.U.vm B.U.heap) (A0.cells + rm.cells) (A0.slots + rm.slots) ∧ Q v B.U.heap (Safe Z EL B.U.vm B.U.heap) ∧ (∀ x, x < h.size → Safe Z EL vm0 h x → Safe Z EL B.U.vm B.U.heap x) ∧ h.size ≤ B.U.heap.size := by
  obtain ⟨L, hQ, hN, hO', l1, l2, l3, hC'⟩ := hB
  have hW := X'.warmed
  have X2 := X'.retabled X'.warmed.wide
  rw [l1, l2, l3] at X2
  exact ⟨⟨q1, _, _, X2, rfl, State.Warmed39.trans (t := s.setVm vm0) hZ hW.wide, by rw [hW.alike.findClass]; exact hown, (hMo.narrow hW).mono hC'.2.1, Fr.app N hN, hO', hC.trans hC', rfl⟩, hQ, fun x hx hs => hC'.safe hx hs, hC'.2.1⟩
theorem gStatic (X : Sd w kn Z a0 EL p l e R s m args below meth c own T h S cells slots) (hby : c.code = code) {index : Nat} {argsL : List Value} (K : Ct w kn Z EL l y bytes maxL ret rm argsL.toArray h sf Q)
    (w1 : (Jvm.Cond.methodLink own index y).before a0 Z = true) (w2 : (Jvm.Cond.static y).before a0 Z = true) (w3 : (Jvm.Cond.initialized y.cls).before a0 Z = true) (w4 : (Jvm.Cond.code y bytes maxL ret).before a0 Z = true) {ps : List FieldType} {r : Option FieldType} (hdesc : parseMethodDescriptor y.desc = some ⟨ps, r⟩) (hlen : argsL.length = ps.length)
    (hd : decode code pc = .ok (.invokestatic index, 3)) (hstk : stk = argsL.reverse ++ st) (hsz : Ls.size = c.maxLocals) (hsf : ∀ x ∈ sf, S x) (hfr : rm.frames + 1 ≤ R.frames) (hlo : (st.map fun v => v.category).sum + (maxL + 11) + rm.locals ≤ R.locals) (hc : cells + rm.cells ≤ R.cells) (hs : slots + rm.slots ≤ R.slots)
    (k : ∀ v T' h' S', Sd w kn Z a0 EL p l e R s m args below meth c own T' h' S' (cells + rm.cells) (slots + rm.slots) → Q v h' S' → (∀ x, x < h.size → S x → S' x) → h.size ≤ h'.size → Go p e below A (T'.setTop (mkF m (pc + 3) Ls (v.toList ++ st))))
    (hy : y.cls ≠ "java/lang/invoke/MethodHandle" ∧ y.cls ≠ "java/lang/invoke/VarHandle" := by decide) : Go p e below A (T.setTop (mkF m pc Ls stk)) := by
  obtain ⟨q1, vm0, locs, X, eT, hZ, hown, hMo, N, hO, hC, rfl⟩ := X
  have hKn := q1.2.2.1.mv hMo.alike
  cases w with
  | false =>
    obtain ⟨v, vm1, B, -, X', hB, stp⟩ := Jvm.LawKit.callS X q1.1 hown (mvT (s := s.setVm vm0) hZ w1) (mvT (s := s.setVm vm0) hZ w2) (mvT (s := s.setVm vm0) hZ w3) (mvT (s := s.setVm vm0) hZ w4) hy (K.backN (W := (st.map fun v => v.category).sum) hZ w4 w3 hfr hlo q1.2.1 hC.1 hsf hKn) (g := mkF m pc Ls stk) rfl hsz (argsL := argsL) (rest := st) (lenOf hdesc hlen) hstk (by show 2 * 0 + _ ≤ _; omega) (hb hby hd) (fun _ _ => ⟨rfl, eT, hc, hs⟩)
    obtain ⟨X1, hQ, hS, hz⟩ := doneN (A0 := ⟨T.setVm vm1, locs, cells, slots⟩) q1 hZ hown hMo N hC X' hB
    exact Go.step stp (k v _ _ _ X1 hQ hS hz)
  | true =>
    obtain ⟨v, vm1, B, -, X', hSi, -, hB, stp⟩ := callSS X q1.1 hown (mvT (s := s.setVm vm0) hZ w1) (mvT (s := s.setVm vm0) hZ w2) (mvT (s := s.setVm vm0) hZ w3) (mvT (s := s.setVm vm0) hZ w4) hy (K.backW (W := (st.map fun v => v.category).sum) hZ w4 w3 hfr hlo q1.2.1 hC.1 hsf hKn) (g := mkF m pc Ls stk) rfl hsz (argsL := argsL) (rest := st) (lenOf hdesc hlen) hstk (by show 2 * 0 + _ ≤ _; omega) (hb hby hd) (fun _ _ => ⟨rfl, eT, hc, hs⟩)
    obtain ⟨X1, hQ, hS, hz⟩ := doneW (T' := T) (A0 := ⟨T.setVm vm1, locs, cells, slots⟩) q1 hZ hown hMo N hC X' hSi hB
    exact Go.tr stp (k v _ _ _ X1 hQ hS hz)
theorem gInit (X : Sd w kn Z a0 EL p l e R s m args below meth c own T h S cells slots) (hby : c.code = code) {index : Nat} {a : Addr} {argsL : List Value} (K : Ct w kn Z EL l y bytes maxL none rm (.ref a :: argsL).toArray h sf Q) (hy1 : y.name = "<init>")
    (w1 : (Jvm.Cond.methodLink own index y).before a0 Z = true) (w2 : (Jvm.Cond.instanceMethod y).before a0 Z = true) (w3 : (Jvm.Cond.initialized y.cls).before a0 Z = true) (w4 : (Jvm.Cond.code y bytes maxL none).before a0 Z = true) {ps : List FieldType} {r : Option FieldType} (hdesc : parseMethodDescriptor y.desc = some ⟨ps, r⟩) (hlen : argsL.length = ps.length)
    (hd : decode code pc = .ok (.invokespecial index, 3)) (hstk : stk = argsL.reverse ++ .ref a :: st) (hsz : Ls.size = c.maxLocals) (hsf : ∀ x ∈ sf, S x) (hfr : rm.frames + 1 ≤ R.frames) (hlo : (st.map fun v => v.category).sum + (maxL + 11) + rm.locals ≤ R.locals) (hc : cells + rm.cells ≤ R.cells) (hs : slots + rm.slots ≤ R.slots)
    (k : ∀ v T' h' S', Sd w kn Z a0 EL p l e R s m args below meth c own T' h' S' (cells + rm.cells) (slots + rm.slots) → Q v h' S' → (∀ x, x < h.size → S x → S' x) → h.size ≤ h'.size → Go p e below A (T'.setTop (mkF m (pc + 3) Ls (v.toList ++ st))))
    (hy : y.cls ≠ "java/lang/invoke/MethodHandle" ∧ y.cls ≠ "java/lang/invoke/VarHandle" := by decide) : Go p e below A (T.setTop (mkF m pc Ls stk)) := by
  obtain ⟨q1, vm0, locs, X, eT, hZ, hown, hMo, N, hO, hC, rfl⟩ := X
  have hKn := q1.2.2.1.mv hMo.alike
  cases w with
  | false =>
    obtain ⟨v, vm1, B, -, X', hB, stp⟩ := X.specialBack q1.1 hy1 hown (mvT (s := s.setVm vm0) hZ w1) (mvT (s := s.setVm vm0) hZ w2) (mvT (s := s.setVm vm0) hZ w4) hy (K.backN (W := (st.map fun v => v.category).sum) hZ w4 w3 hfr hlo q1.2.1 hC.1 hsf hKn) (g := mkF m pc Ls stk) rfl hsz (Steps.refl _) (a := a) (argsL := argsL) (rest := st) (lenOf hdesc hlen) hstk (by show 2 * 0 + _ ≤ _; omega) (hb hby hd) (fun _ _ => ⟨rfl, eT, hc, hs⟩)
    obtain ⟨X1, hQ, hS, hz⟩ := doneN (A0 := ⟨T.setVm vm1, locs, cells, slots⟩) q1 hZ hown hMo N hC X' hB
    exact Go.tr stp (k v _ _ _ X1 hQ hS hz)
  | true =>
    obtain ⟨v, vm1, B, -, X', hSi, -, hB, stp⟩ := X.specialBackS q1.1 hy1 hown (mvT (s := s.setVm vm0) hZ w1) (mvT (s := s.setVm vm0) hZ w2) (mvT (s := s.setVm vm0) hZ w4) hy (K.backW (W := (st.map fun v => v.category).sum) hZ w4 w3 hfr hlo q1.2.1 hC.1 hsf hKn) (g := mkF m pc Ls stk) rfl hsz (Steps.refl _) (a := a) (argsL := argsL) (rest := st) (lenOf hdesc hlen) hstk (by show 2 * 0 + _ ≤ _; omega) (hb hby hd) (fun _ _ => ⟨rfl, eT, hc, hs⟩)
    obtain ⟨X1, hQ, hS, hz⟩ := doneW (T' := T) (A0 := ⟨T.setVm vm1, locs, cells, slots⟩) q1 hZ hown hMo N hC X' hSi hB
    exact Go.tr stp (k v _ _ _ X1 hQ hS hz)
/-- invokevirtual of y, which it also selects -/
theorem gVirt (X : Sd w kn Z a0 EL p l e R s m args below meth c own T h S cells slots) (hby : c.code = code) {index : Nat} {a : Addr} {C : String} {argsL : List Value} (K : Ct w kn Z EL l y bytes maxL ret rm (.ref a :: argsL).toArray h sf Q) (E : Exa Z h a C)
    (w1 : (Jvm.Cond.methodLink own index y).before a0 Z = true) (w2 : (Jvm.Cond.declares y).before a0 Z = true) (w5 : (Jvm.Cond.selects C y y).before a0 Z = true) (w6 : (Jvm.Cond.instanceMethod y).before a0 Z = true) (w3 : (Jvm.Cond.initialized y.cls).before a0 Z = true) (w4 : (Jvm.Cond.code y bytes maxL ret).before a0 Z = true) {ps : List FieldType} {r : Option FieldType} (hdesc : parseMethodDescriptor y.desc = some ⟨ps, r⟩) (hlen : argsL.length = ps.length)
    (hd : decode code pc = .ok (.invokevirtual index, 3)) (hstk : stk = argsL.reverse ++ .ref a :: st) (hsz : Ls.size = c.maxLocals) (hsf : ∀ x ∈ sf, S x) (hfr : rm.frames + 1 ≤ R.frames) (hlo : (st.map fun v => v.category).sum + (maxL + 11) + rm.locals ≤ R.locals) (hc : cells + rm.cells ≤ R.cells) (hs : slots + rm.slots ≤ R.slots)
    (k : ∀ v T' h' S', Sd w kn Z a0 EL p l e R s m args below meth c own T' h' S' (cells + rm.cells) (slots + rm.slots) → Q v h' S' → (∀ x, x < h.size → S x → S' x) → h.size ≤ h'.size → Go p e below A (T'.setTop (mkF m (pc + 3) Ls (v.toList ++ st))))
    (hy : y.cls ≠ "java/lang/invoke/MethodHandle" ∧ y.cls ≠ "java/lang/invoke/VarHandle" := by decide) : Go p e below A (T.setTop (mkF m pc Ls stk)) := by
  obtain ⟨q1, vm0, locs, X, eT, hZ, hown, hMo, N, hO, hC, rfl⟩ := X
  have hKn := q1.2.2.1.mv hMo.alike
  obtain ⟨cq, kq, i1, i2, i3⟩ := isOf (s := s.setVm vm0) hZ eT E
  cases w with
  | false =>
    obtain ⟨v, vm1, B, -, X', hB, stp⟩ := X.virtualBack q1.1 (y := y) (z := y) hown (mvT (s := s.setVm vm0) hZ w1) (mvT (s := s.setVm vm0) hZ w2) (notFace_of_selects (args := #[]) (mvT (s := s.setVm vm0) hZ w5)) (mvT (s := s.setVm vm0) hZ w5) (mvT (s := s.setVm vm0) hZ w6) hy (K.backN (W := (st.map fun v => v.category).sum) hZ w4 w3 hfr hlo q1.2.1 hC.1 hsf hKn) i1 i3 (g := mkF m pc Ls stk) rfl hsz (Steps.refl _) (argsL := argsL) (rest := st) (lenOf hdesc hlen) hstk (by show 2 * 0 + _ ≤ _; omega) (hb hby hd) (fun _ _ => ⟨rfl, eT, hc, hs⟩)
    obtain ⟨X1, hQ, hS, hz⟩ := doneN (A0 := ⟨T.setVm vm1, locs, cells, slots⟩) q1 hZ hown hMo N hC X' hB
    exact Go.tr stp (k v _ _ _ X1 hQ hS hz)
  | true =>
    obtain ⟨v, vm1, B, -, X', hSi, -, hB, stp⟩ := X.virtualBackS q1.1 (y := y) (z := y) hown (mvT (s := s.setVm vm0) hZ w1) (mvT (s := s.setVm vm0) hZ w2) (notFace_of_selects (args := #[]) (mvT (s := s.setVm vm0) hZ w5)) (mvT (s := s.setVm vm0) hZ w5) (mvT (s := s.setVm vm0) hZ w6) hy (K.backW (W := (st.map fun v => v.category).sum) hZ w4 w3 hfr hlo q1.2.1 hC.1 hsf hKn) i1 i3 (g := mkF m pc Ls stk) rfl hsz (Steps.refl _) (argsL := argsL) (rest := st) (lenOf hdesc hlen) hstk (by show 2 * 0 + _ ≤ _; omega) (hb hby hd) (fun _ _ => ⟨rfl, eT, hc, hs⟩)
    obtain ⟨X1, hQ, hS, hz⟩ := doneW (T' := T) (A0 := ⟨T.setVm vm1, locs, cells, slots⟩) q1 hZ hown hMo N hC X' hSi hB
    exact Go.tr stp (k v _ _ _ X1 hQ hS hz)
/-- invokevirtual through a subclass's name: z names a method that owner declares -/
theorem gVirtUp (X : Sd w kn Z a0 EL p l e R s m args below meth c own T h S cells slots) (hby : c.code = code) {index : Nat} {a : Addr} {C owner : String} {z : MethodName} {argsL : List Value} (K : Ct w kn Z EL l y bytes maxL ret rm (.ref a :: argsL).toArray h sf Q) (E : Exa Z h a C)
    (w1 : (Jvm.Cond.methodLink own index z).before a0 Z = true) (w7 : (Jvm.Cond.sameMethod z.cls owner z.name z.desc).before a0 Z = true) (w2 : (Jvm.Cond.declares ⟨owner, z.name, z.desc⟩).before a0 Z = true) (w5 : (Jvm.Cond.selects C z y).before a0 Z = true) (w6 : (Jvm.Cond.instanceMethod y).before a0 Z = true) (w3 : (Jvm.Cond.initialized y.cls).before a0 Z = true) (w4 : (Jvm.Cond.code y bytes maxL ret).before a0 Z = true) {ps : List FieldType} {r : Option FieldType} (hdesc : parseMethodDescriptor z.desc = some ⟨ps, r⟩) (hlen : argsL.length = ps.length)
    (hd : decode code pc = .ok (.invokevirtual index, 3)) (hstk : stk = argsL.reverse ++ .ref a :: st) (hsz : Ls.size = c.maxLocals) (hsf : ∀ x ∈ sf, S x) (hfr : rm.frames + 1 ≤ R.frames) (hlo : (st.map fun v => v.category).sum + (maxL + 11) + rm.locals ≤ R.locals) (hc : cells + rm.cells ≤ R.cells) (hs : slots + rm.slots ≤ R.slots)
    (k : ∀ v T' h' S', Sd w kn Z a0 EL p l e R s m args below meth c own T' h' S' (cells + rm.cells) (slots + rm.slots) → Q v h' S' → (∀ x, x < h.size → S x → S' x) → h.size ≤ h'.size → Go p e below A (T'.setTop (mkF m (pc + 3) Ls (v.toList ++ st))))
    (hy : owner ≠ "java/lang/invoke/MethodHandle" ∧ owner ≠ "java/lang/invoke/VarHandle" := by decide) : Go p e below A (T.setTop (mkF m pc Ls stk)) := by
  obtain ⟨q1, vm0, locs, X, eT, hZ, hown, hMo, N, hO, hC, rfl⟩ := X
  have hKn := q1.2.2.1.mv hMo.alike
  obtain ⟨cq, kq, i1, i2, i3⟩ := isOf (s := s.setVm vm0) hZ eT E
  cases w with
  | false =>
    obtain ⟨v, vm1, B, -, X', hB, stp⟩ := X.virtualBackUp q1.1 (x := z) (y := y) hown (mvT (s := s.setVm vm0) hZ w1) (mvT (s := s.setVm vm0) hZ w7) (mvT (s := s.setVm vm0) hZ w2) hy (mvT (s := s.setVm vm0) hZ w5) (mvT (s := s.setVm vm0) hZ w6) (K.backN (W := (st.map fun v => v.category).sum) hZ w4 w3 hfr hlo q1.2.1 hC.1 hsf hKn) i1 i3 (g := mkF m pc Ls stk) rfl hsz (Steps.refl _) (argsL := argsL) (rest := st) (lenOf hdesc hlen) hstk (by show 2 * 0 + _ ≤ _; omega) (hb hby hd) (fun _ _ => ⟨rfl, eT, hc, hs⟩)
    obtain ⟨X1, hQ, hS, hz⟩ := doneN (A0 := ⟨T.setVm vm1, locs, cells, slots⟩) q1 hZ hown hMo N hC X' hB
    exact Go.tr stp (k v _ _ _ X1 hQ hS hz)
  | true =>
    obtain ⟨v, vm1, B, -, X', hSi, -, hB, stp⟩ := X.virtualBackUpS q1.1 (x := z) (y := y) hown (mvT (s := s.setVm vm0) hZ w1) (mvT (s := s.setVm vm0) hZ w7) (mvT (s := s.setVm vm0) hZ w2) hy (mvT (s := s.setVm vm0) hZ w5) (mvT (s := s.setVm vm0) hZ w6) (K.backW (W := (st.map fun v => v.category).sum) hZ w4 w3 hfr hlo q1.2.1 hC.1 hsf hKn) i1 i3 (g := mkF m pc Ls stk) rfl hsz (Steps.refl _) (argsL := argsL) (rest := st) (lenOf hdesc hlen) hstk (by show 2 * 0 + _ ≤ _; omega) (hb hby hd) (fun _ _ => ⟨rfl, eT, hc, hs⟩)
    obtain ⟨X1, hQ, hS, hz⟩ := doneW (T' := T) (A0 := ⟨T.setVm vm1, locs, cells, slots⟩) q1 hZ hown hMo N hC X' hSi hB
    exact Go.tr stp (k v _ _ _ X1 hQ hS hz)
/-- ldc of a String constant of EL -/
theorem gLdc {own : String} (X : Sd true kn Z a0 EL p l e R s m args below meth c own T h S cells slots) (hby : c.code = code) {text : String} {index : Nat} (w1 : (Jvm.Cond.stringLink own index text).before a0 Z = true) (wS : ∀ a ∈ Bundle.stringAtoms, a.before a0 Z = true) (hmem : (own, index) ∈ EL)
    {xs : List Int32} (hlat : ∀ c ∈ text.toList, c.toNat < 256) (ht : text.toList.map (fun c => Jvm.Lit.byteI c.toNat.toUInt16) = xs) (hxs : xs.length < 1000) (hd : decode code pc = .ok (.ldc index, 2)) {n : Nat} (hn : 4 * text.toList.length ≤ n) (hbig : n ≤ 536870912) (hc : cells + 2 ≤ R.cells) (hl : slots + (n + 4) ≤ R.slots)
    (k : ∀ T' h' S' a b, Sd true kn Z a0 EL p l e R s m args below meth c own T' h' S' (cells + 2) (slots + (n + 4)) → Ext h h' → Exa Z h' a "java/lang/String" → Fld Z h' a "java/lang/String" "coder" "B" (.int 0) → Fld Z h' a "java/lang/String" "value" "[B" (.ref b) → Ari Z h' b .byte xs → (∀ x, x < h.size → S x → S' x) → (∀ x, S' x → x ≠ a ∧ x ≠ b) →
      Go p e below A (T'.setTop (mkF m (pc + 2) Ls (.ref a :: st)))) : Go p e below A (T.setTop (mkF m pc Ls st)) := by
  obtain ⟨q1, vm0, locs, X, eT, hZ, hown, ⟨k0, hS, hk⟩, N, hO, hC, rfl⟩ := X
  obtain ⟨a, T', h', k1, b, kb, X', e', E, hS', hk', hZ', hown', E1, F1, F2, V, -, -, hC', -, hne, stp⟩ := ldcCH X q1.1 hZ hown w1 wS eT hS hk q1.2.1 hmem hC.1 (vs := xs.map Value.int) (z := Int32.ofNat xs.length) ⟨hlat, by rw [← ht, List.map_map]; rfl⟩ (nn32 (by omega)) (by rw [c32 (by omega), List.length_map]) (g := mkF m pc Ls st) rfl (hb hby hd) hn hbig hc hl
  exact Go.step stp (k T' h' (Safe Z EL T'.vm h') a b ⟨q1, T'.vm, locs, X', e', hZ', hown', ⟨k1, hS', hk'⟩, N, hO.ext E, hC.trans hC', rfl⟩ E E1 F1 F2 ⟨by omega, kb, V⟩ (fun x hx hs => hC'.safe hx hs) hne)
/-- ldc of a String constant, unread -/
theorem gLdcO {own : String} (X : Sd true kn Z a0 EL p l e R s m args below meth c own T h S cells slots) (hby : c.code = code) {text : String} {index : Nat} (w1 : (Jvm.Cond.stringLink own index text).before a0 Z = true) (wS : ∀ a ∈ Bundle.stringAtoms, a.before a0 Z = true)
    (hd : decode code pc = .ok (.ldc index, 2)) {n : Nat} (hn : 4 * text.toList.length ≤ n) (hbig : n ≤ 536870912) (hc : cells + 2 ≤ R.cells) (hl : slots + (n + 4) ≤ R.slots)
    (k : ∀ T' h' S' a, Sd true kn Z a0 EL p l e R s m args below meth c own T' h' S' (cells + 2) (slots + (n + 4)) → Ext h h' → (∀ x, x < h.size → S x → S' x) → Go p e below A (T'.setTop (mkF m (pc + 2) Ls (.ref a :: st)))) : Go p e below A (T.setTop (mkF m pc Ls st)) := by
  obtain ⟨q1, vm0, locs, X, eT, hZ, hown, ⟨k0, hS, hk⟩, N, hO, hC, rfl⟩ := X
  obtain ⟨a, T', h', k1, X', e', E, hS', hk', hZ', hown', hC', -, stp⟩ := ldcOH X q1.1 hZ hown w1 wS eT hS hk q1.2.1 hC.1 (g := mkF m pc Ls st) rfl (hb hby hd) hn hbig hc hl
  exact Go.step stp (k T' h' (Safe Z EL T'.vm h') a ⟨q1, T'.vm, locs, X', e', hZ', hown', ⟨k1, hS', hk'⟩, N, hO.ext E, hC.trans hC', rfl⟩ E (fun x hx hs => hC'.safe hx hs))
end OwnCalls
section OwnNums
theorem eqT {x y : Int32} (h : if_icmp.holds .eq x y = true) : x = y := Classical.byContradiction fun q => by rw [(feq q).1] at h; cases h
theorem eqF {x y : Int32} (h : if_icmp.holds .eq x y = false) : ¬ x = y := fun q => by rw [(teq q).1] at h; cases h
theorem neT {x y : Int32} (h : if_icmp.holds .ne x y = true) : ¬ x = y := fun q => by rw [(teq q).2] at h; cases h
theorem neF {x y : Int32} (h : if_icmp.holds .ne x y = false) : x = y := Classical.byContradiction fun q => by rw [(feq q).2] at h; cases h
theorem ltT {x y : Int32} (h : if_icmp.holds .lt x y = true) : x < y := Classical.byContradiction fun q => by rw [(flt q).1] at h; cases h
theorem ltF {x y : Int32} (h : if_icmp.holds .lt x y = false) : ¬ x < y := fun q => by rw [(tlt q).1] at h; cases h
theorem geT {x y : Int32} (h : if_icmp.holds .ge x y = true) : ¬ x < y := fun q => by rw [(tlt q).2.1] at h; cases h
theorem geF {x y : Int32} (h : if_icmp.holds .ge x y = false) : x < y := Classical.byContradiction fun q => by rw [(flt q).2.1] at h; cases h
theorem gtT {x y : Int32} (h : if_icmp.holds .gt x y = true) : y < x := Classical.byContradiction fun q => by rw [(flt q).2.2.1] at h; cases h
theorem gtF {x y : Int32} (h : if_icmp.holds .gt x y = false) : ¬ y < x := fun q => by rw [(tlt q).2.2.1] at h; cases h
theorem leT {x y : Int32} (h : if_icmp.holds .le x y = true) : ¬ y < x := fun q => by rw [(tlt q).2.2.2] at h; cases h
theorem leF {x y : Int32} (h : if_icmp.holds .le x y = false) : y < x := Classical.byContradiction fun q => by rw [(flt q).2.2.2] at h; cases h
theorem aeqT {x y : Value} (h : XT.acmp .eq x y = true) : x = y := Classical.byContradiction fun q => by rw [XT.aa_eq_f q] at h; cases h
theorem aeqF {x y : Value} (h : XT.acmp .eq x y = false) : ¬ x = y := fun q => by rw [XT.aa_eq_t q] at h; cases h
theorem aneT {x y : Value} (h : XT.acmp .ne x y = true) : ¬ x = y := fun q => by rw [XT.aa_ne_f q] at h; cases h
theorem aneF {x y : Value} (h : XT.acmp .ne x y = false) : x = y := Classical.byContradiction fun q => by rw [XT.aa_ne_t q] at h; cases h
abbrev chr16 (x : Int32) : Int32 := x.toUInt32.toUInt16.toUInt32.toInt32
abbrev lo8 (x : Int32) : Int32 := x.toInt8.toInt32
theorem lt32 {i j : Nat} (hi : i < 2147483648) (hj : j < 2147483648) : Int32.ofNat i < Int32.ofNat j ↔ i < j := by rw [Int32.lt_iff_toInt_lt, n32 hi, n32 hj]; omega
theorem eq32 {i j : Nat} (hi : i < 2147483648) (hj : j < 2147483648) : Int32.ofNat i = Int32.ofNat j ↔ i = j := by rw [← Int32.toInt_inj, n32 hi, n32 hj]; omega
theorem succ32 (i : Nat) : Int32.ofNat i + (1 : Int32) = Int32.ofNat (i + 1) := (Int32.ofNat_add i 1).symm
theorem nar_lo8 (x : Int32) : nar .byte (lo8 x) = lo8 x := nar_fits (Or.inr (Or.inr (Or.inl rfl))) (fits_nar_byte x)
theorem nar_chr (x : Int32) : nar .char (chr16 x) = chr16 x := nar_fits (Or.inr (Or.inl rfl)) (fits_nar_char x)
/-- istore into a slot of which is known only that it is no half of a long -/
theorem gIst {p : Program} {l : Launch} {e : Env} {R : Room} {s : State} {m : MethodId} {args : Array Value} {below : List Frame} {meth : Method} {c : Code} {T : State} {cells slots : Nat} {Z : State} {a0 : Array Value} {h : Heap} {EL : List (String × Nat)} {own : String} {w kn : Bool} {S : Addr → Prop} {A : Outcome → State → Prop} {Ls : Array Slot} {st : List Value} {pc : Nat} {code : ByteArray}
    (X : Sd w kn Z a0 EL p l e R s m args below meth c own T h S cells slots) (hby : c.code = code) {k : Nat} {x : Int32} {o : Slot} (hd : decode code pc = .ok (.istore k, 2)) (hold : Ls[k]? = some o) (ho : One o) (g : Go p e below A (T.setTop (mkF m (pc + 2) (Ls.setIfInBounds k (.val (.int x))) st))) : Go p e below A (T.setTop (mkF m pc Ls (.int x :: st))) :=
  Go.step (fun t q => XS.istoreS X.here X.hx rfl (hb hby hd) rfl hold ho q) g
theorem gIstN {p : Program} {l : Launch} {e : Env} {R : Room} {s : State} {m : MethodId} {args : Array Value} {below : List Frame} {meth : Method} {c : Code} {T : State} {cells slots : Nat} {Z : State} {a0 : Array Value} {h : Heap} {EL : List (String × Nat)} {own : String} {w kn : Bool} {S : Addr → Prop} {A : Outcome → State → Prop} {Ls : Array Slot} {st : List Value} {pc : Nat} {code : ByteArray}
    (X : Sd w kn Z a0 EL p l e R s m args below meth c own T h S cells slots) (hby : c.code = code) {k : Fin 4} {x : Int32} {o : Slot} (hd : decode code pc = .ok (.istore_n k, 1)) (hold : Ls[k.val]? = some o) (ho : One o) (g : Go p e below A (T.setTop (mkF m (pc + 1) (Ls.setIfInBounds k.val (.val (.int x))) st))) : Go p e below A (T.setTop (mkF m pc Ls (.int x :: st))) :=
  Go.step (fun t q => XS.istoreNS X.here X.hx rfl (hb hby hd) rfl hold ho q) g
end OwnNums
section OwnStr
theorem getD_set_self {xs : List Int32} {i : Nat} {v : Int32} (h : i < xs.length) : (xs.set i v).getD i 0 = v := by simp [List.getD_eq_getElem?_getD, h]
theorem getD_set_ne {xs : List Int32} {i j : Nat} {v : Int32} (h : i ≠ j) : (xs.set i v).getD j 0 = xs.getD j 0 := by simp [List.getD_eq_getElem?_getD, List.getElem?_set_ne h]
theorem list_of_getD {xs ys : List Int32} (hl : xs.length = ys.length) (h : ∀ j, j < xs.length → xs.getD j 0 = ys.getD j 0) : xs = ys := by
  apply List.ext_getElem hl
  intro i h1 h2
  have := h i h1
  simpa [List.getD_eq_getElem?_getD, h1, h2] using this
theorem getD_map {xs : List Int32} {f : Int32 → Int32} {j : Nat} (h : j < xs.length) : (xs.map f).getD j 0 = f (xs.getD j 0) := by simp [List.getD_eq_getElem?_getD, h]
theorem getD_mem {xs : List Int32} {j : Nat} (h : j < xs.length) : xs.getD j 0 ∈ xs := by simp [List.getD_eq_getElem?_getD, h]
/-- the high byte, as StringUTF16.putChar stores it -/
abbrev hi8 (x : Int32) : Int32 := lo8 (x >>> ((8 : Int32) &&& 31))
/-- UTF-16's bytes, the low one first -/
def u16 : List Int32 → List Int32
  | [] => []
  | c :: r => lo8 c :: hi8 c :: u16 r
theorem u16_length (cs : List Int32) : (u16 cs).length = 2 * cs.length := by induction cs with | nil => rfl | cons c r ih => simp only [u16, List.length_cons, ih]; omega
/-- a String: her bytes lie at b, her chars are cs -/
def Str (Z : State) (h : Heap) (x b : Addr) (cs : List Int32) : Prop := Exa Z h x "java/lang/String" ∧ Fld Z h x "java/lang/String" "value" "[B" (.ref b) ∧ (∀ c ∈ cs, ¬ c < 0 ∧ ¬ 65535 < c) ∧
  ((Fld Z h x "java/lang/String" "coder" "B" (.int 0) ∧ Ari Z h b .byte (cs.map lo8) ∧ ∀ c ∈ cs, ¬ 255 < c) ∨ (Fld Z h x "java/lang/String" "coder" "B" (.int 1) ∧ Ari Z h b .byte (u16 cs) ∧ ∃ c ∈ cs, 255 < c))
variable {Z : State} {h h' : Heap} {x b a : Addr} {cs : List Int32}
theorem Str.exa (F : Str Z h x b cs) : Exa Z h x "java/lang/String" := F.1
theorem Str.ext (E : Ext h h') (F : Str Z h x b cs) : Str Z h' x b cs := by
  obtain ⟨q1, q2, q3, q4⟩ := F
  refine ⟨q1.ext E, q2.ext E, q3, ?_⟩
  rcases q4 with ⟨r1, r2, r3⟩ | ⟨r1, r2, r3⟩
  · exact Or.inl ⟨r1.ext E, r2.ext E, r3⟩
  · exact Or.inr ⟨r1.ext E, r2.ext E, r3⟩
theorem Str.keep {ws : List Addr} (F : Str Z h x b cs) (K : Keep h h' ws) (n1 : x ∉ ws) (n2 : b ∉ ws) : Str Z h' x b cs := by
  obtain ⟨q1, q2, q3, q4⟩ := F
  refine ⟨q1.keep K, q2.keep K n1, q3, ?_⟩
  rcases q4 with ⟨r1, r2, r3⟩ | ⟨r1, r2, r3⟩
  · exact Or.inl ⟨r1.keep K n1, r2.keep K n2, r3⟩
  · exact Or.inr ⟨r1.keep K n1, r2.keep K n2, r3⟩
theorem Str.lt (F : Str Z h x b cs) : x < h.size ∧ b < h.size := ⟨F.1.lt, by rcases F.2.2.2 with ⟨-, r, -⟩ | ⟨-, r, -⟩ <;> exact r.lt⟩
theorem Ari.chars (F : Ari Z h a .char cs) : ∀ c ∈ cs, ¬ c < 0 ∧ ¬ 65535 < c := fun c hc => by
  obtain ⟨i, hi, e⟩ := List.mem_iff_getElem.mp hc
  have := F.fits hi
  rw [show cs.getD i 0 = c by simp [List.getD_eq_getElem?_getD, hi, e]] at this
  exact rng_char this
theorem ne_ari {a0 : Array Value} {C : String} {n : Nat} {ty : FieldType} {xs : List Int32} (E : Exa Z h x C) (F : Ari Z h b ty xs) (w : (Jvm.Cond.instantiable C n).before a0 Z = true) : x ≠ b := by obtain ⟨-, k, F⟩ := F; exact E.neArv F w
end OwnStr
theorem keep_more {h h' : Heap} {ws : List Addr} (K : Keep h h' []) : Keep h h' ws := ⟨K.1, fun x c q _ => K.2.1 x c q nin0, K.2.2⟩
theorem lat_mask (x : Int32) : ¬ (255 : Int32) < chr16 (x &&& (255 : Int32)) := by
  rw [show chr16 (x &&& (255 : Int32)) = x &&& 255 from i2c_mask x]
  have h := c_and x 255 (by decide)
  have e : (255 : Int32).toInt = 255 := rfl
  rw [Int32.lt_iff_toInt_lt]; omega
section OwnFill
open Jvm.Free.Exc LibCode.Throwable
/-- the words on Throwable and on the receiver's class rc that a filled-in stack trace asks: the fields are said by rc's words alone -/
def exW (rc : String) : List Jvm.Cond := [.native tFill0, .superclass tN "java/lang/Object", .instanceMethod tFill, .codeSync tFill Fill.code 1 (some (.object tN)), .instanceMethod tFill0, .initialized tN, .instanceMethod tInit0, .code tInit0 Init0.code 1 none,
  .instanceMethod oInit, .code oInit ⟨#[0xb1]⟩ 1 none, .methodLink tN 1 oInit, .methodLink tN 27 tFill, .methodLink tN 202 tFill0, .fieldLink tN 7 tN "cause" thD, .fieldLink tN 17 tN "stackTrace" steD, .fieldLink tN 24 tN "suppressedExceptions" listD,
  .fieldLink tN 13 tN "UNASSIGNED_STACK" steD, .laysStatic tN "UNASSIGNED_STACK" steD, .fieldLink tN 20 tN "SUPPRESSED_SENTINEL" listD, .laysStatic tN "SUPPRESSED_SENTINEL" listD,
  .lays rc tN "cause" thD, .lays rc tN "stackTrace" steD, .lays rc tN "suppressedExceptions" listD, .lays rc tN "detailMessage" msgD, .lays rc tN "backtrace" obD, .lays rc tN "depth" "I",
  .declares tFill, .selects rc tFill0 tFill0, .selects rc tFill tFill, .fieldLink tN 198 tN "backtrace" obD, .arrayOver (.object "java/lang/Object"), .soleField tN "backtrace", .soleField tN "depth"]
theorem exW_ok {rc : String} : (exW rc).all xOk = true := rfl
/-- Throwable's tables, out of those words -/
theorem own_links {rc : String} {args : Array Value} {s : State} {pl : Platform} (howns : pl.frameOwnsMonitors = true) (hfin : pl.finalization = false) (hpl : pl.magicAccessors = ({} : Platform).magicAccessors)
    {cR : ClassId} {kR : Class} (fR : s.vm.findClass rc = some cR) (kRat : s.vm.classes[cR]? = some kR) (W : ∀ x ∈ exW rc, x.before args s = true) : ∃ (T : ThrowableC) (Z0 : Init0T), T.Links pl s ∧ Ties T Z0 s := by
  have gm : ∀ x, x ∈ exW rc → x.holds args s none s [] = true := fun x hx => W x hx
  obtain ⟨⟨cT, iN⟩, mN, nN, mmN, natN, codeN, lockN, sigN⟩ := Cond.native_spec (gm (.native tFill0) (by simp [exW]))
  have fT : s.vm.findClass tN = some cT := findClass_of_methodNamed nN
  obtain ⟨kT, kTat, kTn⟩ := Vm.findClass_spec fT
  obtain ⟨_, kT', _, _, kTat', _, _, ordT, _, noI⟩ := Cond.superclass_spec fT (gm (.superclass tN "java/lang/Object") (by simp [exW]))
  cases kTat.symm.trans kTat'
  obtain ⟨iF, mF, nF, mmF, atF, stF, abF, -, -⟩ := Cond.ownMethod (x := tFill) fT kTat (gm (.instanceMethod tFill) (by simp [exW]))
  obtain ⟨_, cF, mmF', cdF, byF, loF, reF, lkF, -, sgF⟩ := Cond.codeSync_spec nF (gm (.codeSync tFill Fill.code 1 (some (.object tN))) (by simp [exW]))
  cases mmF.symm.trans mmF'
  obtain ⟨iN', mN', nN', mmN', atN, stN, abN, nmN, dsN⟩ := Cond.ownMethod (x := tFill0) fT kTat (gm (.instanceMethod tFill0) (by simp [exW]))
  cases nN.symm.trans nN'
  cases mmN.symm.trans mmN'
  obtain ⟨iI, mI, nI, mmI, atI, -, -, -, -⟩ := Cond.ownMethod (x := tInit0) fT kTat (gm (.instanceMethod tInit0) (by simp [exW]))
  obtain ⟨_, cI, mmI', cdI, byI, loI, -, lkI, -, -⟩ := Cond.code_spec nI (gm (.code tInit0 Init0.code 1 none) (by simp [exW]))
  cases mmI.symm.trans mmI'
  obtain ⟨oM, mO, nO, mmO, stO, abO⟩ := Cond.instanceMethod_spec (gm (.instanceMethod oInit) (by simp [exW]))
  obtain ⟨_, cO, mmO', cdO, byO, loO, -, lkO, -, sgO⟩ := Cond.code_spec nO (gm (.code oInit ⟨#[0xb1]⟩ 1 none) (by simp [exW]))
  cases mmO.symm.trans mmO'
  obtain ⟨kO, kOat, kOn⟩ := Vm.findClass_spec (findClass_of_methodNamed nO)
  obtain ⟨nmO, dsO⟩ := name_of_methodNamed nO mmO
  obtain ⟨ci1, n1, cf, l1, r1, hcf, p1⟩ := Cond.linkedMethod fT kTat nO (gm (.methodLink tN 1 oInit) (by simp [exW])) pl hpl
  obtain ⟨ci27, n27, cf2, l27, r27, hcf2, p27⟩ := Cond.linkedMethod fT kTat nF (gm (.methodLink tN 27 tFill) (by simp [exW])) pl hpl
  cases hcf.symm.trans hcf2
  obtain ⟨ci202, n202, cf3, l202, r202, hcf3, p202⟩ := Cond.linkedMethod fT kTat nN (gm (.methodLink tN 202 tFill0) (by simp [exW])) pl hpl
  cases hcf.symm.trans hcf3
  have wS := gm (.lays rc tN "stackTrace" steD) (by simp [exW])
  have wP := gm (.lays rc tN "suppressedExceptions" listD) (by simp [exW])
  have wM := gm (.lays rc tN "detailMessage" msgD) (by simp [exW])
  obtain ⟨ci7, i7, f7, b7, c7, d7, e7, g7, h7, j7, k7⟩ := Cond.ownField (t := .object tN) fT kTat (by decide +kernel) (gm (.fieldLink tN 7 tN "cause" thD) (by simp [exW])) (gm (.lays rc tN "cause" thD) (by simp [exW])) pl hpl
  obtain ⟨ci17, i17, f17, b17, c17, d17, e17, g17, h17, j17, k17⟩ := Cond.ownField (t := .array (.object "java/lang/StackTraceElement")) fT kTat (by decide +kernel) (gm (.fieldLink tN 17 tN "stackTrace" steD) (by simp [exW])) wS pl hpl
  obtain ⟨ci24, i24, f24, b24, c24, d24, e24, g24, h24, j24, k24⟩ := Cond.ownField (t := .object "java/util/List") fT kTat (by decide +kernel) (gm (.fieldLink tN 24 tN "suppressedExceptions" listD) (by simp [exW])) wP pl hpl
  obtain ⟨ci13, i13, f13, aS, cS, b13, c13, d13, e13, -, -, hsta, hcS, hiS, -, -, k13⟩ := Cond.ownStatic (t := .array (.object "java/lang/StackTraceElement")) fT kTat (by decide +kernel) (gm (.fieldLink tN 13 tN "UNASSIGNED_STACK" steD) (by simp [exW])) (gm (.laysStatic tN "UNASSIGNED_STACK" steD) (by simp [exW])) pl hpl
  obtain ⟨ci20, i20, f20, _, _, b20, c20, d20, e20, -, -, -, -, -, -, -, k20⟩ := Cond.ownStatic (t := .object "java/util/List") fT kTat (by decide +kernel) (gm (.fieldLink tN 20 tN "SUPPRESSED_SENTINEL" listD) (by simp [exW])) (gm (.laysStatic tN "SUPPRESSED_SENTINEL" listD) (by simp [exW])) pl hpl
  obtain ⟨_, _, cM, kM, iM, fM, _, _, fndM, sM, fiM, _⟩ := Cond.lays_spec wM
  cases fT.symm.trans (Cond.lays_declared wM fndM)
  cases kTat.symm.trans (State.fieldFound?_spec fndM).1
  obtain ⟨-, _, q1, q2⟩ := Cond.laysAt fR kRat k17 wS
  obtain ⟨-, _, q3, q4⟩ := Cond.laysAt fR kRat k24 wP
  have apart : f17.slot ≠ f24.slot := Cond.laysApart q1 q3 q2 q4 (by rw [h17, h24]; decide)
  have pF : mF.sig.parameters = [] := by
    have z : (parseMethodDescriptor tFill.desc).map (·.parameters) = some [] := by decide +kernel
    rw [sgF] at z; simpa using z
  have pN : mN.sig.parameters = [.int] := by
    have z : (parseMethodDescriptor tFill0.desc).map (·.parameters) = some [.int] := by decide +kernel
    rw [sigN] at z; simpa using z
  have pO : mO.sig.parameters.length = 0 := by
    have z : (parseMethodDescriptor oInit.desc).map (·.parameters) = some [] := by decide +kernel
    rw [sgO] at z
    have z2 : mO.sig.parameters = [] := by simpa using z
    rw [z2]; rfl
  refine ⟨{ cT := cT, kT := kT, cO := cT, aS := aS, fillIdx := iF, fill0Idx := iN, initSIdx := iI, obj := oM, kObj := kO, methFill := mF, methFill0 := mN, methInitS := mI, methObj := mO, codeFill := cF, codeInitS := cI, codeObj := cO,
              fBack := f7, fDepth := f7, fStack := f17, fCause := f7, fSupp := f24, fMsg := fM, fUnassigned := f13, fSentinel := f20, cfT := cf, ci1 := ci1, n1 := n1, ci27 := ci27, n27 := n27, ci202 := ci202, n202 := n202,
              ci7 := ci7, i7 := i7, ci13 := ci13, i13 := i13, ci17 := ci17, i17 := i17, ci20 := ci20, i20 := i20, ci24 := ci24, i24 := i24 }, { idx := iI, meth := mI, code := cI }, ?_, ?_⟩
  · exact { owns := howns, noFinalization := hfin, cls := kTat, name := kTn, boot := Vm.findClass_boot fT kTat, notInterface := noI, initialized := Cond.initialized_spec fT kTat (gm (.initialized tN) (by simp [exW])), statics := hsta,
            fillAt := atF, fillCode := cdF, fillBytes := byF, fillLocals := loF, fillLocks := lkF, fillStatic := stF, fillAbstract := abF, fillReturns := reF, fillParams := pF,
            fill0At := atN, fill0Name := nmN, fill0Desc := dsN, fill0Params := pN, fill0Static := stN, fill0Native := natN, fill0Code := codeN, fill0Locks := lockN, fill0Abstract := abN,
            stackInstance := e17, stackNotFinal := g17, unassignedStatic := e13, objClass := kOat, objClassName := kOn, objMethod := mmO, objName := nmO, objStatic := stO, objAbstract := abO,
            objFound := by rw [dsO]; exact lookupSpecial_of_named nO mmO stO, objParams := pO, objCode := cdO, objBytes := byO, objLocks := lkO, causeInstance := e7, causeNotFinal := g7, sentinelStatic := e20, suppInstance := e24, suppNotFinal := g24, msgInstance := sM, msgNotFinal := fiM, stackApartSupp := apart,
            file := hcf, mlink1 := l1, mright1 := r1, pool1 := p1, mlink27 := l27, mright27 := r27, pool27 := p27, mlink202 := l202, mright202 := r202, pool202 := p202,
            link7 := b7, right7 := c7, at7 := d7, link13 := b13, right13 := c13, at13 := d13, link17 := b17, right17 := c17, at17 := d17, link20 := b20, right20 := c20, at20 := d20, link24 := b24, right24 := c24, at24 := d24 }
  · exact ⟨fT, nF, nN, nI, loO, ordT, k7, k17, k24, k13, k20, ⟨iM, fndM⟩, (State.fieldFound?_type fndM (t := .object "java/lang/String") (by decide +kernel)).2, h7, h17, h24, j7, j17, j24, cS, hcS, hiS⟩
variable {p : Program} {l : Launch} {e : Env} {R : Room} {s : State} {m : MethodId} {args : Array Value} {below : List Frame} {meth : Method} {c : Code} {T : State} {locs : List Loc} {cells slots : Nat} {Z : State} {a0 : Array Value} {h h' : Heap} {EL : List (String × Nat)} {w kn : Bool} {S : Addr → Prop} {A : Outcome → State → Prop} {Ls : Array Slot} {st stk : List Value} {pc : Nat} {code : ByteArray}
theorem setCell_keep {h : Heap} {a : Addr} {c0 c1 hd : Cell} (q : h[a]? = some c0) (h1 : c1.cls = c0.cls) (h2 : c1.vm = c0.vm) (h3 : c1.slots.size = c0.slots.size) : Keep h ((h.push hd).setIfInBounds a c1) [a] := by
  have hlt := (Array.getElem?_eq_some_iff.mp q).1
  refine ⟨by simp, fun x cx hx hn => ?_, fun x cx hx => ?_⟩
  · have hne : a ≠ x := fun z => hn (by simp [z])
    rw [Array.getElem?_setIfInBounds_ne hne, Array.getElem?_push_lt (Array.getElem?_eq_some_iff.mp hx).1]
    exact (Array.getElem?_eq_getElem _).symm.trans hx
  · by_cases z : a = x
    · subst z; cases q.symm.trans hx
      exact ⟨c1, by rw [Array.getElem?_setIfInBounds_self_of_lt (by simp; omega)], h1, h2, h3⟩
    · exact ⟨cx, by
        rw [Array.getElem?_setIfInBounds_ne z, Array.getElem?_push_lt (Array.getElem?_eq_some_iff.mp hx).1]
        exact (Array.getElem?_eq_getElem _).symm.trans hx, rfl, rfl, rfl⟩
/-- Throwable.fillInStackTrace() on an object of the walk's own, whose field stackTrace holds UNASSIGNED_STACK -/
theorem gFill (X : Sd w true Z a0 EL p l e R s m args below meth c "java/lang/Throwable" T h S cells slots) (hby : c.code = code) (hl : l.stackTraces = true) {rc : String} {n : Nat} (W : ∀ x ∈ exW rc, x.before a0 Z = true) (wi : (Jvm.Cond.instantiable rc n).before a0 Z = true)
    {a u : Addr} (E : Exa Z h a rc) (N : Unt h a) (FB : Fld Z h a "java/lang/Throwable" "backtrace" "Ljava/lang/Object;" .null) (FS : Fld Z h a "java/lang/Throwable" "stackTrace" "[Ljava/lang/StackTraceElement;" (.ref u)) (hU : Sta Z Z.heap "java/lang/Throwable" "UNASSIGNED_STACK" "[Ljava/lang/StackTraceElement;" (.ref u))
    (hna : Z.heap.size ≤ a) (hs : S a) (hd : decode code pc = .ok (.invokevirtual 27, 3)) (hsz : Ls.size = c.maxLocals) (hf : 2 < R.frames) (hlo : (st.map fun v => v.category).sum + 42 ≤ R.locals) (hc : cells + 1 ≤ R.cells) (hsl : slots + 2752 ≤ R.slots)
    (k : ∀ T' h' S', Sd w true Z a0 EL p l e R s m args below meth c "java/lang/Throwable" T' h' S' (cells + 1) (slots + 2752) → Keep h h' [a] → Unt h' a → (∀ x, S x → S' x) → Go p e below A (T'.setTop (mkF m (pc + 3) Ls (.ref a :: st)))) :
    Go p e below A (T.setTop (mkF m pc Ls (.ref a :: st))) := by
  obtain ⟨q1, vm0, locs, X, eT, hZ, hown, hMo, N0, hO, hC, rfl⟩ := X
  have hKn : Kn true vm0 below := q1.2.2.1.mv hMo.alike
  have hT0 : ThS Z s.heap := ThS.start.ext q1.2.2.2.2.2
  have W' : ∀ x ∈ exW rc, x.before args (s.setVm vm0) = true := fun x hx => mvX (s := s.setVm vm0) hT0 hZ (List.all_eq_true.mp exW_ok x hx) (W x hx)
  have gm : ∀ x, x ∈ exW rc → x.holds args (s.setVm vm0) none (s.setVm vm0) [] = true := fun x hx => W' x hx
  have hpf := X.admits.platform
  have hpl : e.platform.magicAccessors = ({} : Platform).magicAccessors := by rw [hpf]
  have howns : e.platform.frameOwnsMonitors = true := by rw [hpf]
  have hfin : e.platform.finalization = false := by rw [hpf]
  obtain ⟨cell, vmn, hcell, hfR, hkZ, hstat, hord⟩ := id E
  obtain ⟨cB, kB, i1, i2, i3⟩ := isOf (s := s.setVm vm0) hZ eT E
  obtain ⟨cellN, hcN, hvmN, hmon⟩ := id N
  cases hcell.symm.trans hcN
  have hfR' : (s.setVm vm0).vm.findClass rc = some cell.cls := by rw [show (s.setVm vm0).vm = vm0 from rfl, hZ.alike.findClass]; exact hfR
  cases i1.symm.trans hfR'
  obtain ⟨T0, Z0, L, Y⟩ := own_links (pl := e.platform) howns hfin hpl hfR' i2 W'
  have hal : Z.vm.Alike vm0 := hZ.alike
  obtain ⟨kZ', zk, ezk⟩ := hal.2.2 _ _ hkZ
  cases i2.symm.trans zk
  obtain ⟨c2, k2, z1, z2, z3, -⟩ := Cond.instantiable_spec (mv (s := s.setVm vm0) (args := args) hZ wi)
  cases hfR'.symm.trans z1
  cases i2.symm.trans z2
  have hsize : cell.slots.size = kB.instanceTypes.size := by
    have q : vmn.kind = .ordinary := by rw [ezk] at z3; exact z3
    rw [ezk]; exact hord q
  obtain ⟨c1, cf1, k1, j1, f1, g1, g2, g3, g4, g5, g6, g7⟩ := FS
  cases hcell.symm.trans g1
  obtain ⟨k1', y1, -⟩ := State.fieldFound?_setVm (s := Z) hal g2
  cases (show (s.setVm vm0).fieldFound? "java/lang/Throwable" "stackTrace" "[Ljava/lang/StackTraceElement;" = _ from y1).symm.trans Y.stack
  obtain ⟨ci198, i198, fB, hk198, hg198, ha198, hsB, -, hnB, htyB, hffB⟩ := Cond.ownField (t := .object "java/lang/Object") Y.found L.cls (by decide +kernel) (gm (.fieldLink tN 198 tN "backtrace" obD) (by simp [exW])) (gm (.lays rc tN "backtrace" obD) (by simp [exW])) e.platform hpl
  obtain ⟨c3, cf3, k3, j3, f3, b1, b2, b3, b4, b5, b6, b7⟩ := FB
  cases hcell.symm.trans b1
  obtain ⟨k3', y3, -⟩ := State.fieldFound?_setVm (s := Z) hal b2
  cases (show (s.setVm vm0).fieldFound? "java/lang/Throwable" "backtrace" "Ljava/lang/Object;" = _ from y3).symm.trans hffB
  obtain ⟨cfU, iU, kU, fU, stU, cellS, u1, u2, u3, u4, u5, u6, u7⟩ := hU
  obtain ⟨kU', y4, ekU⟩ := State.fieldFound?_setVm (s := Z) hal u1
  cases (show (s.setVm vm0).fieldFound? "java/lang/Throwable" "UNASSIGNED_STACK" "[Ljava/lang/StackTraceElement;" = _ from y4).symm.trans Y.unassigned
  have eS0 : stU = T0.aS := by
    have q := L.statics
    rw [ekU] at q
    exact Option.some.inj (u4.symm.trans q)
  subst eS0
  have hcS : h[T0.aS]? = some cellS := hO.2.2 _ _ u5
  have hneS : T0.aS ≠ a := fun z => by
    rw [z] at hcS; cases hcell.symm.trans hcS
    rw [hvmN] at u6; cases u6
  have hsel0 : selectMethod e.platform (s.setVm vm0).vm cell.cls T0.fill0 = .method T0.fill0 := by
    obtain ⟨c2, r2, m2, q1, q2, q3, q4, -⟩ := Cond.selects_spec (gm (.selects rc tFill0 tFill0) (by simp [exW]))
    cases hfR'.symm.trans q1
    cases q2.symm.trans (State.methodFound?_of_named Y.fill0 (by decide))
    cases q3.symm.trans Y.fill0
    rw [Launch.admits_selectMethod X.admits]; exact q4
  obtain ⟨_, _, cD, kD, iD, fD, -, -, hffD, hstD, -, -, -, -⟩ := Cond.lays_spec (gm (.lays rc tN "depth" "I") (by simp [exW]))
  cases (Cond.lays_declared (gm (.lays rc tN "depth" "I") (by simp [exW])) hffD).symm.trans Y.found
  obtain ⟨hkD, hatD⟩ := State.fieldFound?_spec hffD
  cases hkD.symm.trans L.cls
  obtain ⟨hnD, htyD⟩ := State.fieldFound?_type hffD (t := .int) (by decide +kernel)
  have hfb := Cond.soleField_find Y.found L.cls (gm (.soleField tN "backtrace") (by simp [exW])) ha198 hnB hsB
  have hfd := Cond.soleField_find Y.found L.cls (gm (.soleField tN "depth") (by simp [exW])) hatD hnD hstD
  obtain ⟨comp, cO, kO, -, -, hkO, hkindO, hOo⟩ := Cond.arrayOver_spec (W' (.arrayOver (.object "java/lang/Object")) (by simp [exW]))
  obtain ⟨tyS, -⟩ := Cond.laysAt hfR' i2 Y.stack (gm (.lays rc tN "stackTrace" steD) (by simp [exW]))
  obtain ⟨tyB, -⟩ := Cond.laysAt hfR' i2 hffB (gm (.lays rc tN "backtrace" obD) (by simp [exW]))
  obtain ⟨tyD, -⟩ := Cond.laysAt hfR' i2 hffD (gm (.lays rc tN "depth" "I") (by simp [exW]))
  have tk : ∀ {f : Field} {v : Value}, kB.instanceTypes[f.slot]? = some f.type → Jvm.fits f.type v = true → Jvm.Takes (s.setVm vm0) cell f v := fun {f v} r1 r2 => by
    obtain ⟨t1, t2⟩ := Takes.of_laid (v := v) i2 z3 r1 r2
    exact ⟨by rw [hsize]; simpa using t1, by rw [hvmN]; exact t2⟩
  have pays := Jvm.Free.Str.fillPays (l := l) (R := R) (below := below) (s := s.setVm vm0) (sargs := args) (len := 3) (W := (st.map fun v => v.category).sum) q1.1 (by rw [hpf]; exact hl) T0 L Y.fill (u0 := ⟨.ref u, rfl⟩) (by simp) (self := a) (cell := cell) (cellS := cellS)
    (fun z q => by rw [hvmN] at q; cases q) (by rw [hvmN]; simp) (by rw [hmon]) (by rw [hmon]) g7 hsel0 hneS (fun q => by rw [q] at u6; cases u6) u7 (tk tyS (by rw [Y.stackType]; rfl))
    ⟨⟨ci198, i198, fB⟩, ⟨hk198, hg198, ha198, hsB⟩, b7⟩ hKn.1 hKn.2 Y.found hOo hkO hkindO hfb hfd (fun x => tk tyB (by rw [htyB]; rfl)) (fun x => tk tyD (by rw [htyD]; rfl)) hf hlo
  obtain ⟨v, vm1, B, -, X', ⟨rfl, vm2, lines, hlen, -, eU, eL, eC, eS⟩, stp⟩ := X.virtualBack q1.1 (y := tFill) (z := tFill) hown (W' (.methodLink tN 27 tFill) (by simp [exW])) (W' _ (by simp [exW])) (notFace_of_selects (args := #[]) (C := rc) (mvT (s := s.setVm vm0) hZ (W _ (by simp [exW])))) (C := rc) (W' _ (by simp [exW])) (W' _ (by simp [exW])) (by decide) pays hfR' i3
    (g := mkF m pc Ls (.ref a :: st)) rfl hsz (Steps.refl _) (argsL := []) (rest := st) (lenOf (d := tFill.desc) (ps := []) (r := some (.object tN)) (by decide +kernel) rfl) rfl (by show 2 * 0 + _ ≤ _; omega) (hb hby hd) (fun _ _ => ⟨rfl, hc, hsl, by show T.heap[a]? = _; rw [eT]; exact hcell, by show T.heap[T0.aS]? = _; rw [eT]; exact hcS⟩)
  dsimp only [Pt.U, Pt.locs, Pt.cells, Pt.slots] at eU eL eC eS
  have hh : B.U.heap = (h.push (traceHolder cO lines)).setIfInBounds a (Jvm.Free.Str.filledOn T0.toThrowableT fB fD cell ⟨.ref u, rfl⟩ T.heap.size lines.length.toInt32) := by
    rw [show B.U = _ from eU, ← eT]; rfl
  have K2 : Keep h B.U.heap [a] := by
    rw [hh]; exact setCell_keep hcell rfl rfl (by simp [Jvm.Free.Str.filledOn, Cell.setSlot])
  have sf : ∀ x ∈ [a], Safe Z EL vm0 h x := fun x hx => by cases List.mem_singleton.mp hx; exact hs
  have X2 : Stand p l e R (s.setVm vm0) m args below meth c B.U B.locs (cells + 1) (slots + 2752) := by
    have q : B.slots ≤ slots + 2752 := by rw [show B.slots = _ from eS]; exact Nat.add_le_add_left (traceHolder_size_le cO hlen) _
    exact X'.more (Nat.le_of_eq eC) q
  refine Go.tr stp (k B.U B.U.heap (Safe Z EL vm0 B.U.heap) ⟨q1, vm0, _, X2, rfl, hZ, hown, hMo.mono K2.1, ?_, hO.keep K2 (allS hna all0), hC.trans (CHr.keep K2 sf hC.1), rfl⟩ K2 ?_ (fun x hx => Safe.keep K2 sf hC.1 hx))
  · rw [show B.locs = _ from eL]
    exact N0.app fun y hy => by
      simp only [List.mem_cons, List.not_mem_nil, or_false] at hy
      rcases hy with rfl | rfl | rfl <;> exact hna
  · have q : B.U.heap[a]? = some (Jvm.Free.Str.filledOn T0.toThrowableT fB fD cell ⟨.ref u, rfl⟩ T.heap.size lines.length.toInt32) := by
      rw [hh, Array.getElem?_setIfInBounds_self_of_lt (by have := (Array.getElem?_eq_some_iff.mp hcell).1; simp; omega)]
    exact ⟨_, q, hvmN, hmon⟩
theorem Unt.wr {x y : Addr} {sl : Nat} {v : Value} (W : Wr h h' y sl v) (N : Unt h x) : Unt h' x := by
  obtain ⟨cell, h1, -, -, rfl⟩ := W
  obtain ⟨cx, q1, q2, q3⟩ := N
  by_cases z : y = x
  · subst z; cases h1.symm.trans q1
    have hlt := (Array.getElem?_eq_some_iff.mp q1).1
    have q : (h.setIfInBounds y (cell.setSlot sl v))[y]? = some (cell.setSlot sl v) := by rw [Array.getElem?_setIfInBounds_self_of_lt hlt]
    exact ⟨_, q, q2, q3⟩
  · exact ⟨cx, by rw [Array.getElem?_setIfInBounds_ne z]; exact q1, q2, q3⟩
theorem Unt.known {x : Addr} (N : Unt h x) : ∃ cell : Cell, h[x]? = some cell ∧ cell.vm ≠ .unknown := by
  obtain ⟨cx, q1, q2, -⟩ := N; exact ⟨cx, q1, by rw [q2]; simp⟩
end OwnFill
section OwnU16
theorem k_i2b (x : Int32) : ((lo8 x).toInt - x.toInt) % 256 = 0 ∧ -128 ≤ (lo8 x).toInt ∧ (lo8 x).toInt < 128 := c_i2b x
theorem k_i2c (x : Int32) : ((chr16 x).toInt - x.toInt) % 65536 = 0 ∧ 0 ≤ (chr16 x).toInt ∧ (chr16 x).toInt < 65536 := c_i2c x
theorem k_hi (x : Int32) : ((hi8 x).toInt - (x >>> ((8 : Int32) &&& 31)).toInt) % 256 = 0 ∧ -128 ≤ (hi8 x).toInt ∧ (hi8 x).toInt < 128 := c_i2b _
theorem shl1 {i : Nat} (hi : 2 * i < 2147483648) : Int32.ofNat i <<< ((1 : Int32) &&& 31) = Int32.ofNat (2 * i) := by
  have h := c_ishl (Int32.ofNat i) 1 1 (by decide)
  have a := n32 (n := i) (by omega)
  have b := n32 (n := 2 * i) hi
  have r1 := Int32.le_toInt (Int32.ofNat i <<< ((1 : Int32) &&& 31)); have r2 := Int32.toInt_lt (Int32.ofNat i <<< ((1 : Int32) &&& 31))
  apply Int32.toInt_inj.mp
  rw [a] at h; rw [b]; simp only [Nat.reducePow] at *; omega
theorem shr1 {i : Nat} (hi : 2 * i < 2147483648) : Int32.ofNat (2 * i) >>> ((1 : Int32) &&& 31) = Int32.ofNat i := by
  have h := c_ishr (Int32.ofNat (2 * i)) 1 1 (by decide)
  have a := n32 (n := i) (by omega)
  have b := n32 (n := 2 * i) hi
  apply Int32.toInt_inj.mp
  rw [b] at h; rw [h, a]; simp only [Nat.reducePow] at *; omega
theorem shr0 (x : Int32) : x >>> ((0 : Int32) &&& 31) = x := by
  have h := c_ishr x 0 0 (by decide)
  apply Int32.toInt_inj.mp
  rw [h]; simp only [Nat.reducePow]; omega
theorem lo8_mask (c : Int32) (h0 : ¬ c < 0) (h1 : ¬ (255 : Int32) < c) : chr16 (lo8 c &&& (255 : Int32)) = c := by
  have a := k_i2b c
  have m := c_mask (lo8 c) 255 8 (by decide) (by decide)
  have i := k_i2c (lo8 c &&& (255 : Int32))
  have e0 : (0 : Int32).toInt = 0 := rfl; have e1 : (255 : Int32).toInt = 255 := rfl
  rw [Int32.lt_iff_toInt_lt] at h0 h1
  apply Int32.toInt_inj.mp
  simp only [Nat.reducePow] at *; omega
theorem join8 (c : Int32) (h0 : ¬ c < 0) (h1 : ¬ (65535 : Int32) < c) : chr16 (((lo8 c &&& (255 : Int32)) <<< ((0 : Int32) &&& 31)) ||| ((hi8 c &&& (255 : Int32)) <<< ((8 : Int32) &&& 31))) = c := by
  have a := k_i2b c
  have m := c_mask (lo8 c) 255 8 (by decide) (by decide)
  have s := c_ishr c 8 8 (by decide)
  have a2 := k_hi c
  have m2 := c_mask (hi8 c) 255 8 (by decide) (by decide)
  have l1 := c_ishl (lo8 c &&& (255 : Int32)) 0 0 (by decide)
  have l2 := c_ishl (hi8 c &&& (255 : Int32)) 8 8 (by decide)
  have e0 : (0 : Int32).toInt = 0 := rfl; have e1 : (65535 : Int32).toInt = 65535 := rfl
  rw [Int32.lt_iff_toInt_lt] at h0 h1
  have q1 := Int32.le_toInt ((lo8 c &&& (255 : Int32)) <<< ((0 : Int32) &&& 31)); have q2 := Int32.toInt_lt ((lo8 c &&& (255 : Int32)) <<< ((0 : Int32) &&& 31))
  have q3 := Int32.le_toInt ((hi8 c &&& (255 : Int32)) <<< ((8 : Int32) &&& 31)); have q4 := Int32.toInt_lt ((hi8 c &&& (255 : Int32)) <<< ((8 : Int32) &&& 31))
  have o := c_or' ((lo8 c &&& (255 : Int32)) <<< ((0 : Int32) &&& 31)) ((hi8 c &&& (255 : Int32)) <<< ((8 : Int32) &&& 31)) 8 (by decide) 256 rfl (by simp only [Nat.reducePow] at *; omega) (by simp only [Nat.reducePow] at *; omega) (by simp only [Nat.reducePow] at *; omega)
  have i := k_i2c (((lo8 c &&& (255 : Int32)) <<< ((0 : Int32) &&& 31)) ||| ((hi8 c &&& (255 : Int32)) <<< ((8 : Int32) &&& 31)))
  apply Int32.toInt_inj.mp
  simp only [Nat.reducePow] at *; omega
theorem lo8_inj {c d : Int32} (h0 : ¬ c < 0) (h1 : ¬ (255 : Int32) < c) (h2 : ¬ d < 0) (h3 : ¬ (255 : Int32) < d) (h : lo8 c = lo8 d) : c = d := by
  rw [← lo8_mask c h0 h1, ← lo8_mask d h2 h3, h]
theorem u16_lo {cs : List Int32} {j : Nat} (h : j < cs.length) : (u16 cs).getD (2 * j) 0 = lo8 (cs.getD j 0) := by
  induction cs generalizing j with
  | nil => cases h
  | cons c r ih => cases j with
    | zero => rfl
    | succ j => exact ih (by simp at h; omega)
theorem u16_hi {cs : List Int32} {j : Nat} (h : j < cs.length) : (u16 cs).getD (2 * j + 1) 0 = hi8 (cs.getD j 0) := by
  induction cs generalizing j with
  | nil => cases h
  | cons c r ih => cases j with
    | zero => rfl
    | succ j => exact ih (by simp at h; omega)
theorem u16_of {cs ys : List Int32} (hl : ys.length = 2 * cs.length) (h : ∀ j, j < cs.length → ys.getD (2 * j) 0 = lo8 (cs.getD j 0) ∧ ys.getD (2 * j + 1) 0 = hi8 (cs.getD j 0)) : ys = u16 cs := by
  refine list_of_getD (by rw [hl, u16_length]) fun j hj => ?_
  rcases Nat.mod_two_eq_zero_or_one j with q | q
  · obtain ⟨i, rfl⟩ : ∃ i, j = 2 * i := ⟨j / 2, by omega⟩
    rw [u16_lo (by omega), (h i (by omega)).1]
  · obtain ⟨i, rfl⟩ : ∃ i, j = 2 * i + 1 := ⟨j / 2, by omega⟩
    rw [u16_hi (by omega), (h i (by omega)).2]
/-- coderFromArrayLen, of Latin-1's and of UTF-16's bytes -/
theorem cfl0 (n : Nat) : lo8 (XT.ushr (Int32.ofNat n - Int32.ofNat n) (31 : Int32)) = (0 : Int32) := by rw [Int32.sub_self]; decide
theorem cfl1 {n : Nat} (h0 : 0 < n) (h1 : 2 * n < 2147483648) : lo8 (XT.ushr (Int32.ofNat n - Int32.ofNat (2 * n)) (31 : Int32)) = (1 : Int32) := by
  have a := n32 (n := n) (by omega)
  have b := n32 (n := 2 * n) h1
  have s := c_isub (Int32.ofNat n) (Int32.ofNat (2 * n))
  have u := c_iushr (Int32.ofNat n - Int32.ofNat (2 * n)) 31 31 (by decide) (by decide)
  have r1 := Int32.le_toInt (Int32.ofNat n - Int32.ofNat (2 * n)); have r2 := Int32.toInt_lt (Int32.ofNat n - Int32.ofNat (2 * n))
  have w : (XT.ushr (Int32.ofNat n - Int32.ofNat (2 * n)) (31 : Int32)).toInt = 1 := by
    show (((Int32.ofNat n - Int32.ofNat (2 * n)).toUInt32 >>> ((31 : Int32) &&& 31).toUInt32).toInt32).toInt = 1
    rw [u]; simp only [Nat.reducePow] at *; omega
  have e : XT.ushr (Int32.ofNat n - Int32.ofNat (2 * n)) (31 : Int32) = 1 := Int32.toInt_inj.mp w
  rw [e]; decide
theorem chr_rng (x : Int32) : ¬ chr16 x < 0 ∧ ¬ (65535 : Int32) < chr16 x := by
  have i := k_i2c x
  have e0 : (0 : Int32).toInt = 0 := rfl; have e1 : (65535 : Int32).toInt = 65535 := rfl
  rw [Int32.lt_iff_toInt_lt, Int32.lt_iff_toInt_lt]; omega
theorem chr_id {c : Int32} (h0 : ¬ c < 0) (h1 : ¬ (65535 : Int32) < c) : chr16 c = c := by
  have i := k_i2c c
  have e0 : (0 : Int32).toInt = 0 := rfl; have e1 : (65535 : Int32).toInt = 65535 := rfl
  rw [Int32.lt_iff_toInt_lt] at h0 h1
  apply Int32.toInt_inj.mp; omega
variable {p : Program} {l : Launch} {e : Env} {R : Room} {s : State} {m : MethodId} {args : Array Value} {below : List Frame} {meth : Method} {c : Code} {T : State} {cells slots : Nat} {Z : State} {a0 : Array Value} {h : Heap} {EL : List (String × Nat)} {own : String} {w kn : Bool} {S : Addr → Prop} {A : Outcome → State → Prop} {Ls : Array Slot} {st : List Value} {pc : Nat} {code : ByteArray}
/-- ldc of an int -/
theorem gLdcI (X : Sd w kn Z a0 EL p l e R s m args below meth c own T h S cells slots) (hby : c.code = code) {index : Nat} {v : Int32} (w1 : (Jvm.Cond.constant own index v).before a0 Z = true) (hd : decode code pc = .ok (.ldc index, 2))
    (g : Go p e below A (T.setTop (mkF m (pc + 2) Ls (.int v :: st)))) : Go p e below A (T.setTop (mkF m pc Ls st)) := by
  obtain ⟨q1, vm0, locs, X, eT, hZ, hown, r⟩ := X
  exact Go.step (X.ldcInt q1.1 hown (mv (s := s.setVm vm0) (args := args) hZ w1) (g := mkF m pc Ls st) rfl (hb hby hd)) g
theorem gRem (X : Sd w kn Z a0 EL p l e R s m args below meth c own T h S cells slots) (hby : c.code = code) {x y : Int32} (hd : decode code pc = .ok (.irem, 1)) (hy : y ≠ 0)
    (g : Go p e below A (T.setTop (mkF m (pc + 1) Ls (.int (x % y) :: st)))) : Go p e below A (T.setTop (mkF m pc Ls (.int y :: .int x :: st))) := by
  obtain ⟨q1, vm0, locs, X, eT, hZ, hown, r⟩ := X
  exact Go.step (fun t q => iremM X q1.1 (g := mkF m pc Ls (.int y :: .int x :: st)) rfl (hb hby hd) rfl hy q) g
end OwnU16
section OwnUS
/-- the statics that String and StringUTF16 read -/
def US (Z : State) (zc : Int32) : Prop := Sta Z Z.heap "java/lang/String" "COMPACT_STRINGS" "Z" (.int zc) ∧ (¬ zc = 0) ∧ Sta Z Z.heap "java/lang/StringUTF16" "$assertionsDisabled" "Z" (.int 1) ∧ Sta Z Z.heap "java/lang/StringUTF16" "HI_BYTE_SHIFT" "I" (.int 0) ∧ Sta Z Z.heap "java/lang/StringUTF16" "LO_BYTE_SHIFT" "I" (.int 8)
theorem US.cs {Z : State} {zc : Int32} (U : US Z zc) : Sta Z Z.heap "java/lang/String" "COMPACT_STRINGS" "Z" (.int zc) := U.1
theorem US.nz {Z : State} {zc : Int32} (U : US Z zc) : ¬ zc = 0 := U.2.1
theorem US.ad {Z : State} {zc : Int32} (U : US Z zc) : Sta Z Z.heap "java/lang/StringUTF16" "$assertionsDisabled" "Z" (.int 1) := U.2.2.1
theorem US.hi {Z : State} {zc : Int32} (U : US Z zc) : Sta Z Z.heap "java/lang/StringUTF16" "HI_BYTE_SHIFT" "I" (.int 0) := U.2.2.2.1
theorem US.lo {Z : State} {zc : Int32} (U : US Z zc) : Sta Z Z.heap "java/lang/StringUTF16" "LO_BYTE_SHIFT" "I" (.int 8) := U.2.2.2.2
theorem narC {c : Int32} (h0 : ¬ c < 0 ∧ ¬ (65535 : Int32) < c) : narrow .char (.int c) = .int c := by
  have h := XT.narrow_c c
  have q : c.toUInt32.toUInt16.toUInt32.toInt32 = c := chr_id h0.1 h0.2
  rw [q] at h; exact h
end OwnUS
section OwnTerms
variable {args : Array Value} {first s : State} {o : Option Outcome} {idx : List Nat} {t : Term}
theorem eqI_v {k : Int32} (h : (Jvm.Cond.eq t (.int k)).value args first o s idx = some true) : t.eval args first o idx s = some (.int k) := by
  simp only [Cond.value, Term.eval] at h
  cases ht : t.eval args first o idx s with
  | none => simp [ht] at h
  | some x => cases x <;> simp [ht] at h ⊢; exact h
theorem ref_v (h : (Jvm.Cond.isRef t).value args first o s idx = some true) : ∃ x, t.eval args first o idx s = some x ∧ (x = .null ∨ ∃ a, x = .ref a) := by
  obtain ⟨x, h1, h2⟩ := isR_v h
  exact ⟨x, h1, by cases x <;> simp [Value.isRef] at h2 ⊢⟩
theorem nar_char {c : Int32} (h0 : ¬ c < 0 ∧ ¬ (65535 : Int32) < c) : nar .char c = c := by rw [← chr_id h0.1 h0.2]; exact nar_chr c
theorem ite10 {b : Bool} : ((if b = true then (1 : Int32) else 0) = 0) ↔ b = false := by cases b <;> decide
/-- indexOf's answer on Latin-1 bytes -/
theorem mem_lo8 {cs : List Int32} {c : Int32} (hR : ∀ c ∈ cs, ¬ c < 0 ∧ ¬ (65535 : Int32) < c) (hl : ∀ c ∈ cs, ¬ (255 : Int32) < c) (h0 : ¬ c < 0) : (¬ 255 < c ∧ lo8 c ∈ cs.map lo8) ↔ c ∈ cs := by
  constructor
  · rintro ⟨h1, h2⟩
    obtain ⟨d, hd, e⟩ := List.mem_map.mp h2
    rw [← lo8_inj (hR d hd).1 (hl d hd) h0 h1 e]; exact hd
  · intro hc; exact ⟨hl c hc, List.mem_map.mpr ⟨c, hc, rfl⟩⟩
end OwnTerms
section OwnCp
variable {p : Program} {l : Launch} {e : Env} {R : Room} {s : State} {m : MethodId} {args : Array Value} {below : List Frame} {meth : Method} {c : Code} {T : State} {cells slots : Nat} {Z : State} {a0 : Array Value} {h h' : Heap} {EL : List (String × Nat)} {own : String} {w kn : Bool} {S : Addr → Prop} {A : Outcome → State → Prop} {Ls : Array Slot} {st : List Value} {pc : Nat} {code : ByteArray}
theorem map_getD {ys : List Int32} {i : Nat} : (ys.map Value.int).getD i (.int 0) = .int (ys.getD i 0) := by
  simp only [List.getD_eq_getElem?_getD, List.getElem?_map]; cases ys[i]? <;> rfl
/-- System.arraycopy between int-like arrays of one kind -/
theorem gCp (X : Sd w kn Z a0 EL p l e R s m args below meth c own T h S cells slots) (hby : c.code = code) {index : Nat} (w1 : (Jvm.Cond.methodLink own index Jvm.Stand.acN).before a0 Z = true) (w2 : (Jvm.Cond.native Jvm.Stand.acN).before a0 Z = true) (w3 : (Jvm.Cond.static Jvm.Stand.acN).before a0 Z = true) (w4 : (Jvm.Cond.initialized "java/lang/System").before a0 Z = true)
    {a b : Addr} {ty : FieldType} {ys vd : List Int32} {sp dp nn : Nat} {i j n : Int32} (F : Ari Z h a ty ys) (G : Ari Z h b ty vd) (hty : refKind ty = false) (hi : i = Int32.ofNat sp) (hj : j = Int32.ofNat dp) (hn : n = Int32.ofNat nn) (h4 : sp + nn ≤ ys.length) (h5 : dp + nn ≤ vd.length) (hna : Z.heap.size ≤ b) (hs : S b)
    (hsz : Ls.size = c.maxLocals) (hd : decode code pc = .ok (.invokestatic index, 3)) (hf : 1 ≤ R.frames) (hlo : (st.map fun v => v.category).sum + (nativeFrameWords "java/lang/System" "arraycopy" 5 + 11) ≤ R.locals)
    (k : ∀ T' h' S', Sd w kn Z a0 EL p l e R s m args below meth c own T' h' S' cells slots → Keep h h' [b] → Ari Z h' b ty (vd.take dp ++ (List.range nn).map (fun i => ys.getD (sp + i) 0) ++ vd.drop (dp + nn)) → (∀ x, S x → S' x) → Go p e below A (T'.setTop (mkF m (pc + 3) Ls st))) :
    Go p e below A (T.setTop (mkF m pc Ls (.int n :: .int j :: .ref b :: .int i :: .ref a :: st))) := by
  obtain ⟨q1, vm0, locs, X, eT, hZ, hown, hMo, N, hO, hC, rfl⟩ := X
  obtain ⟨r1, k1, F⟩ := F
  obtain ⟨r2, k2, G⟩ := G
  subst hi hj hn
  have e1 : (Int32.ofNat sp).toNatClampNeg = sp := c32 (by omega)
  have e2 : (Int32.ofNat dp).toNatClampNeg = dp := c32 (by omega)
  have e3 : (Int32.ofNat nn).toNatClampNeg = nn := c32 (by omega)
  obtain ⟨T', h', L, X', e', N', K, V, stp⟩ := cpA X q1.1 hZ hown w1 w2 w3 w4 eT F G (us := (List.range (Int32.ofNat nn).toNatClampNeg).map fun i => (ys.map Value.int).getD ((Int32.ofNat sp).toNatClampNeg + i) (.int 0)) (Or.inl ⟨rfl, hty⟩) (nn32 (n := sp) (by omega)) (nn32 (n := dp) (by omega)) (nn32 (n := nn) (by omega))
    (by rw [e1, e3, c32 r1]; exact h4) (by rw [e2, e3, c32 r2]; exact h5) rfl (by rw [e2, e3, List.length_map]; exact h5) N hna (g := mkF m pc Ls (.int (Int32.ofNat nn) :: .int (Int32.ofNat dp) :: .ref b :: .int (Int32.ofNat sp) :: .ref a :: st)) rfl hsz (rest := st) rfl (hb hby hd) hf (W := (st.map fun v => v.category).sum) (by show 2 * 0 + _ ≤ _; omega) hlo
  have sf : ∀ x ∈ [b], Safe Z EL vm0 h x := fun x hx => by cases List.mem_singleton.mp hx; exact hs
  have hlen : (vd.take dp ++ (List.range nn).map (fun i => ys.getD (sp + i) 0) ++ vd.drop (dp + nn)).length = vd.length := by
    simp only [List.length_append, List.length_take, List.length_map, List.length_range, List.length_drop]; omega
  refine Go.step stp (k T' h' (Safe Z EL vm0 h') ⟨q1, vm0, L, X', e', hZ, hown, hMo.mono K.1, N', hO.keep K (allS hna all0), hC.trans (CHr.keep K sf hC.1), rfl⟩ K ⟨by rw [hlen]; exact r2, k2, ?_⟩ (fun x hx => Safe.keep K sf hC.1 hx))
  rw [hlen]
  rw [e1, e2, e3] at V
  have e4 : (vd.take dp ++ (List.range nn).map (fun i => ys.getD (sp + i) 0) ++ vd.drop (dp + nn)).map Value.int = (vd.map Value.int).take dp ++ (List.range nn).map (fun i => (ys.map Value.int).getD (sp + i) (.int 0)) ++ (vd.map Value.int).drop (dp + nn) := by
    simp only [List.map_append, List.map_take, List.map_drop, List.map_map, map_getD]; rfl
  rw [e4]; exact V
/-- the copy of a whole piece -/
theorem cp_whole {ys vd : List Int32} {sp nn : Nat} (h1 : sp + nn ≤ ys.length) (h2 : vd.length = nn) : vd.take 0 ++ (List.range nn).map (fun i => ys.getD (sp + i) 0) ++ vd.drop (0 + nn) = (ys.drop sp).take nn := by
  rw [List.take_zero, List.nil_append, Nat.zero_add, List.drop_of_length_le (by omega), List.append_nil]
  apply list_of_getD
  · simp; omega
  · intro j hj
    simp only [List.length_map, List.length_range] at hj
    simp [List.getD_eq_getElem?_getD, List.getElem?_take, List.getElem?_drop, hj]
/-- lookupswitch -/
theorem gSwH (X : Sd w kn Z a0 EL p l e R s m args below meth c own T h S cells slots) (hby : c.code = code) {x : Int32} {default : Int} {pairs : Array (Int × Int)} {len : Nat} (hd : decode code pc = .ok (.lookupswitch default pairs, len))
    (hso : (pairs.toList.zip (pairs.toList.drop 1)).all (fun (a, next) => a.1 < next.1) = true) {a off : Int} (hfind : pairs.find? (·.1 == x.toInt) = some (a, off)) {pc1 : Nat} (hp : (pc : Int) + off = (pc1 : Int))
    (g : Go p e below A (T.setTop (mkF m pc1 Ls st))) : Go p e below A (T.setTop (mkF m pc Ls (.int x :: st))) := by
  obtain ⟨q1, vm0, locs, X, r⟩ := X
  refine Go.step (fun t q => X.lookupswitchHit q1.1 (g := mkF m pc Ls (.int x :: st)) rfl rfl (hb hby hd) hso hfind (by show 0 ≤ (pc : Int) + off; omega) t ?_) g
  have : ((pc : Int) + off).toNat = pc1 := by omega
  show Steps _ _ _ (T.setTop (mkF m ((pc : Int) + off).toNat Ls st)) t
  rw [this]; exact q
theorem gSwM (X : Sd w kn Z a0 EL p l e R s m args below meth c own T h S cells slots) (hby : c.code = code) {x : Int32} {default : Int} {pairs : Array (Int × Int)} {len : Nat} (hd : decode code pc = .ok (.lookupswitch default pairs, len))
    (hso : (pairs.toList.zip (pairs.toList.drop 1)).all (fun (a, next) => a.1 < next.1) = true) (hfind : pairs.find? (·.1 == x.toInt) = none) {pc1 : Nat} (hp : (pc : Int) + default = (pc1 : Int))
    (g : Go p e below A (T.setTop (mkF m pc1 Ls st))) : Go p e below A (T.setTop (mkF m pc Ls (.int x :: st))) := by
  obtain ⟨q1, vm0, locs, X, r⟩ := X
  refine Go.step (fun t q => X.lookupswitchMiss q1.1 (g := mkF m pc Ls (.int x :: st)) rfl rfl (hb hby hd) hso hfind (by show 0 ≤ (pc : Int) + default; omega) t ?_) g
  have : ((pc : Int) + default).toNat = pc1 := by omega
  show Steps _ _ _ (T.setTop (mkF m ((pc : Int) + default).toNat Ls st)) t
  rw [this]; exact q
end OwnCp
section OwnSub
theorem sub32 {n o : Nat} (h : o ≤ n) (hn : n < 2147483648) : Int32.ofNat n - Int32.ofNat o = Int32.ofNat (n - o) := by
  have a := n32 (n := n) hn
  have b := n32 (n := o) (by omega)
  have d := n32 (n := n - o) (by omega)
  have s := c_isub (Int32.ofNat n) (Int32.ofNat o)
  have r1 := Int32.le_toInt (Int32.ofNat n - Int32.ofNat o); have r2 := Int32.toInt_lt (Int32.ofNat n - Int32.ofNat o)
  apply Int32.toInt_inj.mp
  omega
theorem min_sub {f t n : Nat} (g1 : f ≤ t) (g2 : t ≤ n) (hn : n < 2147483648) : (if Int32.ofNat (t - f) < Int32.ofNat (n - f) then Int32.ofNat (t - f) else Int32.ofNat (n - f)) = Int32.ofNat (t - f) := by
  by_cases q : t = n
  · subst q; rw [ite_self]
  · rw [if_pos ((lt32 (by omega) (by omega)).mpr (by omega))]
theorem add32 (n o : Nat) : Int32.ofNat n + Int32.ofNat o = Int32.ofNat (n + o) := (Int32.ofNat_add n o).symm
theorem or_nn {a b : Int32} (h1 : ¬ a < 0) (h2 : ¬ b < 0) : ¬ a ||| b < 0 := by
  have h := (c_orS a b).1
  have e0 : (0 : Int32).toInt = 0 := rfl
  rw [Int32.lt_iff_toInt_lt] at *; omega
theorem u16_drop_take {cs : List Int32} {o k : Nat} (h : o + k ≤ cs.length) : ((u16 cs).drop (2 * o)).take (2 * k) = u16 ((cs.drop o).take k) := by
  apply u16_of
  · simp only [List.length_take, List.length_drop, u16_length]; omega
  · intro j hj
    simp only [List.length_take, List.length_drop] at hj
    have q : ∀ i, i < 2 * k → (((u16 cs).drop (2 * o)).take (2 * k)).getD i 0 = (u16 cs).getD (2 * o + i) 0 := fun i hi => by
      simp [List.getD_eq_getElem?_getD, List.getElem?_take, List.getElem?_drop, hi]
    have r : ((cs.drop o).take k).getD j 0 = cs.getD (o + j) 0 := by
      have : j < k := by omega
      simp [List.getD_eq_getElem?_getD, List.getElem?_take, List.getElem?_drop, this]
    rw [q _ (by omega), q _ (by omega), r, show 2 * o + 2 * j = 2 * (o + j) by omega, show 2 * o + (2 * j + 1) = 2 * (o + j) + 1 by omega]
    exact ⟨u16_lo (by omega), u16_hi (by omega)⟩
theorem dt_getD {cs : List Int32} {o k j : Nat} (h : j < k) : ((cs.drop o).take k).getD j 0 = cs.getD (o + j) 0 := by
  simp [List.getD_eq_getElem?_getD, List.getElem?_take, List.getElem?_drop, h]
theorem dt_len {cs : List Int32} {o k : Nat} (h : o + k ≤ cs.length) : ((cs.drop o).take k).length = k := by simp; omega
theorem dt_mem {cs : List Int32} {o k : Nat} {c : Int32} (h : c ∈ (cs.drop o).take k) : c ∈ cs := List.mem_of_mem_drop (List.mem_of_mem_take h)
end OwnSub
/-! the wide ldc of a String constant of EL: RW14's road turned by wip/gen/ldcw.py -/
section OwnLdcW
open Jvm.Free.SB Jvm.Free.SBG
variable {p : Program} {l : Launch} {e : Env} {R : Room} {s : State} {m : MethodId} {args : Array Value} {below : List Frame} {meth : Method} {c : Code} {T : State} {locs : List Loc} {cells slots : Nat}
theorem ldcW_found {Q : Unit → Pre} {E : CtlPost} {d : Bool} {acts : List Action} {s : State} {f : JFrame} {index i a : Nat} {k : Class} {cf : ClassFile} {units : Array UInt16}
    (hs : s.topJava?.isSome) (hk : s.vm.classes[f.method.cls]? = some k) (hcf : k.cf = some cf) (hc : cf.constantPool[index]? = some (.string i)) (hu : cf.constantPool[i]? = some (.utf8 units))
    (hr : k.resolved[index]? = some none) (hf : s.vm.interned.find? (fun p => p.1 == units) = some (units, a)) :
    wp (ldc_w.sem index) Q E e d acts (s.setTop f) ↔ Q () true acts ((s.setVm (s.vm.noted f.method.cls index (.string a))).setTop { f with stack := .ref a :: f.stack }) := ldc.wp_string_found hs hk hcf hc hu hr hf
theorem ldcColdW (X : Stand p l e R s m args below meth c T locs cells slots) (hexec : p.tables.exec = Jvm.exec) {own text : String} {index : Nat} (hown : s.vm.findClass own = some m.cls)
    (hlink : (Cond.stringLink own index text).before args s = true) (hS : ∀ a ∈ Bundle.stringAtoms, a.before args s = true)
    {g : JFrame} (hg : g.method = m) (hdg : decode c.code g.pc = .ok (.ldc_w index, 3)) {n : Nat} (hn : 4 * text.toList.length ≤ n) (hbig : n ≤ 536870912)
    (hRcells : cells + 2 ≤ R.cells) (hRslots : slots + (n + 4) ≤ R.slots) :
    ∃ (a : Addr) (T₂ : State), Stand p l e R (s.setVm T₂.vm) m args below meth c T₂ locs (cells + 2) (slots + (n + 4)) ∧ s.Since T₂.vm T₂.heap.size ∧
      (∃ k₂, T₂.vm.classes[m.cls]? = some k₂ ∧ k₂.resolved[index]? = some (some (.string a))) ∧
      (∀ a0, a0 < T.heap.size → T₂.heap[a0]? = T.heap[a0]?) ∧
      T.Warmed39 T₂.vm ∧ (T₂.vm.interned = T.vm.interned ∨ ∃ units : Array UInt16, utf16ToString? units = some text ∧ T₂.vm.interned = T.vm.interned.push (units, a) ∧ T.vm.interned.find? (fun p => p.1 == units) = none ∧ (units.all (· < 256) = true → SlIn 0 T.heap.size T₂ a units)) ∧
      ∀ target, Steps p.tables e below (T₂.setTop { g with pc := g.pc + 3, stack := .ref a :: g.stack }) target → Steps p.tables e below (T.setTop g) target := by
  obtain ⟨k, cf, i, units, hk, hcf, hc, hu, hnm, hdec, hres⟩ := Cond.stringLink_spec hown hlink
  obtain ⟨k', hk', he⟩ := X.warmed.alike.2.2 _ _ hk
  have hcf' : k'.cf = some cf := by rw [he]; exact hcf
  have hbytes : (stringBytes units).size ≤ n := Nat.le_trans (text_bytes_le hdec) hn
  have hnow : (k'.resolved[index]? = some none ∧ k.resolved[index]? = some none) ∨ ∃ a, k'.resolved[index]? = some (some (.string a)) := by
    obtain ⟨k'', ha'', -, -, ee, -⟩ := X.warmed.wide.2.2.2 _ k hk
    cases hk'.symm.trans ha''
    rcases ee index with e0 | ⟨hop, r, e1, hr | ⟨a, t, si, us, rfl, -, q3, q4, q5⟩⟩
    · rcases hres with h0 | ⟨a, h0⟩
      · exact Or.inl ⟨e0.trans h0, h0⟩
      · exact Or.inr ⟨a, e0.trans h0⟩
    · exfalso
      cases r <;> simp [State.rightAt, hk, hcf, hnm] at hr
    · rw [hcf] at q3 q4
      have e3 : si = i := by
        have := q3.symm.trans hc
        simpa using this
      subst e3
      have e4 : us = units := by simpa [ConstantPool.utf8?, hu] using q4.symm
      subst e4
      exact Or.inr ⟨a, e1⟩
  subst hg
  rcases hnow with ⟨hopen, hopen0⟩ | ⟨a, hr'⟩
  · have q2 : k.cf.bind (namesOf? ·.constantPool index) = some (.string text) := by rw [hcf]; exact hnm
    have q3 : k.cf.bind (·.constantPool[index]?) = some (.string i) := by rw [hcf]; exact hc
    have q4 : k.cf.bind (·.constantPool.utf8? i) = some units := by rw [hcf]; simp [ConstantPool.utf8?, hu]
    have r2 : k'.cf.bind (namesOf? ·.constantPool index) = some (.string text) := by rw [hcf']; exact hnm
    have r3 : k'.cf.bind (·.constantPool[index]?) = some (.string i) := by rw [hcf']; exact hc
    have r4 : k'.cf.bind (·.constantPool.utf8? i) = some units := by rw [hcf']; simp [ConstantPool.utf8?, hu]
    cases hf : T.vm.interned.find? (fun p => p.1 == units) with
    | some pr =>
      obtain ⟨u', a⟩ := pr
      have hu' : u' = units := by
        have := Array.find?_some hf
        simpa using this
      subst hu'
      have hW : s.Warmed39 (T.vm.noted g.method.cls index (.string a)) := X.warmed.wide.notedString hk (Or.inl hopen0) q2 q3 q4 hf
      refine ⟨a, T.setVm (T.vm.noted g.method.cls index (.string a)), (X.mono (by omega) (by omega)).retabled hW, ⟨hW, State.Booked.step (T₂ := T.setVm (T.vm.noted g.method.cls index (.string a))) (X.warmed.no_new_pair _) X.same.2.1 ⟨Nat.le_refl _, Or.inl rfl⟩⟩, ⟨_, Vm.classes_note_self index (.string a) hk', Class.resolved_note_self (.string a) hopen⟩, fun _ _ => rfl, (State.Warmed39.refl T).notedString hk' (Or.inl hopen) r2 r3 r4 hf, Or.inl rfl, fun target hrest => ?_⟩
      jvm_step X.here [hexec, hdg, ldcW_found (e := e) (s := T) (f := g) X.here.top hk' hcf' hc hu hopen hf]
      exact hrest
    | none =>
      obtain ⟨Zs, LZs, hn4, hfitv, hfitc⟩ := StringT.of_atoms (args := args) hS
      obtain ⟨kS', kB', LZ', htyS⟩ := LZs.warmer X.warmed.alike
      have hfs : T.fitsSlot = s.fitsSlot := (show T.fitsSlot = (s.setVm T.vm).fitsSlot from rfl).trans (State.fitsSlot_setVm X.warmed.alike)
      have hpush : ({ T.vm with interned := T.vm.interned.push (units, T.heap.size + 1) } : Vm).interned.find? (fun p => p.1 == units) = some (units, T.heap.size + 1) := by
        show (T.vm.interned.push (units, T.heap.size + 1)).find? _ = _
        rw [Array.find?_push, hf]; simp
      have hW : s.Warmed39 (({ T.vm with interned := T.vm.interned.push (units, T.heap.size + 1) } : Vm).noted g.method.cls index (.string (T.heap.size + 1))) :=
        (X.warmed.wide.interns units (T.heap.size + 1)).notedString hk (Or.inl hopen0) q2 q3 q4 hpush
      have X2 := (X.pushed (bytesOf Zs.cB units)).pushed (stringAt Zs.cS kS' Zs.fv Zs.fc units T.heap.size)
      rw [← withString_eq] at X2
      have hkeep : ∀ a0, a0 < T.heap.size → ((withString T Zs.cB Zs.cS kS' Zs.fv Zs.fc units).setVm (({ T.vm with interned := T.vm.interned.push (units, T.heap.size + 1) } : Vm).noted g.method.cls index (.string (T.heap.size + 1)))).heap[a0]? = T.heap[a0]? := by
        intro a0 h0
        show (withString T Zs.cB Zs.cS kS' Zs.fv Zs.fc units).heap[a0]? = _
        rw [withString_eq]
        show ((T.heap.push _).push _)[a0]? = _
        rw [Array.getElem?_push, if_neg (by rw [Array.size_push]; omega), Array.getElem?_push, if_neg (by omega)]
      have hsz : (withString T Zs.cB Zs.cS kS' Zs.fv Zs.fc units).heap.size = T.heap.size + 2 := by
        rw [withString_eq]
        show ((T.heap.push _).push _).size = _
        simp [Array.size_push]
      have hone : T.Interned1 ((withString T Zs.cB Zs.cS kS' Zs.fv Zs.fc units).setVm (({ T.vm with interned := T.vm.interned.push (units, T.heap.size + 1) } : Vm).noted g.method.cls index (.string (T.heap.size + 1)))) :=
        ⟨by show T.heap.size ≤ (withString T Zs.cB Zs.cS kS' Zs.fv Zs.fc units).heap.size; omega, Or.inr ⟨units, T.heap.size + 1, rfl, by omega, by show T.heap.size + 1 < (withString T Zs.cB Zs.cS kS' Zs.fv Zs.fc units).heap.size; omega⟩⟩
      have hcb : ((withString T Zs.cB Zs.cS kS' Zs.fv Zs.fc units).setVm (({ T.vm with interned := T.vm.interned.push (units, T.heap.size + 1) } : Vm).noted g.method.cls index (.string (T.heap.size + 1)))).heap[T.heap.size]? = some (bytesOf Zs.cB units) := by
        show (withString T Zs.cB Zs.cS kS' Zs.fv Zs.fc units).heap[T.heap.size]? = _
        rw [withString_eq]
        show ((T.heap.push _).push _)[T.heap.size]? = _
        rw [Array.getElem?_push, if_neg (by rw [Array.size_push]; omega), Array.getElem?_push, if_pos rfl]
      have hcs : ((withString T Zs.cB Zs.cS kS' Zs.fv Zs.fc units).setVm (({ T.vm with interned := T.vm.interned.push (units, T.heap.size + 1) } : Vm).noted g.method.cls index (.string (T.heap.size + 1)))).heap[T.heap.size + 1]? = some (stringAt Zs.cS kS' Zs.fv Zs.fc units T.heap.size) := by
        show (withString T Zs.cB Zs.cS kS' Zs.fv Zs.fc units).heap[T.heap.size + 1]? = _
        rw [withString_eq]
        show ((T.heap.push _).push _)[T.heap.size + 1]? = _
        rw [Array.getElem?_push, if_pos (by rw [Array.size_push])]
      have b1 : (bytesOf Zs.cB units).slots.size = (stringBytes units).size := by
        rw [(Cell.writeAll_facts _ _).2.2]; simp [bytes0]
      have b2 : (stringAt Zs.cS kS' Zs.fv Zs.fc units T.heap.size).slots.size = 4 := by simp [string0, Cell.setSlot, htyS, hn4]
      refine ⟨T.heap.size + 1, (withString T Zs.cB Zs.cS kS' Zs.fv Zs.fc units).setVm (({ T.vm with interned := T.vm.interned.push (units, T.heap.size + 1) } : Vm).noted g.method.cls index (.string (T.heap.size + 1))), (X2.mono (by omega) (by rw [b1, b2]; omega)).retabled hW, ⟨hW, State.Booked.step (X.warmed.no_new_pair _) X.same.2.1 hone⟩, ⟨_, Vm.classes_note_self (vm := { T.vm with interned := T.vm.interned.push (units, T.heap.size + 1) }) index (.string (T.heap.size + 1)) hk', Class.resolved_note_self (.string (T.heap.size + 1)) hopen⟩, hkeep, ((State.Warmed39.refl T).interns units (T.heap.size + 1)).notedString hk' (Or.inl hopen) r2 r3 r4 hpush, Or.inr ⟨units, hdec, rfl, hf, fun hl => made_sl hS LZs hn4 htyS hW.alike hcb hcs hl (by omega) 0⟩, fun target hrest => ?_⟩
      refine Steps.instr (c := _) (by simpa using X.here) ?_
      simp [jvm, wpRun, exec, X.here.top, hexec, hdg]
      refine ldc.wp_string_new (e := e) (s := T) (f := g) X.here.top hk' hcf' hc hu hopen hf LZ'.found LZ'.cls LZ'.initialized LZ'.ordinary LZ'.foundB LZ'.clsB LZ'.kindB LZ'.value LZ'.coder ?_ ?_ (X.cellsAbove hRcells) ?_
        (stringBytes_fit LZ'.clsB LZ'.kindB units) LZ'.valueSlot LZ'.coderSlot (by rw [hfs]; exact hfitv _) (by rw [hfs]; exact hfitc _) (fun d' acts' => ?_)
      · rw [Launch.admits_arrayLengthLimit X.admits]; omega
      · rw [Launch.admits_maxHeapBytes X.admits]; simp only [componentBytes]; omega
      · have := X.slotsAbove hRslots
        show T.slotsUsed + (stringBytes units).size + kS'.instanceTypes.size ≤ _
        rw [htyS, hn4]; omega
      · intro acts''
        have hs' : (withString T Zs.cB Zs.cS kS' Zs.fv Zs.fc units).topJava?.isSome := by simpa [withString] using X.here.top
        have hs'' : ((withString T Zs.cB Zs.cS kS' Zs.fv Zs.fc units).setVm (({ T.vm with interned := T.vm.interned.push (units, T.heap.size + 1) } : Vm).noted g.method.cls index (.string (T.heap.size + 1)))).topJava?.isSome := by simpa using hs'
        simp [jvm, afterInstr, hs', hs'']
        rw [State.modifyTopJava_setTop]
        exact hrest
  ·
    refine ⟨a, T, (X.mono (by omega) (by omega)).retabled X.warmed.wide, X.warmed.since _, ⟨k', hk', hr'⟩, fun _ _ => rfl, State.Warmed39.refl T, Or.inl rfl, fun target hrest => ?_⟩
    jvm_step X.here [hexec, hdg, ldc_w.wp_string (e := e) (s := T) (f := g) X.here.top hk' hcf' hc hr']
    exact hrest
variable {Z : State} {a0 : Array Value} {EL : List (String × Nat)} {vm vm0 vm1 : Vm} {h h' : Heap} {own text : String} {index : Nat}
theorem ldcOW (X : Stand p l e R (s.setVm vm0) m args below meth c T locs cells slots) (hx : p.tables.exec = Jvm.exec) (hZ : Z.Warmed39 vm0) (hown : vm0.findClass own = some m.cls) (w : (Cond.stringLink own index text).before a0 Z = true) (wS : ∀ a ∈ Bundle.stringAtoms, a.before a0 Z = true)
    (eT : T.heap = h) {k0 : Nat} (hS : s.Since vm0 k0) (hk : k0 ≤ h.size) (hEL : EW Z a0 EL) (H : CHv Z EL vm0 h)
    {g : JFrame} (hg : g.method = m) (hd : decode c.code g.pc = .ok (.ldc_w index, 3)) {n : Nat} (hn : 4 * text.toList.length ≤ n) (hbig : n ≤ 536870912) (hc : cells + 2 ≤ R.cells) (hl' : slots + (n + 4) ≤ R.slots) :
    ∃ (a : Addr) (T' : State) (h' : Heap) (k1 : Nat), Stand p l e R (s.setVm T'.vm) m args below meth c T' locs (cells + 2) (slots + (n + 4)) ∧ T'.heap = h' ∧ Ext h h' ∧ s.Since T'.vm k1 ∧ k1 ≤ h'.size ∧ Z.Warmed39 (s.setVm T'.vm).vm ∧ (s.setVm T'.vm).vm.findClass own = some m.cls ∧ CHr Z EL vm0 h T'.vm h' ∧ Lit (s.setVm T'.vm) own index a ∧
      ∀ target, Steps p.tables e below (T'.setTop { g with pc := g.pc + 3, stack := .ref a :: g.stack }) target → Steps p.tables e below (T.setTop g) target := by
  obtain ⟨a, T', X', hS', ⟨kk, hkk, hrr⟩, hb, hTW, hint, st⟩ := ldcColdW X hx (own := own) hown (mvS hZ w) (fun d hd => by
    have q := wS d hd
    simp only [Bundle.stringAtoms, List.mem_cons, List.not_mem_nil, or_false] at hd
    rcases hd with rfl | rfl | rfl | rfl | rfl | rfl | rfl
    · exact mv (s := s.setVm vm0) hZ q
    · exact mv (s := s.setVm vm0) hZ q
    · exact mvA (s := s.setVm vm0) hZ q
    · exact mv (s := s.setVm vm0) hZ q
    · exact mv (s := s.setVm vm0) hZ q
    · exact mv (s := s.setVm vm0) hZ q
    · exact mv (s := s.setVm vm0) hZ q) hg hd hn hbig hc hl'
  subst eT
  have E := ext_of hb
  have hW : Z.Warmed39 T'.vm := State.Warmed39.trans (t := s.setVm vm0) hZ hS'.1
  have A := CHv.at X hZ hEL H
  have hZT : Z.Warmed39 T.vm := wtrans (s := s.setVm vm0) hZ X.warmed
  have B := CHv.later (vm := T.vm) (vm1 := T'.vm) hZT (show (Wst Z T.vm T.heap).Warmed39 T'.vm from hTW) hEL E (hint.imp id fun ⟨us, _, e1, e2, e3⟩ => ⟨us, a, e1, e2, fun hl => by
    obtain ⟨q, cS, hq, r1, r2, r3, r4, r5⟩ := e3 hl
    have F : SlB T' q us := ⟨cS, r1, r2, r3, r4⟩
    refine ⟨q, hq, F.carry (V := Wst Z T'.vm T'.heap) (Vm.Alike.refl _) F.ha F.hd, ?_⟩
    rcases r5 with ⟨z, -⟩ | z
    · exact absurd z (Nat.not_lt_zero _)
    · exact z⟩) A.1
  have hf : T'.vm.findClass own = some m.cls := by rw [hS'.1.alike.findClass]; exact hown
  exact ⟨a, T', _, _, X', rfl, E, hS.trans hS' (Nat.le_trans hk E.1), Nat.le_refl _, hW, hf, A.trans ⟨B.1, E.1, B.2⟩, by simp [Lit, State.resolvedAt?, hf, hkk, hrr], st⟩
theorem ldcCW (X : Stand p l e R (s.setVm vm0) m args below meth c T locs cells slots) (hx : p.tables.exec = Jvm.exec) (hZ : Z.Warmed39 vm0) (hown : vm0.findClass own = some m.cls) (w : (Cond.stringLink own index text).before a0 Z = true) (wS : ∀ a ∈ Bundle.stringAtoms, a.before a0 Z = true)
    (eT : T.heap = h) {k0 : Nat} (hS : s.Since vm0 k0) (hk : k0 ≤ h.size) (hEL : EW Z a0 EL) (hmem : (own, index) ∈ EL) (H : CHv Z EL vm0 h)
    {vs : List Value} {z : Int32} (ht : (∀ c ∈ text.toList, c.toNat < 256) ∧ text.toList.map (fun c => Value.int (Jvm.Lit.byteI c.toNat.toUInt16)) = vs) (hz : ¬ z < 0) (hl : z.toNatClampNeg = vs.length)
    {g : JFrame} (hg : g.method = m) (hd : decode c.code g.pc = .ok (.ldc_w index, 3)) {n : Nat} (hn : 4 * text.toList.length ≤ n) (hbig : n ≤ 536870912) (hc : cells + 2 ≤ R.cells) (hl' : slots + (n + 4) ≤ R.slots) :
    ∃ (a : Addr) (T' : State) (h' : Heap) (k1 : Nat) (b : Addr) (k : ClassId), Stand p l e R (s.setVm T'.vm) m args below meth c T' locs (cells + 2) (slots + (n + 4)) ∧ T'.heap = h' ∧ Ext h h' ∧ s.Since T'.vm k1 ∧ k1 ≤ h'.size ∧ Z.Warmed39 (s.setVm T'.vm).vm ∧ (s.setVm T'.vm).vm.findClass own = some m.cls ∧
      Exa Z h' a "java/lang/String" ∧ Fld Z h' a "java/lang/String" "coder" "B" (.int 0) ∧ Fld Z h' a "java/lang/String" "value" "[B" (.ref b) ∧ Arv Z h' b k .byte z vs (.int 0) ∧ a < h'.size ∧ b < h'.size ∧ CHr Z EL vm0 h T'.vm h' ∧ Lit (s.setVm T'.vm) own index a ∧ (∀ x, Safe Z EL T'.vm h' x → x ≠ a ∧ x ≠ b) ∧
      ∀ target, Steps p.tables e below (T'.setTop { g with pc := g.pc + 3, stack := .ref a :: g.stack }) target → Steps p.tables e below (T.setTop g) target := by
  obtain ⟨a, T', h', k1', X', rfl, E, hS2, hk2, hW, hf, hC, hL, st⟩ := ldcOW X hx hZ hown w wS eT hS hk hEL H hg hd hn hbig hc hl'
  have hW : Z.Warmed39 T'.vm := hW
  have hal : Z.vm.Alike T'.vm := hW.alike
  have w2 : (Cond.stringLink own index text).before a0 (Wst Z T'.vm T'.heap) = true := mvS (s := { Z with heap := T'.heap }) hW w
  obtain ⟨k0', cf, i, units, hkx, hcf, hp, hu, -, htext, -⟩ := Cond.stringLink_spec (s := Wst Z T'.vm T'.heap) hf w2
  have hres : k0'.resolved[index]? = some (some (.string a)) := by
    have q : (s.setVm T'.vm).resolvedAt? own index = some (.string a) := hL
    have hf' : T'.vm.findClass own = some m.cls := hf
    have hk' : T'.vm.classes[m.cls]? = some k0' := hkx
    simp [State.resolvedAt?, hf', hk'] at q
    cases hr : k0'.resolved[index]? with
    | none => rw [hr] at q; cases q
    | some o => rw [hr] at q; cases o with
      | none => cases q
      | some r => simpa using q
  have hB0 : Booksv T'.vm own index units a := ⟨m.cls, k0', cf, i, hf, hkx, hcf, hp, hu, Or.inl hres⟩
  have hlat := Jvm.ClassFile.lat_of_text htext ht.1
  obtain ⟨q, hqa, F⟩ := SlB.of (hC.1 _ hmem units a hB0)
  have hne : ∀ x, Safe Z EL T'.vm T'.heap x → x ≠ q.sa ∧ x ≠ q.sd := fun x S => ⟨fun e1 => S ⟨_, hmem, units, a, hB0, q, hqa, F, Or.inl e1⟩, fun e1 => S ⟨_, hmem, units, a, hB0, q, hqa, F, Or.inr e1⟩⟩
  obtain ⟨cS, ⟨⟨s1, s2, s3, ⟨cv, kv, iv, s4, s4'⟩, ⟨cc, kc, ic, s5, s5'⟩, s6, s7, s8, s9, s10, s11, s12, s13, s14, s15, s16⟩, hfS, hcS⟩, ⟨kS, k1, k2, k3⟩, hB, hbyt⟩ := F
  subst hqa
  have hfS : T'.vm.findClass "java/lang/String" = some cS := hfS
  have hB : T'.vm.findClass "[B" = some q.SA.cls := hB
  have k1 : T'.vm.classes[cS]? = some kS := k1
  obtain ⟨kv', z4⟩ := ff_back (U := Wst Z T'.vm T'.heap) hal s4
  obtain ⟨kc', z5⟩ := ff_back (U := Wst Z T'.vm T'.heap) hal s5
  have hfZ : Z.vm.findClass "java/lang/String" = some q.sC.cls := by rw [← hal.findClass, hcS]; exact hfS
  obtain ⟨kz, hkz, -⟩ := Vm.findClass_spec hfZ
  obtain ⟨kz', hkz', ekz⟩ := hal.2.2 _ _ hkz
  have ekS : kz' = kS := Option.some.inj (hkz'.symm.trans (hcS ▸ k1))
  have hBZ : Z.vm.findClass "[B" = some q.SA.cls := by rw [← hal.findClass]; exact hB
  obtain ⟨kb, hkb, -⟩ := Vm.findClass_spec hBZ
  obtain ⟨kb', hkb', ekb⟩ := hal.2.2 _ _ hkb
  obtain ⟨hst, k9, hk9, comp, hkind9⟩ := s11
  have hk9 : T'.vm.classes[q.SA.cls]? = some k9 := hk9
  have ek9 : k9 = kb' := Option.some.inj (hk9.symm.trans hkb')
  have hAZ : Z.isArrayOf q.SA .byte := ⟨hst, kb, hkb, comp, by rw [ek9, ekb] at hkind9; exact hkind9⟩
  have eu : vs = units.toList.map fun u => Value.int (Jvm.Lit.byteI u) := by rw [← ht.2, Jvm.ClassFile.units_of_text htext ht.1, List.map_map]; rfl
  have el : vs.length = units.size := by rw [eu]; simp
  have hsl : q.SA.slots = units.map fun u => Value.int (Jvm.Lit.byteI u) := by rw [hbyt, SBG.stringBytes_lat hlat]; rfl
  have hsz : q.SA.slots.size = units.size := by rw [hsl, Array.size_map]
  have H2 : Has q.SA vs (.int 0) := fun j hj => by
    have hj' : j < units.size := by omega
    rw [hsl, eu]; simp [hj']
  refine ⟨q.sa, T', _, _, q.sd, q.SA.cls, X', rfl, E, hS2, hk2, hW, hf,
    ⟨q.sC, kz, s1, hfZ, hkz, s3, fun ho => by rw [k3, ← ekS, ekz]⟩, ⟨q.sC, cc, kc', ic, q.fSC, s1, z5, s7, s2, s3, by rw [← hal.assignable]; exact s5', s9⟩, ⟨q.sC, cv, kv', iv, q.fSV, s1, z4, s6, s2, s3, by rw [← hal.assignable]; exact s4', s8⟩,
    ⟨q.SA, ⟨s10, hAZ, s12⟩, rfl, by rw [hsz, hl, el], hz, H2, fun j hj => ?_⟩, (Array.getElem?_eq_some_iff.mp s1).1, (Array.getElem?_eq_some_iff.mp s10).1, hC, hL, hne, st⟩
  have e1 := s16 j hj
  have e2 := H2 j hj
  rw [SBG.getD_of e2] at e1
  exact e1
end OwnLdcW
section OwnLdcW2
variable {p : Program} {l : Launch} {e : Env} {R : Room} {s : State} {m : MethodId} {args : Array Value} {below : List Frame} {meth : Method} {c : Code} {T : State} {cells slots : Nat} {Z : State} {a0 : Array Value} {h h' : Heap} {EL : List (String × Nat)} {own : String} {kn : Bool} {S : Addr → Prop} {A : Outcome → State → Prop} {Ls : Array Slot} {st : List Value} {pc : Nat} {code : ByteArray}
theorem gLdcW (X : Sd true kn Z a0 EL p l e R s m args below meth c own T h S cells slots) (hby : c.code = code) {text : String} {index : Nat} (w1 : (Jvm.Cond.stringLink own index text).before a0 Z = true) (wS : ∀ a ∈ Bundle.stringAtoms, a.before a0 Z = true) (hmem : (own, index) ∈ EL)
    {xs : List Int32} (hlat : ∀ c ∈ text.toList, c.toNat < 256) (ht : text.toList.map (fun c => Jvm.Lit.byteI c.toNat.toUInt16) = xs) (hxs : xs.length < 1000) (hd : decode code pc = .ok (.ldc_w index, 3)) {n : Nat} (hn : 4 * text.toList.length ≤ n) (hbig : n ≤ 536870912) (hc : cells + 2 ≤ R.cells) (hl : slots + (n + 4) ≤ R.slots)
    (k : ∀ T' h' S' a b, Sd true kn Z a0 EL p l e R s m args below meth c own T' h' S' (cells + 2) (slots + (n + 4)) → Ext h h' → Exa Z h' a "java/lang/String" → Fld Z h' a "java/lang/String" "coder" "B" (.int 0) → Fld Z h' a "java/lang/String" "value" "[B" (.ref b) → Ari Z h' b .byte xs → (∀ x, x < h.size → S x → S' x) → (∀ x, S' x → x ≠ a ∧ x ≠ b) →
      Go p e below A (T'.setTop (mkF m (pc + 3) Ls (.ref a :: st)))) : Go p e below A (T.setTop (mkF m pc Ls st)) := by
  obtain ⟨q1, vm0, locs, X, eT, hZ, hown, ⟨k0, hS, hk⟩, N, hO, hC, rfl⟩ := X
  obtain ⟨a, T', h', k1, b, kb, X', e', E, hS', hk', hZ', hown', E1, F1, F2, V, -, -, hC', -, hne, stp⟩ := ldcCW X q1.1 hZ hown w1 wS eT hS hk q1.2.1 hmem hC.1 (vs := xs.map Value.int) (z := Int32.ofNat xs.length) ⟨hlat, by rw [← ht, List.map_map]; rfl⟩ (nn32 (by omega)) (by rw [c32 (by omega), List.length_map]) (g := mkF m pc Ls st) rfl (hb hby hd) hn hbig hc hl
  exact Go.step stp (k T' h' (Safe Z EL T'.vm h') a b ⟨q1, T'.vm, locs, X', e', hZ', hown', ⟨k1, hS', hk'⟩, N, hO.ext E, hC.trans hC', rfl⟩ E E1 F1 F2 ⟨by omega, kb, V⟩ (fun x hx hs => hC'.safe hx hs) hne)
end OwnLdcW2
end OwnKit
open Jvm Jvm.ClassFile Sem Op Lib Jvm.Free Jvm.Stand Jvm.LawKit Jvm.RoadKit Bundle OwnKit Jvm.Pilot.@@N@@.Jvm.D
abbrev EL : List (String × Nat) := consts_1
variable {l : Launch} {Z : State} {a0 : Array Value}
abbrev i_ (x : Int32) : Slot := .val (.int x)
abbrev r_ (x : Addr) : Slot := .val (.ref x)
abbrev u_ : Slot := .unset
theorem strIn : ∀ d ∈ Bundle.stringAtoms, d ∈ tables_1 := by decide +kernel
theorem pn_java_lang_StringUTF16 : plainName "java/lang/StringUTF16" = true := by first | (simp [plainName, overriddenIn]; done) | decide +kernel
theorem ef_jdk_52_method_21_code (m : MethodId) (x0 : Addr) (x1 : Int32) (x2 : Addr) (x3 : Int32) (x4 : Int32) : entryFrame m #[(.ref x0), (.int x1), (.ref x2), (.int x3), (.int x4)] 7 = mkF m 0 #[r_ x0, i_ x1, r_ x2, i_ x3, i_ x4, u_, u_] [] := by first | (simp [entryFrame, mkF, argsToLocals, Value.category]; done) | rfl
theorem b1 : decs jdk_52_method_21_code 0 [.iconst 0, .istore 5] = true := by decide +kernel
theorem b2 : decs jdk_52_method_21_code 3 [.iload 5, .iload 4] = true := by decide +kernel
theorem d_jdk_52_method_21_code_7 : decode jdk_52_method_21_code 7 = .ok (.if_icmp .ge 37, 3) := by decide +kernel
theorem b3 : decs jdk_52_method_21_code 44 [.iload 4] = true := by decide +kernel
theorem d_jdk_52_method_21_code_46 : decode jdk_52_method_21_code 46 = .ok (.ireturn, 1) := by decide +kernel
theorem b4 : decs jdk_52_method_21_code 3 [.iload 5, .iload 4] = true := by decide +kernel
theorem b5 : decs jdk_52_method_21_code 10 [.aload_n 0, .iload_n 1] = true := by decide +kernel
theorem d_jdk_52_method_21_code_12 : decode jdk_52_method_21_code 12 = .ok (.caload, 1) := by decide +kernel
theorem d_jdk_52_method_21_code_13 : decode jdk_52_method_21_code 13 = .ok (.istore 6, 2) := by decide +kernel
theorem b6 : decs jdk_52_method_21_code 15 [.iload 6, .sipush 255] = true := by decide +kernel
theorem d_jdk_52_method_21_code_20 : decode jdk_52_method_21_code 20 = .ok (.if_icmp .le 6, 3) := by decide +kernel
theorem b7 : decs jdk_52_method_21_code 26 [.aload_n 2, .iload_n 3, .iload 6, .i2b] = true := by decide +kernel
theorem d_jdk_52_method_21_code_31 : decode jdk_52_method_21_code 31 = .ok (.bastore, 1) := by decide +kernel
theorem b8 : decs jdk_52_method_21_code 32 [.iinc 1 1, .iinc 3 1, .iinc 5 1, .goto (-38)] = true := by decide +kernel
theorem b9 : decs jdk_52_method_21_code 23 [.iload 5] = true := by decide +kernel
theorem d_jdk_52_method_21_code_25 : decode jdk_52_method_21_code 25 = .ok (.ireturn, 1) := by decide +kernel
def QC5 (Z : State) (h0 : Heap) (d : Addr) (cs : List Int32) (v : Option Value) (h : Heap) (S : Addr → Prop) : Prop := ∃ i ys, v = some (.int (Int32.ofNat i)) ∧ i ≤ cs.length ∧ Keep h0 h [d] ∧ Ari Z h d .byte ys ∧ ys.length = cs.length ∧ (∀ j, j < i → ¬ 255 < cs.getD j 0 ∧ ys.getD j 0 = lo8 (cs.getD j 0)) ∧ (i < cs.length → 255 < cs.getD i 0)
set_option maxRecDepth 65536 in
set_option maxHeartbeats 40000000 in
theorem ct_cmp5 {h0 : Heap} {a d : Addr} {cs ys : List Int32} (hw : ∀ d ∈ tables_1, d.before a0 Z = true) (hEL : EW Z a0 EL) (hO : Old Z Z.heap.size h0) (VA : Ari Z h0 a .char cs) (VD : Ari Z h0 d .byte ys) (hl : ys.length = cs.length) (hne : a ≠ d) (gd : Z.heap.size ≤ d) :
    Ct true false Z EL l (⟨"java/lang/StringUTF16", "compress", "([CI[BII)I"⟩ : MethodName) jdk_52_method_21_code 7 (some .int) ({ frames := 0, cells := 0, slots := 0, locals := 0 } : Room) #[(.ref a), (.int 0), (.ref d), (.int 0), (.int (Int32.ofNat cs.length))] h0 [d] (QC5 Z h0 d cs) := by
  refine ctOf (plainFor_of_name pn_java_lang_StringUTF16) hO hEL ?_
  intro p e s m below meth c s₁ S0 X0 hby hml hret hnm hsf
  refine Go.entry (ef_jdk_52_method_21_code m a (0 : Int32) d (0 : Int32) (Int32.ofNat cs.length)) ?_
  show Go _ _ _ _ (s₁.setTop (mkF m 0 #[r_ a, i_ 0, r_ d, i_ 0, i_ (Int32.ofNat cs.length), u_, u_] []))
  refine blk X0 hby b1 (pc' := 3) (Ls' := #[r_ a, i_ 0, r_ d, i_ 0, i_ (Int32.ofNat cs.length), i_ 0, u_]) (st' := []) rfl ?_
  have loop : ∀ (n i : Nat) (T : State) (h : Heap) (S : Addr → Prop) (ys : List Int32) (sl : Slot), n + i = cs.length → Sd true false Z a0 EL p l e ({ frames := 0, cells := 0, slots := 0, locals := 0 } : Room) s m #[(.ref a), (.int 0), (.ref d), (.int 0), (.int (Int32.ofNat cs.length))] below meth c "java/lang/StringUTF16" T h S 0 0 → Ari Z h a .char cs → Ari Z h d .byte ys → ys.length = cs.length → Keep h0 h [d] → S d → (∀ j, j < i → ¬ 255 < cs.getD j 0 ∧ ys.getD j 0 = lo8 (cs.getD j 0)) → One sl → Go p e below (Pst true Z EL ({ frames := 0, cells := 0, slots := 0, locals := 0 } : Room).cells ({ frames := 0, cells := 0, slots := 0, locals := 0 } : Room).slots (QC5 Z h0 d cs) s) (T.setTop (mkF m 3 #[.val (.ref a), .val (.int (Int32.ofNat i)), .val (.ref d), .val (.int (Int32.ofNat i)), .val (.int (Int32.ofNat cs.length)), .val (.int (Int32.ofNat i)), sl] [])) := by
    intro n
    induction n with
    | zero =>
      intro i T h S ys sl hn X VA VD hl K hs hy ho
      have hL := VA.len
      have hi31 : i < 2147483648 := by omega
      refine blk X hby b2 (pc' := 7) (Ls' := #[r_ a, i_ (Int32.ofNat i), r_ d, i_ (Int32.ofNat i), i_ (Int32.ofNat cs.length), i_ (Int32.ofNat i), sl]) (st' := [(.int (Int32.ofNat cs.length)), (.int (Int32.ofNat i))]) rfl ?_
      refine brI X hby d_jdk_52_method_21_code_7 (pc1 := 44) (by decide) (fun hc => ?_) (fun hc => absurd (geF hc) (by rw [lt32 hi31 hL]; omega))
      refine blk X hby b3 (pc' := 46) (Ls' := #[r_ a, i_ (Int32.ofNat i), r_ d, i_ (Int32.ofNat i), i_ (Int32.ofNat cs.length), i_ (Int32.ofNat i), sl]) (st' := [(.int (Int32.ofNat cs.length))]) rfl ?_
      exact retI' X hby hret d_jdk_52_method_21_code_46 rfl (fun S' hS' => ⟨cs.length, ys, rfl, Nat.le_refl _, K, VD, hl, fun j hj => hy j (by omega), fun q => absurd q (Nat.lt_irrefl _)⟩)
    | succ n ih =>
      intro i T h S ys sl hn X VA VD hl K hs hy ho
      have hL := VA.len
      have hi31 : i < 2147483648 := by omega
      refine blk X hby b4 (pc' := 7) (Ls' := #[r_ a, i_ (Int32.ofNat i), r_ d, i_ (Int32.ofNat i), i_ (Int32.ofNat cs.length), i_ (Int32.ofNat i), sl]) (st' := [(.int (Int32.ofNat cs.length)), (.int (Int32.ofNat i))]) rfl ?_
      have hil : i < cs.length := by omega
      refine brI X hby d_jdk_52_method_21_code_7 (pc1 := 44) (by decide) (fun hc => absurd (geT hc) (fun q => q (by rw [lt32 hi31 hL]; omega))) (fun hc => ?_)
      refine blk X hby b5 (pc' := 12) (Ls' := #[r_ a, i_ (Int32.ofNat i), r_ d, i_ (Int32.ofNat i), i_ (Int32.ofNat cs.length), i_ (Int32.ofNat i), sl]) (st' := [(.int (Int32.ofNat i)), (.ref a)]) rfl ?_
      refine gLd X hby VA (Or.inr (Or.inl ⟨rfl, rfl⟩)) d_jdk_52_method_21_code_12 (i := i) rfl hil ?_
      refine gIst X hby d_jdk_52_method_21_code_13 (o := sl) rfl ho ?_
      refine blk X hby b6 (pc' := 20) (Ls' := #[r_ a, i_ (Int32.ofNat i), r_ d, i_ (Int32.ofNat i), i_ (Int32.ofNat cs.length), i_ (Int32.ofNat i), i_ (cs.getD i 0)]) (st' := [(.int 255), (.int (cs.getD i 0))]) rfl ?_
      refine brI X hby d_jdk_52_method_21_code_20 (pc1 := 26) (by decide) (fun hc2 => ?_) (fun hc2 => ?_)
      · replace hc2 := leT hc2
        refine blk X hby b7 (pc' := 31) (Ls' := #[r_ a, i_ (Int32.ofNat i), r_ d, i_ (Int32.ofNat i), i_ (Int32.ofNat cs.length), i_ (Int32.ofNat i), i_ (cs.getD i 0)]) (st' := [(.int (lo8 (cs.getD i 0))), (.int (Int32.ofNat i)), (.ref d)]) rfl ?_
        refine gSt X hby VD (Or.inr (Or.inr ⟨rfl, rfl⟩)) d_jdk_52_method_21_code_31 (i := i) rfl (by omega) (by rw [nar_lo8]; exact fits_nar_byte _) gd hs (fun T1 h1 S1 X1 W1 V1 sS1 => ?_)
        rw [nar_lo8] at V1
        refine blk X1 hby b8 (pc' := 3) (Ls' := #[r_ a, i_ ((Int32.ofNat i) + (1 : Int32)), r_ d, i_ ((Int32.ofNat i) + (1 : Int32)), i_ (Int32.ofNat cs.length), i_ ((Int32.ofNat i) + (1 : Int32)), i_ (cs.getD i 0)]) (st' := []) rfl ?_
        rw [succ32]
        refine ih (i + 1) T1 h1 S1 _ (.val (.int (cs.getD i 0))) (by omega) X1 (VA.other W1 hne) V1 (by rw [List.length_set]; exact hl) (K.wr W1 (Or.inl (by simp))) (sS1 d hs) (fun j hj => ?_) (One.val rfl)
        by_cases q : j = i
        · subst q; exact ⟨hc2, getD_set_self (by omega)⟩
        · rw [getD_set_ne (fun z => q z.symm)]; exact hy j (by omega)
      · replace hc2 := leF hc2
        refine blk X hby b9 (pc' := 25) (Ls' := #[r_ a, i_ (Int32.ofNat i), r_ d, i_ (Int32.ofNat i), i_ (Int32.ofNat cs.length), i_ (Int32.ofNat i), i_ (cs.getD i 0)]) (st' := [(.int (Int32.ofNat i))]) rfl ?_
        exact retI' X hby hret d_jdk_52_method_21_code_25 rfl (fun S' hS' => ⟨i, ys, rfl, by omega, K, VD, hl, hy, fun _ => hc2⟩)
  exact loop cs.length 0 s₁ h0 S0 ys .unset (by omega) X0 VA VD hl (Keep.refl _ _) (hsf d (by simp)) (fun j hj => absurd hj (Nat.not_lt_zero _)) One.u
theorem ef_jdk_52_method_3_code (m : MethodId) (x0 : Int32) : entryFrame m #[(.int x0)] 1 = mkF m 0 #[i_ x0] [] := by first | (simp [entryFrame, mkF, argsToLocals, Value.category]; done) | rfl
theorem b10 : decs jdk_52_method_3_code 0 [.iload_n 0] = true := by decide +kernel
theorem d_jdk_52_method_3_code_1 : decode jdk_52_method_3_code 1 = .ok (.ifCond .ge 11, 3) := by decide +kernel
theorem b11 : decs jdk_52_method_3_code 12 [.iload_n 0] = true := by decide +kernel
theorem d_jdk_52_method_3_code_13 : decode jdk_52_method_3_code 13 = .ok (.ldc 20, 2) := by decide +kernel
theorem d_jdk_52_method_3_code_15 : decode jdk_52_method_3_code 15 = .ok (.if_icmp .lt 40, 3) := by decide +kernel
theorem b12 : decs jdk_52_method_3_code 55 [.iload_n 0, .iconst 1, .ishl] = true := by decide +kernel
theorem d_jdk_52_method_3_code_58 : decode jdk_52_method_3_code 58 = .ok (.ireturn, 1) := by decide +kernel
def QI (h0 : Heap) (r : Int32) (v : Option Value) (h : Heap) (S : Addr → Prop) : Prop := v = some (.int r) ∧ h0 = h
set_option maxRecDepth 65536 in
set_option maxHeartbeats 40000000 in
theorem ct_nbl {h0 : Heap} {k : Nat} (hw : ∀ d ∈ tables_1, d.before a0 Z = true) (hEL : EW Z a0 EL) (hO : Old Z Z.heap.size h0) (hk : k ≤ 4) :
    Ct true false Z EL l (⟨"java/lang/StringUTF16", "newBytesLength", "(I)I"⟩ : MethodName) jdk_52_method_3_code 1 (some .int) ({ frames := 0, cells := 0, slots := 0, locals := 0 } : Room) #[(.int (Int32.ofNat k))] h0 [] (QI h0 (Int32.ofNat (2 * k))) := by
  refine ctOf (plainFor_of_name pn_java_lang_StringUTF16) hO hEL ?_
  intro p e s m below meth c s₁ S0 X0 hby hml hret hnm hsf
  refine Go.entry (ef_jdk_52_method_3_code m (Int32.ofNat k)) ?_
  show Go _ _ _ _ (s₁.setTop (mkF m 0 #[i_ (Int32.ofNat k)] []))
  refine blk X0 hby b10 (pc' := 1) (Ls' := #[i_ (Int32.ofNat k)]) (st' := [(.int (Int32.ofNat k))]) rfl ?_
  refine br0 X0 hby d_jdk_52_method_3_code_1 (pc1 := 12) (by decide) (fun hc => ?_) (fun hc => absurd (geF hc) (nn32 (by omega)))
  refine blk X0 hby b11 (pc' := 13) (Ls' := #[i_ (Int32.ofNat k)]) (st' := [(.int (Int32.ofNat k))]) rfl ?_
  refine gLdcI X0 hby (hw _ (List.mem_of_getElem? (i := 131) rfl)) d_jdk_52_method_3_code_13 ?_
  refine brI X0 hby d_jdk_52_method_3_code_15 (pc1 := 55) (by decide) (fun hd => ?_) (fun hd => absurd (ltF hd) (fun q => q ((lt32 (j := 1073741823) (by omega) (by decide)).mpr (by omega))))
  refine blk X0 hby b12 (pc' := 58) (Ls' := #[i_ (Int32.ofNat k)]) (st' := [(.int ((Int32.ofNat k) <<< ((1 : Int32) &&& 31)))]) rfl ?_
  exact retI' X0 hby hret d_jdk_52_method_3_code_58 rfl (fun S' hS' => ⟨by rw [shl1 (by omega)], rfl⟩)
theorem ef_jdk_52_method_2_code (m : MethodId) (x0 : Int32) : entryFrame m #[(.int x0)] 1 = mkF m 0 #[i_ x0] [] := by first | (simp [entryFrame, mkF, argsToLocals, Value.category]; done) | rfl
theorem b13 : decs jdk_52_method_2_code 0 [.iload_n 0] = true := by decide +kernel
theorem d_jdk_52_method_2_code_1 : decode jdk_52_method_2_code 1 = .ok (.invokestatic 11, 3) := by decide +kernel
theorem pd__I_I : parseMethodDescriptor "(I)I" = some ⟨[.int], (some .int)⟩ := by decide +kernel
theorem d_jdk_52_method_2_code_4 : decode jdk_52_method_2_code 4 = .ok (.newarray .byte, 2) := by decide +kernel
theorem d_jdk_52_method_2_code_6 : decode jdk_52_method_2_code 6 = .ok (.areturn, 1) := by decide +kernel
def QNB (Z : State) (h0 : Heap) (n : Nat) (v : Option Value) (h : Heap) (S : Addr → Prop) : Prop := v = some (.ref h0.size) ∧ Ext h0 h ∧ Ari Z h h0.size .byte (List.replicate n 0) ∧ S h0.size
set_option maxRecDepth 65536 in
set_option maxHeartbeats 40000000 in
theorem ct_nbf {h0 : Heap} {k : Nat} (hw : ∀ d ∈ tables_1, d.before a0 Z = true) (hEL : EW Z a0 EL) (hO : Old Z Z.heap.size h0) (hk : k ≤ 4) :
    Ct true false Z EL l (⟨"java/lang/StringUTF16", "newBytesFor", "(I)[B"⟩ : MethodName) jdk_52_method_2_code 1 (some (.array .byte)) ({ frames := 1, cells := 1, slots := 8, locals := 14 } : Room) #[(.int (Int32.ofNat k))] h0 [] (QNB Z h0 (2 * k)) := by
  refine ctOf (plainFor_of_name pn_java_lang_StringUTF16) hO hEL ?_
  intro p e s m below meth c s₁ S0 X0 hby hml hret hnm hsf
  refine Go.entry (ef_jdk_52_method_2_code m (Int32.ofNat k)) ?_
  show Go _ _ _ _ (s₁.setTop (mkF m 0 #[i_ (Int32.ofNat k)] []))
  refine blk X0 hby b13 (pc' := 1) (Ls' := #[i_ (Int32.ofNat k)]) (st' := [(.int (Int32.ofNat k))]) rfl ?_
  refine gStatic X0 hby (argsL := [(.int (Int32.ofNat k))]) (st := []) (ct_nbl hw hEL X0.old hk) (hw _ (List.mem_of_getElem? (i := 128) rfl)) (hw _ (List.mem_of_getElem? (i := 129) rfl)) (hw _ (List.mem_of_getElem? (i := 62) rfl)) (hw _ (List.mem_of_getElem? (i := 130) rfl)) pd__I_I rfl d_jdk_52_method_2_code_1 rfl (by rw [hml]; rfl) all0 (by decide) (Nat.le_of_ble_eq_true rfl) (by decide) (by decide) (fun v1 T1 h1 S1 X1 q1 sS1 sz1 => ?_)
  obtain ⟨rfl, rfl⟩ := q1
  show Go _ _ _ _ (T1.setTop (mkF m 4 #[i_ (Int32.ofNat k)] [(.int (Int32.ofNat (2 * k)))]))
  refine gNewA X1 hby (aty := .byte) (hw _ (List.mem_of_getElem? (i := 23) rfl)) d_jdk_52_method_2_code_4 rfl (N := (2 * k)) (cap := 8) rfl (by omega) (by decide) (by decide) (by decide) (fun T2 h2 S2 X2 E2 V2 sS2 sn2 => ?_)
  exact retA' X2 hby hret d_jdk_52_method_2_code_6 rfl (fun S' hS' => ⟨rfl, E2, V2, hS' _ sn2⟩)
theorem ef_jdk_52_method_4_code (m : MethodId) (x0 : Addr) (x1 : Int32) (x2 : Int32) : entryFrame m #[(.ref x0), (.int x1), (.int x2)] 3 = mkF m 0 #[r_ x0, i_ x1, i_ x2] [] := by first | (simp [entryFrame, mkF, argsToLocals, Value.category]; done) | rfl
theorem d_jdk_52_method_4_code_0 : decode jdk_52_method_4_code 0 = .ok (.getstatic 44, 3) := by decide +kernel
theorem d_jdk_52_method_4_code_3 : decode jdk_52_method_4_code 3 = .ok (.ifCond .ne 25, 3) := by decide +kernel
theorem b14 : decs jdk_52_method_4_code 28 [.iload_n 1, .iconst 1, .ishl, .istore_n 1] = true := by decide +kernel
theorem b15 : decs jdk_52_method_4_code 32 [.aload_n 0, .iload_n 1, .iinc 1 1, .iload_n 2] = true := by decide +kernel
theorem d_jdk_52_method_4_code_38 : decode jdk_52_method_4_code 38 = .ok (.getstatic 59, 3) := by decide +kernel
theorem b16 : decs jdk_52_method_4_code 41 [.ishr, .i2b] = true := by decide +kernel
theorem d_jdk_52_method_4_code_43 : decode jdk_52_method_4_code 43 = .ok (.bastore, 1) := by decide +kernel
theorem b17 : decs jdk_52_method_4_code 44 [.aload_n 0, .iload_n 1, .iload_n 2] = true := by decide +kernel
theorem d_jdk_52_method_4_code_47 : decode jdk_52_method_4_code 47 = .ok (.getstatic 63, 3) := by decide +kernel
theorem b18 : decs jdk_52_method_4_code 50 [.ishr, .i2b] = true := by decide +kernel
theorem d_jdk_52_method_4_code_52 : decode jdk_52_method_4_code 52 = .ok (.bastore, 1) := by decide +kernel
theorem d_jdk_52_method_4_code_53 : decode jdk_52_method_4_code 53 = .ok (.return_, 1) := by decide +kernel
def QPC (Z : State) (h0 : Heap) (d : Addr) (zs : List Int32) (v : Option Value) (h : Heap) (S : Addr → Prop) : Prop := v = none ∧ Keep h0 h [d] ∧ Ari Z h d .byte zs ∧ S d
set_option maxRecDepth 65536 in
set_option maxHeartbeats 40000000 in
theorem ct_put {h0 : Heap} {d : Addr} {ys : List Int32} {i : Nat} {x zc : Int32} (hw : ∀ d ∈ tables_1, d.before a0 Z = true) (hEL : EW Z a0 EL) (hO : Old Z Z.heap.size h0) (U : US Z zc) (VD : Ari Z h0 d .byte ys) (hi : 2 * i + 1 < ys.length) (gd : Z.heap.size ≤ d) :
    Ct true false Z EL l (⟨"java/lang/StringUTF16", "putChar", "([BII)V"⟩ : MethodName) jdk_52_method_4_code 3 none ({ frames := 0, cells := 0, slots := 0, locals := 0 } : Room) #[(.ref d), (.int (Int32.ofNat i)), (.int x)] h0 [d] (QPC Z h0 d ((ys.set (2 * i) (lo8 x)).set (2 * i + 1) (hi8 x))) := by
  refine ctOf (plainFor_of_name pn_java_lang_StringUTF16) hO hEL ?_
  intro p e s m below meth c s₁ S0 X0 hby hml hret hnm hsf
  refine Go.entry (ef_jdk_52_method_4_code m d (Int32.ofNat i) x) ?_
  show Go _ _ _ _ (s₁.setTop (mkF m 0 #[r_ d, i_ (Int32.ofNat i), i_ x] []))
  have hL := VD.len
  refine gGetS X0 hby (hw _ (List.mem_of_getElem? (i := 135) rfl)) Via.refl U.ad d_jdk_52_method_4_code_0 (fun T1 X1 => ?_)
  refine br0 X1 hby d_jdk_52_method_4_code_3 (pc1 := 28) (by decide) (fun hc => ?_) (fun hc => absurd (neF hc) (by decide))
  refine blk X1 hby b14 (pc' := 32) (Ls' := #[r_ d, i_ ((Int32.ofNat i) <<< ((1 : Int32) &&& 31)), i_ x]) (st' := []) rfl ?_
  rw [shl1 (by omega)]
  show Go _ _ _ _ (T1.setTop (mkF m 32 #[r_ d, i_ (Int32.ofNat (2 * i)), i_ x] []))
  refine blk X1 hby b15 (pc' := 38) (Ls' := #[r_ d, i_ ((Int32.ofNat (2 * i)) + (1 : Int32)), i_ x]) (st' := [(.int x), (.int (Int32.ofNat (2 * i))), (.ref d)]) rfl ?_
  refine gGetS X1 hby (hw _ (List.mem_of_getElem? (i := 136) rfl)) Via.refl U.hi d_jdk_52_method_4_code_38 (fun T2 X2 => ?_)
  refine blk X2 hby b16 (pc' := 43) (Ls' := #[r_ d, i_ ((Int32.ofNat (2 * i)) + (1 : Int32)), i_ x]) (st' := [(.int (lo8 (x >>> ((0 : Int32) &&& 31)))), (.int (Int32.ofNat (2 * i))), (.ref d)]) rfl ?_
  refine gSt X2 hby VD (Or.inr (Or.inr ⟨rfl, rfl⟩)) d_jdk_52_method_4_code_43 (i := (2 * i)) rfl (by omega) (by rw [nar_lo8]; exact fits_nar_byte _) gd (hsf d (by simp)) (fun T3 h3 S3 X3 W3 V3 sS3 => ?_)
  rw [nar_lo8, shr0] at V3
  rw [succ32]
  show Go _ _ _ _ (T3.setTop (mkF m 44 #[r_ d, i_ (Int32.ofNat (2 * i + 1)), i_ x] []))
  refine blk X3 hby b17 (pc' := 47) (Ls' := #[r_ d, i_ (Int32.ofNat (2 * i + 1)), i_ x]) (st' := [(.int x), (.int (Int32.ofNat (2 * i + 1))), (.ref d)]) rfl ?_
  refine gGetS X3 hby (hw _ (List.mem_of_getElem? (i := 137) rfl)) Via.refl U.lo d_jdk_52_method_4_code_47 (fun T4 X4 => ?_)
  refine blk X4 hby b18 (pc' := 52) (Ls' := #[r_ d, i_ (Int32.ofNat (2 * i + 1)), i_ x]) (st' := [(.int (lo8 (x >>> ((8 : Int32) &&& 31)))), (.int (Int32.ofNat (2 * i + 1))), (.ref d)]) rfl ?_
  refine gSt X4 hby V3 (Or.inr (Or.inr ⟨rfl, rfl⟩)) d_jdk_52_method_4_code_52 (i := (2 * i + 1)) rfl (by rw [List.length_set]; omega) (by rw [nar_lo8]; exact fits_nar_byte _) gd (sS3 d (hsf d (by simp))) (fun T5 h5 S5 X5 W5 V5 sS5 => ?_)
  rw [nar_lo8] at V5
  exact retV' X5 hby hret d_jdk_52_method_4_code_53 (fun S' hS' => ⟨rfl, ((Keep.refl h0 [d]).wr W3 (Or.inl (by simp))).wr W5 (Or.inl (by simp)), V5, hS' _ (sS5 d (sS3 d (hsf d (by simp))))⟩)
theorem ef_jdk_52_method_5_code (m : MethodId) (x0 : Addr) (x1 : Int32) : entryFrame m #[(.ref x0), (.int x1)] 2 = mkF m 0 #[r_ x0, i_ x1] [] := by first | (simp [entryFrame, mkF, argsToLocals, Value.category]; done) | rfl
theorem d_jdk_52_method_5_code_0 : decode jdk_52_method_5_code 0 = .ok (.getstatic 44, 3) := by decide +kernel
theorem d_jdk_52_method_5_code_3 : decode jdk_52_method_5_code 3 = .ok (.ifCond .ne 25, 3) := by decide +kernel
theorem b19 : decs jdk_52_method_5_code 28 [.iload_n 1, .iconst 1, .ishl, .istore_n 1] = true := by decide +kernel
theorem b20 : decs jdk_52_method_5_code 32 [.aload_n 0, .iload_n 1, .iinc 1 1] = true := by decide +kernel
theorem d_jdk_52_method_5_code_37 : decode jdk_52_method_5_code 37 = .ok (.baload, 1) := by decide +kernel
theorem b21 : decs jdk_52_method_5_code 38 [.sipush 255, .iand] = true := by decide +kernel
theorem d_jdk_52_method_5_code_42 : decode jdk_52_method_5_code 42 = .ok (.getstatic 59, 3) := by decide +kernel
theorem b22 : decs jdk_52_method_5_code 45 [.ishl, .aload_n 0, .iload_n 1] = true := by decide +kernel
theorem d_jdk_52_method_5_code_48 : decode jdk_52_method_5_code 48 = .ok (.baload, 1) := by decide +kernel
theorem b23 : decs jdk_52_method_5_code 49 [.sipush 255, .iand] = true := by decide +kernel
theorem d_jdk_52_method_5_code_53 : decode jdk_52_method_5_code 53 = .ok (.getstatic 63, 3) := by decide +kernel
theorem b24 : decs jdk_52_method_5_code 56 [.ishl, .ior, .i2c] = true := by decide +kernel
theorem d_jdk_52_method_5_code_59 : decode jdk_52_method_5_code 59 = .ok (.ireturn, 1) := by decide +kernel
set_option maxRecDepth 65536 in
set_option maxHeartbeats 40000000 in
theorem ct_get {h0 : Heap} {d : Addr} {cs : List Int32} {i : Nat} {zc : Int32} (hw : ∀ d ∈ tables_1, d.before a0 Z = true) (hEL : EW Z a0 EL) (hO : Old Z Z.heap.size h0) (U : US Z zc) (VD : Ari Z h0 d .byte (u16 cs)) (hi : i < cs.length) (hR : ∀ c ∈ cs, ¬ c < 0 ∧ ¬ 65535 < c) :
    Ct true false Z EL l (⟨"java/lang/StringUTF16", "getChar", "([BI)C"⟩ : MethodName) jdk_52_method_5_code 2 (some .char) ({ frames := 0, cells := 0, slots := 0, locals := 0 } : Room) #[(.ref d), (.int (Int32.ofNat i))] h0 [] (QI h0 (cs.getD i 0)) := by
  refine ctOf (plainFor_of_name pn_java_lang_StringUTF16) hO hEL ?_
  intro p e s m below meth c s₁ S0 X0 hby hml hret hnm hsf
  refine Go.entry (ef_jdk_52_method_5_code m d (Int32.ofNat i)) ?_
  show Go _ _ _ _ (s₁.setTop (mkF m 0 #[r_ d, i_ (Int32.ofNat i)] []))
  have hL := VD.len
  rw [u16_length] at hL
  refine gGetS X0 hby (hw _ (List.mem_of_getElem? (i := 135) rfl)) Via.refl U.ad d_jdk_52_method_5_code_0 (fun T1 X1 => ?_)
  refine br0 X1 hby d_jdk_52_method_5_code_3 (pc1 := 28) (by decide) (fun hc => ?_) (fun hc => absurd (neF hc) (by decide))
  refine blk X1 hby b19 (pc' := 32) (Ls' := #[r_ d, i_ ((Int32.ofNat i) <<< ((1 : Int32) &&& 31))]) (st' := []) rfl ?_
  rw [shl1 (by omega)]
  show Go _ _ _ _ (T1.setTop (mkF m 32 #[r_ d, i_ (Int32.ofNat (2 * i))] []))
  refine blk X1 hby b20 (pc' := 37) (Ls' := #[r_ d, i_ ((Int32.ofNat (2 * i)) + (1 : Int32))]) (st' := [(.int (Int32.ofNat (2 * i))), (.ref d)]) rfl ?_
  refine gLd X1 hby VD (Or.inr (Or.inr ⟨rfl, rfl⟩)) d_jdk_52_method_5_code_37 (i := (2 * i)) rfl (by rw [u16_length]; omega) ?_
  rw [u16_lo hi, succ32]
  show Go _ _ _ _ (T1.setTop (mkF m 38 #[r_ d, i_ (Int32.ofNat (2 * i + 1))] [(.int (lo8 (cs.getD i 0)))]))
  refine blk X1 hby b21 (pc' := 42) (Ls' := #[r_ d, i_ (Int32.ofNat (2 * i + 1))]) (st' := [(.int ((lo8 (cs.getD i 0)) &&& (255 : Int32)))]) rfl ?_
  refine gGetS X1 hby (hw _ (List.mem_of_getElem? (i := 136) rfl)) Via.refl U.hi d_jdk_52_method_5_code_42 (fun T2 X2 => ?_)
  refine blk X2 hby b22 (pc' := 48) (Ls' := #[r_ d, i_ (Int32.ofNat (2 * i + 1))]) (st' := [(.int (Int32.ofNat (2 * i + 1))), (.ref d), (.int (((lo8 (cs.getD i 0)) &&& (255 : Int32)) <<< ((0 : Int32) &&& 31)))]) rfl ?_
  refine gLd X2 hby VD (Or.inr (Or.inr ⟨rfl, rfl⟩)) d_jdk_52_method_5_code_48 (i := (2 * i + 1)) rfl (by rw [u16_length]; omega) ?_
  rw [u16_hi hi]
  show Go _ _ _ _ (T2.setTop (mkF m 49 #[r_ d, i_ (Int32.ofNat (2 * i + 1))] [(.int (hi8 (cs.getD i 0))), (.int (((lo8 (cs.getD i 0)) &&& (255 : Int32)) <<< ((0 : Int32) &&& 31)))]))
  refine blk X2 hby b23 (pc' := 53) (Ls' := #[r_ d, i_ (Int32.ofNat (2 * i + 1))]) (st' := [(.int ((hi8 (cs.getD i 0)) &&& (255 : Int32))), (.int (((lo8 (cs.getD i 0)) &&& (255 : Int32)) <<< ((0 : Int32) &&& 31)))]) rfl ?_
  refine gGetS X2 hby (hw _ (List.mem_of_getElem? (i := 137) rfl)) Via.refl U.lo d_jdk_52_method_5_code_53 (fun T3 X3 => ?_)
  refine blk X3 hby b24 (pc' := 59) (Ls' := #[r_ d, i_ (Int32.ofNat (2 * i + 1))]) (st' := [(.int (chr16 ((((lo8 (cs.getD i 0)) &&& (255 : Int32)) <<< ((0 : Int32) &&& 31)) ||| (((hi8 (cs.getD i 0)) &&& (255 : Int32)) <<< ((8 : Int32) &&& 31)))))]) rfl ?_
  exact retI' X3 hby hret d_jdk_52_method_5_code_59 (XT.narrow_c _) (fun S' hS' => ⟨by rw [join8 _ (hR _ (getD_mem hi)).1 (hR _ (getD_mem hi)).2], rfl⟩)
theorem ef_jdk_52_method_14_code (m : MethodId) (x0 : Addr) (x1 : Int32) (x2 : Int32) : entryFrame m #[(.ref x0), (.int x1), (.int x2)] 5 = mkF m 0 #[r_ x0, i_ x1, i_ x2, u_, u_] [] := by first | (simp [entryFrame, mkF, argsToLocals, Value.category]; done) | rfl
theorem b25 : decs jdk_52_method_14_code 0 [.iload_n 2] = true := by decide +kernel
theorem d_jdk_52_method_14_code_1 : decode jdk_52_method_14_code 1 = .ok (.invokestatic 107, 3) := by decide +kernel
theorem pd__I__B : parseMethodDescriptor "(I)[B" = some ⟨[.int], (some (.array .byte))⟩ := by decide +kernel
theorem b26 : decs jdk_52_method_14_code 4 [.astore_n 3, .iconst 0, .istore 4] = true := by decide +kernel
theorem b27 : decs jdk_52_method_14_code 8 [.iload 4, .iload_n 2] = true := by decide +kernel
theorem d_jdk_52_method_14_code_11 : decode jdk_52_method_14_code 11 = .ok (.if_icmp .ge 21, 3) := by decide +kernel
theorem b28 : decs jdk_52_method_14_code 32 [.aload_n 3] = true := by decide +kernel
theorem d_jdk_52_method_14_code_33 : decode jdk_52_method_14_code 33 = .ok (.areturn, 1) := by decide +kernel
theorem b29 : decs jdk_52_method_14_code 8 [.iload 4, .iload_n 2] = true := by decide +kernel
theorem b30 : decs jdk_52_method_14_code 14 [.aload_n 3, .iload 4, .aload_n 0, .iload_n 1] = true := by decide +kernel
theorem d_jdk_52_method_14_code_19 : decode jdk_52_method_14_code 19 = .ok (.caload, 1) := by decide +kernel
theorem d_jdk_52_method_14_code_20 : decode jdk_52_method_14_code 20 = .ok (.invokestatic 111, 3) := by decide +kernel
theorem pd___BII_V : parseMethodDescriptor "([BII)V" = some ⟨[(.array .byte), .int, .int], none⟩ := by decide +kernel
theorem b31 : decs jdk_52_method_14_code 23 [.iinc 1 1, .iinc 4 1, .goto (-21)] = true := by decide +kernel
def QTB (Z : State) (h0 : Heap) (cs : List Int32) (v : Option Value) (h : Heap) (S : Addr → Prop) : Prop := v = some (.ref h0.size) ∧ Keep h0 h [] ∧ Ari Z h h0.size .byte (u16 cs) ∧ S h0.size
set_option maxRecDepth 65536 in
set_option maxHeartbeats 40000000 in
theorem ct_toB {h0 : Heap} {a : Addr} {cs : List Int32} {zc : Int32} (hw : ∀ d ∈ tables_1, d.before a0 Z = true) (hEL : EW Z a0 EL) (hO : Old Z Z.heap.size h0) (U : US Z zc) (VA : Ari Z h0 a .char cs) (hcap : cs.length ≤ 4) :
    Ct true false Z EL l (⟨"java/lang/StringUTF16", "toBytes", "([CII)[B"⟩ : MethodName) jdk_52_method_14_code 5 (some (.array .byte)) ({ frames := 2, cells := 1, slots := 8, locals := 30 } : Room) #[(.ref a), (.int 0), (.int (Int32.ofNat cs.length))] h0 [] (QTB Z h0 cs) := by
  refine ctOf (plainFor_of_name pn_java_lang_StringUTF16) hO hEL ?_
  intro p e s m below meth c s₁ S0 X0 hby hml hret hnm hsf
  refine Go.entry (ef_jdk_52_method_14_code m a (0 : Int32) (Int32.ofNat cs.length)) ?_
  show Go _ _ _ _ (s₁.setTop (mkF m 0 #[r_ a, i_ 0, i_ (Int32.ofNat cs.length), u_, u_] []))
  refine blk X0 hby b25 (pc' := 1) (Ls' := #[r_ a, i_ 0, i_ (Int32.ofNat cs.length), u_, u_]) (st' := [(.int (Int32.ofNat cs.length))]) rfl ?_
  refine gStatic X0 hby (argsL := [(.int (Int32.ofNat cs.length))]) (st := []) (ct_nbf hw hEL X0.old hcap) (hw _ (List.mem_of_getElem? (i := 125) rfl)) (hw _ (List.mem_of_getElem? (i := 126) rfl)) (hw _ (List.mem_of_getElem? (i := 62) rfl)) (hw _ (List.mem_of_getElem? (i := 127) rfl)) pd__I__B rfl d_jdk_52_method_14_code_1 rfl (by rw [hml]; rfl) all0 (by decide) (Nat.le_of_ble_eq_true rfl) (by decide) (by decide) (fun v1 T1 h1 S1 X1 q1 sS1 sz1 => ?_)
  obtain ⟨rfl, E, V, sn⟩ := q1
  show Go _ _ _ _ (T1.setTop (mkF m 4 #[r_ a, i_ 0, i_ (Int32.ofNat cs.length), u_, u_] [(.ref (h0.size))]))
  refine blk X1 hby b26 (pc' := 8) (Ls' := #[r_ a, i_ 0, i_ (Int32.ofNat cs.length), r_ (h0.size), i_ 0]) (st' := []) rfl ?_
  have hL := VA.len
  have hlt : ¬ h0.size ≤ a := Nat.not_le.mpr VA.lt
  have loop : ∀ (n i : Nat) (T : State) (h : Heap) (S : Addr → Prop) (ys : List Int32), n + i = cs.length → Sd true false Z a0 EL p l e ({ frames := 2, cells := 1, slots := 8, locals := 30 } : Room) s m #[(.ref a), (.int 0), (.int (Int32.ofNat cs.length))] below meth c "java/lang/StringUTF16" T h S (0 + 1) (0 + 8) → Ari Z h a .char cs → Ari Z h h0.size .byte ys → ys.length = 2 * cs.length → Keep h1 h [h0.size] → S h0.size → (∀ j, j < i → ys.getD (2 * j) 0 = lo8 (cs.getD j 0) ∧ ys.getD (2 * j + 1) 0 = hi8 (cs.getD j 0)) → Go p e below (Pst true Z EL ({ frames := 2, cells := 1, slots := 8, locals := 30 } : Room).cells ({ frames := 2, cells := 1, slots := 8, locals := 30 } : Room).slots (QTB Z h0 cs) s) (T.setTop (mkF m 8 #[.val (.ref a), .val (.int (Int32.ofNat i)), .val (.int (Int32.ofNat cs.length)), .val (.ref h0.size), .val (.int (Int32.ofNat i))] [])) := by
    intro n
    induction n with
    | zero =>
      intro i T h S ys hn X VA VD hl K hs hy
      have hi31 : i < 2147483648 := by omega
      refine blk X hby b27 (pc' := 11) (Ls' := #[r_ a, i_ (Int32.ofNat i), i_ (Int32.ofNat cs.length), r_ (h0.size), i_ (Int32.ofNat i)]) (st' := [(.int (Int32.ofNat cs.length)), (.int (Int32.ofNat i))]) rfl ?_
      refine brI X hby d_jdk_52_method_14_code_11 (pc1 := 32) (by decide) (fun hc => ?_) (fun hc => absurd (geF hc) (by rw [lt32 hi31 hL]; omega))
      refine blk X hby b28 (pc' := 33) (Ls' := #[r_ a, i_ (Int32.ofNat i), i_ (Int32.ofNat cs.length), r_ (h0.size), i_ (Int32.ofNat i)]) (st' := [(.ref (h0.size))]) rfl ?_
      have e := u16_of hl (fun j hj => hy j (by omega))
      subst e
      exact retA' X hby hret d_jdk_52_method_14_code_33 rfl (fun S' hS' => ⟨rfl, ((Keep.refl h0 []).ext E).trans K (fun x hx => Or.inr (by cases List.mem_singleton.mp hx; exact Nat.le_refl _)), VD, hS' _ hs⟩)
    | succ n ih =>
      intro i T h S ys hn X VA VD hl K hs hy
      have hi31 : i < 2147483648 := by omega
      refine blk X hby b29 (pc' := 11) (Ls' := #[r_ a, i_ (Int32.ofNat i), i_ (Int32.ofNat cs.length), r_ (h0.size), i_ (Int32.ofNat i)]) (st' := [(.int (Int32.ofNat cs.length)), (.int (Int32.ofNat i))]) rfl ?_
      have hil : i < cs.length := by omega
      refine brI X hby d_jdk_52_method_14_code_11 (pc1 := 32) (by decide) (fun hc => absurd (geT hc) (fun q => q (by rw [lt32 hi31 hL]; omega))) (fun hc => ?_)
      refine blk X hby b30 (pc' := 19) (Ls' := #[r_ a, i_ (Int32.ofNat i), i_ (Int32.ofNat cs.length), r_ (h0.size), i_ (Int32.ofNat i)]) (st' := [(.int (Int32.ofNat i)), (.ref a), (.int (Int32.ofNat i)), (.ref (h0.size))]) rfl ?_
      refine gLd X hby VA (Or.inr (Or.inl ⟨rfl, rfl⟩)) d_jdk_52_method_14_code_19 (i := i) rfl hil ?_
      refine gStatic X hby (argsL := [(.ref (h0.size)), (.int (Int32.ofNat i)), (.int (cs.getD i 0))]) (st := []) (ct_put hw hEL X.old U VD (by omega) hO.2.1) (hw _ (List.mem_of_getElem? (i := 132) rfl)) (hw _ (List.mem_of_getElem? (i := 133) rfl)) (hw _ (List.mem_of_getElem? (i := 62) rfl)) (hw _ (List.mem_of_getElem? (i := 134) rfl)) pd___BII_V rfl d_jdk_52_method_14_code_20 rfl (by rw [hml]; rfl) (allS hs all0) (by decide) (Nat.le_of_ble_eq_true rfl) (by decide) (by decide) (fun v1 T1 h1 S1 X1 q1 sS1 sz1 => ?_)
      obtain ⟨rfl, K2, V2, s2⟩ := q1
      show Go _ _ _ _ (T1.setTop (mkF m 23 #[r_ a, i_ (Int32.ofNat i), i_ (Int32.ofNat cs.length), r_ (h0.size), i_ (Int32.ofNat i)] []))
      refine blk X1 hby b31 (pc' := 8) (Ls' := #[r_ a, i_ ((Int32.ofNat i) + (1 : Int32)), i_ (Int32.ofNat cs.length), r_ (h0.size), i_ ((Int32.ofNat i) + (1 : Int32))]) (st' := []) rfl ?_
      rw [succ32]
      refine ih (i + 1) T1 h1 S1 _ (by omega) X1 (VA.keep K2 (by simp; exact fun z => hlt (z ▸ Nat.le_refl _))) V2 (by rw [List.length_set, List.length_set]; exact hl) (K.trans K2 (fun x hx => Or.inl hx)) s2 (fun j hj => ?_)
      by_cases q : j = i
      · subst q; exact ⟨by rw [getD_set_ne (by omega), getD_set_self (by omega)], by rw [getD_set_self (by rw [List.length_set]; omega)]⟩
      · rw [getD_set_ne (by omega), getD_set_ne (by omega), getD_set_ne (by omega), getD_set_ne (by omega)]; exact hy j (by omega)
  exact loop cs.length 0 T1 h1 S1 _ (by omega) X1 (VA.ext E) V (by simp) (Keep.refl _ _) sn (fun j hj => absurd hj (Nat.not_lt_zero _))
theorem ef_jdk_52_method_16_code (m : MethodId) (x0 : Addr) (x1 : Int32) (x2 : Int32) : entryFrame m #[(.ref x0), (.int x1), (.int x2)] 6 = mkF m 0 #[r_ x0, i_ x1, i_ x2, u_, u_, u_] [] := by first | (simp [entryFrame, mkF, argsToLocals, Value.category]; done) | rfl
theorem b32 : decs jdk_52_method_16_code 0 [.iload_n 2] = true := by decide +kernel
theorem d_jdk_52_method_16_code_1 : decode jdk_52_method_16_code 1 = .ok (.newarray .byte, 2) := by decide +kernel
theorem b33 : decs jdk_52_method_16_code 3 [.astore_n 3, .aload_n 0, .iload_n 1, .aload_n 3, .iconst 0, .iload_n 2] = true := by decide +kernel
theorem d_jdk_52_method_16_code_9 : decode jdk_52_method_16_code 9 = .ok (.invokestatic 115, 3) := by decide +kernel
theorem pd___CI_BII_I : parseMethodDescriptor "([CI[BII)I" = some ⟨[(.array .char), .int, (.array .byte), .int, .int], (some .int)⟩ := by decide +kernel
theorem b34 : decs jdk_52_method_16_code 12 [.istore 4, .iload 4, .iload_n 2] = true := by decide +kernel
theorem d_jdk_52_method_16_code_17 : decode jdk_52_method_16_code 17 = .ok (.if_icmp .eq 40, 3) := by decide +kernel
theorem b35 : decs jdk_52_method_16_code 57 [.aload_n 3] = true := by decide +kernel
theorem d_jdk_52_method_16_code_58 : decode jdk_52_method_16_code 58 = .ok (.areturn, 1) := by decide +kernel
theorem b36 : decs jdk_52_method_16_code 20 [.aload_n 0, .iload_n 1, .iload_n 2] = true := by decide +kernel
theorem d_jdk_52_method_16_code_23 : decode jdk_52_method_16_code 23 = .ok (.invokestatic 119, 3) := by decide +kernel
theorem pd___CII__B : parseMethodDescriptor "([CII)[B" = some ⟨[(.array .char), .int, .int], (some (.array .byte))⟩ := by decide +kernel
theorem b37 : decs jdk_52_method_16_code 26 [.astore 5, .aload 5, .iload 4] = true := by decide +kernel
theorem d_jdk_52_method_16_code_32 : decode jdk_52_method_16_code 32 = .ok (.invokestatic 71, 3) := by decide +kernel
theorem pd___BI_C : parseMethodDescriptor "([BI)C" = some ⟨[(.array .byte), .int], (some .char)⟩ := by decide +kernel
theorem b38 : decs jdk_52_method_16_code 35 [.sipush 255] = true := by decide +kernel
theorem d_jdk_52_method_16_code_38 : decode jdk_52_method_16_code 38 = .ok (.if_icmp .gt 16, 3) := by decide +kernel
theorem b39 : decs jdk_52_method_16_code 54 [.aload 5] = true := by decide +kernel
theorem d_jdk_52_method_16_code_56 : decode jdk_52_method_16_code 56 = .ok (.areturn, 1) := by decide +kernel
def QC3 (Z : State) (h0 : Heap) (cs : List Int32) (v : Option Value) (h : Heap) (S : Addr → Prop) : Prop := ∃ b, v = some (.ref b) ∧ h0.size ≤ b ∧ Keep h0 h [] ∧ S b ∧ ((Ari Z h b .byte (cs.map lo8) ∧ ∀ c ∈ cs, ¬ 255 < c) ∨ (Ari Z h b .byte (u16 cs) ∧ ∃ c ∈ cs, 255 < c))
set_option maxRecDepth 65536 in
set_option maxHeartbeats 40000000 in
theorem ct_cmp3 {h0 : Heap} {a : Addr} {cs : List Int32} {zc : Int32} (hw : ∀ d ∈ tables_1, d.before a0 Z = true) (hEL : EW Z a0 EL) (hO : Old Z Z.heap.size h0) (U : US Z zc) (VA : Ari Z h0 a .char cs) (hcap : cs.length ≤ 4) :
    Ct true false Z EL l (⟨"java/lang/StringUTF16", "compress", "([CII)[B"⟩ : MethodName) jdk_52_method_16_code 6 (some (.array .byte)) ({ frames := 3, cells := 2, slots := 12, locals := 48 } : Room) #[(.ref a), (.int 0), (.int (Int32.ofNat cs.length))] h0 [] (QC3 Z h0 cs) := by
  refine ctOf (plainFor_of_name pn_java_lang_StringUTF16) hO hEL ?_
  intro p e s m below meth c s₁ S0 X0 hby hml hret hnm hsf
  refine Go.entry (ef_jdk_52_method_16_code m a (0 : Int32) (Int32.ofNat cs.length)) ?_
  show Go _ _ _ _ (s₁.setTop (mkF m 0 #[r_ a, i_ 0, i_ (Int32.ofNat cs.length), u_, u_, u_] []))
  have hR := VA.chars
  have hL := VA.len
  refine blk X0 hby b32 (pc' := 1) (Ls' := #[r_ a, i_ 0, i_ (Int32.ofNat cs.length), u_, u_, u_]) (st' := [(.int (Int32.ofNat cs.length))]) rfl ?_
  refine gNewA X0 hby (aty := .byte) (hw _ (List.mem_of_getElem? (i := 23) rfl)) d_jdk_52_method_16_code_1 rfl (N := cs.length) (cap := 4) rfl hcap (by decide) (by decide) (by decide) (fun T1 h1 S1 X1 E1 V1 sS1 sn1 => ?_)
  refine blk X1 hby b33 (pc' := 9) (Ls' := #[r_ a, i_ 0, i_ (Int32.ofNat cs.length), r_ (h0.size), u_, u_]) (st' := [(.int (Int32.ofNat cs.length)), (.int 0), (.ref (h0.size)), (.int 0), (.ref a)]) rfl ?_
  refine gStatic X1 hby (argsL := [(.ref a), (.int 0), (.ref (h0.size)), (.int 0), (.int (Int32.ofNat cs.length))]) (st := []) (ct_cmp5 hw hEL X1.old (VA.ext E1) V1 (by simp) (Nat.ne_of_lt VA.lt) hO.2.1) (hw _ (List.mem_of_getElem? (i := 64) rfl)) (hw _ (List.mem_of_getElem? (i := 65) rfl)) (hw _ (List.mem_of_getElem? (i := 62) rfl)) (hw _ (List.mem_of_getElem? (i := 66) rfl)) pd___CI_BII_I rfl d_jdk_52_method_16_code_9 rfl (by rw [hml]; rfl) (allS sn1 all0) (by decide) (Nat.le_of_ble_eq_true rfl) (by decide) (by decide) (fun v2 T2 h2 S2 X2 q2 sS2 sz2 => ?_)
  obtain ⟨i, ys, rfl, q1, q2, q3, q4, q5, q6⟩ := q2
  have K0 : Keep h0 h2 [] := ((Keep.refl h0 []).ext E1).trans q2 (fun x hx => Or.inr (by cases List.mem_singleton.mp hx; exact Nat.le_refl _))
  show Go _ _ _ _ (T2.setTop (mkF m 12 #[r_ a, i_ 0, i_ (Int32.ofNat cs.length), r_ (h0.size), u_, u_] [(.int (Int32.ofNat i))]))
  refine blk X2 hby b34 (pc' := 17) (Ls' := #[r_ a, i_ 0, i_ (Int32.ofNat cs.length), r_ (h0.size), i_ (Int32.ofNat i), u_]) (st' := [(.int (Int32.ofNat cs.length)), (.int (Int32.ofNat i))]) rfl ?_
  refine brI X2 hby d_jdk_52_method_16_code_17 (pc1 := 57) (by decide) (fun hc => ?_) (fun hc => ?_)
  · replace hc := eqT hc
    obtain rfl := (eq32 (by omega) hL).mp hc
    have hys : ys = cs.map lo8 := list_of_getD (by rw [q4, List.length_map]) (fun j hj => by rw [getD_map (by omega)]; exact (q5 j (by omega)).2)
    subst hys
    show Go _ _ _ _ (T2.setTop (mkF m 57 #[r_ a, i_ 0, i_ (Int32.ofNat cs.length), r_ (h0.size), i_ (Int32.ofNat cs.length), u_] []))
    refine blk X2 hby b35 (pc' := 58) (Ls' := #[r_ a, i_ 0, i_ (Int32.ofNat cs.length), r_ (h0.size), i_ (Int32.ofNat cs.length), u_]) (st' := [(.ref (h0.size))]) rfl ?_
    exact retA' X2 hby hret d_jdk_52_method_16_code_58 rfl (fun S' hS' => ⟨_, rfl, Nat.le_refl _, K0, hS' _ (sS2 _ V1.lt sn1), Or.inl ⟨q3, fun c hc => by obtain ⟨j, hj, e⟩ := List.mem_iff_getElem.mp hc; have := (q5 j (by omega)).1; rwa [show cs.getD j 0 = c by simp [List.getD_eq_getElem?_getD, hj, e]] at this⟩⟩)
  · replace hc := eqF hc
    have hil : i < cs.length := Nat.lt_of_le_of_ne q1 (fun z => hc (by rw [z]))
    refine blk X2 hby b36 (pc' := 23) (Ls' := #[r_ a, i_ 0, i_ (Int32.ofNat cs.length), r_ (h0.size), i_ (Int32.ofNat i), u_]) (st' := [(.int (Int32.ofNat cs.length)), (.int 0), (.ref a)]) rfl ?_
    refine gStatic X2 hby (argsL := [(.ref a), (.int 0), (.int (Int32.ofNat cs.length))]) (st := []) (ct_toB hw hEL X2.old U (VA.keep K0 nin0) hcap) (hw _ (List.mem_of_getElem? (i := 122) rfl)) (hw _ (List.mem_of_getElem? (i := 123) rfl)) (hw _ (List.mem_of_getElem? (i := 62) rfl)) (hw _ (List.mem_of_getElem? (i := 124) rfl)) pd___CII__B rfl d_jdk_52_method_16_code_23 rfl (by rw [hml]; rfl) all0 (by decide) (Nat.le_of_ble_eq_true rfl) (by decide) (by decide) (fun v3 T3 h3 S3 X3 q3 sS3 sz3 => ?_)
    obtain ⟨rfl, r1, r2, r3⟩ := q3
    show Go _ _ _ _ (T3.setTop (mkF m 26 #[r_ a, i_ 0, i_ (Int32.ofNat cs.length), r_ (h0.size), i_ (Int32.ofNat i), u_] [(.ref (h2.size))]))
    refine blk X3 hby b37 (pc' := 32) (Ls' := #[r_ a, i_ 0, i_ (Int32.ofNat cs.length), r_ (h0.size), i_ (Int32.ofNat i), r_ (h2.size)]) (st' := [(.int (Int32.ofNat i)), (.ref (h2.size))]) rfl ?_
    refine gStatic X3 hby (argsL := [(.ref (h2.size)), (.int (Int32.ofNat i))]) (st := []) (ct_get hw hEL X3.old U r2 hil hR) (hw _ (List.mem_of_getElem? (i := 138) rfl)) (hw _ (List.mem_of_getElem? (i := 139) rfl)) (hw _ (List.mem_of_getElem? (i := 62) rfl)) (hw _ (List.mem_of_getElem? (i := 140) rfl)) pd___BI_C rfl d_jdk_52_method_16_code_32 rfl (by rw [hml]; rfl) all0 (by decide) (Nat.le_of_ble_eq_true rfl) (by decide) (by decide) (fun v4 T4 h4 S4 X4 q4 sS4 sz4 => ?_)
    obtain ⟨rfl, rfl⟩ := q4
    show Go _ _ _ _ (T4.setTop (mkF m 35 #[r_ a, i_ 0, i_ (Int32.ofNat cs.length), r_ (h0.size), i_ (Int32.ofNat i), r_ (h2.size)] [(.int (cs.getD i 0))]))
    refine blk X4 hby b38 (pc' := 38) (Ls' := #[r_ a, i_ 0, i_ (Int32.ofNat cs.length), r_ (h0.size), i_ (Int32.ofNat i), r_ (h2.size)]) (st' := [(.int 255), (.int (cs.getD i 0))]) rfl ?_
    refine brI X4 hby d_jdk_52_method_16_code_38 (pc1 := 54) (by decide) (fun hd => ?_) (fun hd => absurd (gtF hd) (fun q => q (q6 hil)))
    refine blk X4 hby b39 (pc' := 56) (Ls' := #[r_ a, i_ 0, i_ (Int32.ofNat cs.length), r_ (h0.size), i_ (Int32.ofNat i), r_ (h2.size)]) (st' := [(.ref (h2.size))]) rfl ?_
    exact retA' X4 hby hret d_jdk_52_method_16_code_56 rfl (fun S' hS' => ⟨_, rfl, K0.1, K0.trans r1 (fun x hx => nomatch hx), hS' _ (sS4 _ r2.lt r3), Or.inr ⟨r2, _, getD_mem hil, q6 hil⟩⟩)
theorem ef_jdk_52_method_15_code (m : MethodId) (x0 : Addr) (x1 : Int32) : entryFrame m #[(.ref x0), (.int x1)] 2 = mkF m 0 #[r_ x0, i_ x1] [] := by first | (simp [entryFrame, mkF, argsToLocals, Value.category]; done) | rfl
theorem b40 : decs jdk_52_method_15_code 0 [.iload_n 1, .aload_n 0] = true := by decide +kernel
theorem d_jdk_52_method_15_code_2 : decode jdk_52_method_15_code 2 = .ok (.arraylength, 1) := by decide +kernel
theorem b41 : decs jdk_52_method_15_code 3 [.isub, .bipush 31, .iushr, .i2b] = true := by decide +kernel
theorem d_jdk_52_method_15_code_8 : decode jdk_52_method_15_code 8 = .ok (.ireturn, 1) := by decide +kernel
def QCL (h0 : Heap) (ys : List Int32) (n : Int32) (v : Option Value) (h : Heap) (S : Addr → Prop) : Prop := v = some (.int (lo8 (XT.ushr (n - Int32.ofNat ys.length) (31 : Int32)))) ∧ h0 = h
set_option maxRecDepth 65536 in
set_option maxHeartbeats 40000000 in
theorem ct_cfl {h0 : Heap} {d : Addr} {ys : List Int32} {n : Int32} (hw : ∀ d ∈ tables_1, d.before a0 Z = true) (hEL : EW Z a0 EL) (hO : Old Z Z.heap.size h0) (VD : Ari Z h0 d .byte ys) :
    Ct true false Z EL l (⟨"java/lang/StringUTF16", "coderFromArrayLen", "([BI)B"⟩ : MethodName) jdk_52_method_15_code 2 (some .byte) ({ frames := 0, cells := 0, slots := 0, locals := 0 } : Room) #[(.ref d), (.int n)] h0 [] (QCL h0 ys n) := by
  refine ctOf (plainFor_of_name pn_java_lang_StringUTF16) hO hEL ?_
  intro p e s m below meth c s₁ S0 X0 hby hml hret hnm hsf
  refine Go.entry (ef_jdk_52_method_15_code m d n) ?_
  show Go _ _ _ _ (s₁.setTop (mkF m 0 #[r_ d, i_ n] []))
  refine blk X0 hby b40 (pc' := 2) (Ls' := #[r_ d, i_ n]) (st' := [(.ref d), (.int n)]) rfl ?_
  refine gLen X0 hby VD d_jdk_52_method_15_code_2 ?_
  refine blk X0 hby b41 (pc' := 8) (Ls' := #[r_ d, i_ n]) (st' := [(.int (lo8 (XT.ushr (n - (Int32.ofNat ys.length)) (31 : Int32))))]) rfl ?_
  exact retI' X0 hby hret d_jdk_52_method_15_code_8 (XT.narrow_b _) (fun S' hS' => ⟨rfl, rfl⟩)
theorem pn_java_lang_String : plainName "java/lang/String" = true := by first | (simp [plainName, overriddenIn]; done) | decide +kernel
theorem ef_jdk_42_method_149_code (m : MethodId) (x0 : Addr) (x1 : Addr) (x2 : Int32) (x3 : Int32) : entryFrame m #[(.ref x0), (.ref x1), (.int x2), (.int x3), .null] 6 = mkF m 0 #[r_ x0, r_ x1, i_ x2, i_ x3, .val .null, u_] [] := by first | (simp [entryFrame, mkF, argsToLocals, Value.category]; done) | rfl
theorem b42 : decs jdk_42_method_149_code 0 [.aload_n 0] = true := by decide +kernel
theorem d_jdk_42_method_149_code_1 : decode jdk_42_method_149_code 1 = .ok (.invokespecial 1, 3) := by decide +kernel
theorem b43 : decs jdk_42_method_149_code 4 [.iload_n 3] = true := by decide +kernel
theorem d_jdk_42_method_149_code_5 : decode jdk_42_method_149_code 5 = .ok (.ifCond .ne 22, 3) := by decide +kernel
theorem d_jdk_42_method_149_code_27 : decode jdk_42_method_149_code 27 = .ok (.getstatic 38, 3) := by decide +kernel
theorem d_jdk_42_method_149_code_30 : decode jdk_42_method_149_code 30 = .ok (.ifCond .eq 28, 3) := by decide +kernel
theorem b44 : decs jdk_42_method_149_code 33 [.aload_n 1, .iload_n 2, .iload_n 3] = true := by decide +kernel
theorem d_jdk_42_method_149_code_36 : decode jdk_42_method_149_code 36 = .ok (.invokestatic 177, 3) := by decide +kernel
theorem b45 : decs jdk_42_method_149_code 39 [.astore 5, .aload_n 0, .aload 5, .iload_n 3] = true := by decide +kernel
theorem d_jdk_42_method_149_code_45 : decode jdk_42_method_149_code 45 = .ok (.invokestatic 47, 3) := by decide +kernel
theorem pd___BI_B : parseMethodDescriptor "([BI)B" = some ⟨[(.array .byte), .int], (some .byte)⟩ := by decide +kernel
theorem d_jdk_42_method_149_code_48 : decode jdk_42_method_149_code 48 = .ok (.putfield 15, 3) := by decide +kernel
theorem b46 : decs jdk_42_method_149_code 51 [.aload_n 0, .aload 5] = true := by decide +kernel
theorem d_jdk_42_method_149_code_54 : decode jdk_42_method_149_code 54 = .ok (.putfield 9, 3) := by decide +kernel
theorem d_jdk_42_method_149_code_57 : decode jdk_42_method_149_code 57 = .ok (.return_, 1) := by decide +kernel
theorem b47 : decs jdk_42_method_149_code 51 [.aload_n 0, .aload 5] = true := by decide +kernel
theorem b48 : decs jdk_42_method_149_code 8 [.aload_n 0] = true := by decide +kernel
theorem d_jdk_42_method_149_code_9 : decode jdk_42_method_149_code 9 = .ok (.ldc 7, 2) := by decide +kernel
theorem d_jdk_42_method_149_code_11 : decode jdk_42_method_149_code 11 = .ok (.getfield 9, 3) := by decide +kernel
theorem d_jdk_42_method_149_code_14 : decode jdk_42_method_149_code 14 = .ok (.putfield 9, 3) := by decide +kernel
theorem b49 : decs jdk_42_method_149_code 17 [.aload_n 0] = true := by decide +kernel
theorem d_jdk_42_method_149_code_18 : decode jdk_42_method_149_code 18 = .ok (.ldc 7, 2) := by decide +kernel
theorem d_jdk_42_method_149_code_20 : decode jdk_42_method_149_code 20 = .ok (.getfield 15, 3) := by decide +kernel
theorem d_jdk_42_method_149_code_23 : decode jdk_42_method_149_code 23 = .ok (.putfield 15, 3) := by decide +kernel
theorem d_jdk_42_method_149_code_26 : decode jdk_42_method_149_code 26 = .ok (.return_, 1) := by decide +kernel
def QS (Z : State) (h0 : Heap) (x : Addr) (cs : List Int32) (v : Option Value) (h : Heap) (S : Addr → Prop) : Prop := v = none ∧ Keep h0 h [x] ∧ ∃ b, Str Z h x b cs ∧ (h0.size ≤ b ∨ cs = [])
set_option maxRecDepth 65536 in
set_option maxHeartbeats 40000000 in
theorem ct_init4 {h0 : Heap} {x a : Addr} {cs : List Int32} {v0 c0 : Value} {zc : Int32} (hw : ∀ d ∈ tables_1, d.before a0 Z = true) (hEL : EW Z a0 EL) (hO : Old Z Z.heap.size h0) (U : US Z zc)(E : Exa Z h0 x "java/lang/String") (FV : Fld Z h0 x "java/lang/String" "value" "[B" v0) (FC : Fld Z h0 x "java/lang/String" "coder" "B" c0) (VA : Ari Z h0 a .char cs) (gx : Z.heap.size ≤ x) (hcap : cs.length ≤ 4) :
    Ct true false Z EL l (⟨"java/lang/String", "<init>", "([CIILjava/lang/Void;)V"⟩ : MethodName) jdk_42_method_149_code 6 none ({ frames := 4, cells := 4, slots := 12, locals := 66 } : Room) #[(.ref x), (.ref a), (.int 0), (.int (Int32.ofNat cs.length)), .null] h0 [x] (QS Z h0 x cs) := by
  refine ctOf (plainFor_of_name pn_java_lang_String) hO hEL ?_
  intro p e s m below meth c s₁ S0 X0 hby hml hret hnm hsf
  refine Go.entry (ef_jdk_42_method_149_code m x a (0 : Int32) (Int32.ofNat cs.length)) ?_
  show Go _ _ _ _ (s₁.setTop (mkF m 0 #[r_ x, r_ a, i_ 0, i_ (Int32.ofNat cs.length), .val .null, u_] []))
  have nvc : Jvm.RoadKit.slotOf Z "java/lang/String" "value" "[B" ≠ Jvm.RoadKit.slotOf Z "java/lang/String" "coder" "B" := slot_ne (t := .array .byte) (t' := .byte) (Or.inr (hw _ (List.mem_of_getElem? (i := 24) rfl))) (Or.inr (hw _ (List.mem_of_getElem? (i := 25) rfl))) (by decide) (by decide) (by decide)
  refine blk X0 hby b42 (pc' := 1) (Ls' := #[r_ x, r_ a, i_ 0, i_ (Int32.ofNat cs.length), .val .null, u_]) (st' := [(.ref x)]) rfl ?_
  refine gInitO X0 hby (hw _ (List.mem_of_getElem? (i := 19) rfl)) (hw _ (List.mem_of_getElem? (i := 20) rfl)) (hw _ (List.mem_of_getElem? (i := 21) rfl)) (by rw [hml]; rfl) d_jdk_42_method_149_code_1 (by decide) (Nat.le_of_ble_eq_true rfl) (fun T1 X1 => ?_)
  refine blk X1 hby b43 (pc' := 5) (Ls' := #[r_ x, r_ a, i_ 0, i_ (Int32.ofNat cs.length), .val .null, u_]) (st' := [(.int (Int32.ofNat cs.length))]) rfl ?_
  refine br0 X1 hby d_jdk_42_method_149_code_5 (pc1 := 27) (by decide) (fun hc => ?_) (fun hc => ?_)
  · replace hc := neT hc
    have hL := VA.len
    have hpos : 0 < cs.length := Nat.pos_of_ne_zero (fun z => hc (by rw [z]; rfl))
    refine gGetS X1 hby (hw _ (List.mem_of_getElem? (i := 44) rfl)) Via.refl U.cs d_jdk_42_method_149_code_27 (fun T2 X2 => ?_)
    refine br0 X2 hby d_jdk_42_method_149_code_30 (pc1 := 58) (by decide) (fun hz => absurd (eqT hz) (U.nz)) (fun hz => ?_)
    refine blk X2 hby b44 (pc' := 36) (Ls' := #[r_ x, r_ a, i_ 0, i_ (Int32.ofNat cs.length), .val .null, u_]) (st' := [(.int (Int32.ofNat cs.length)), (.int 0), (.ref a)]) rfl ?_
    refine gStatic X2 hby (argsL := [(.ref a), (.int 0), (.int (Int32.ofNat cs.length))]) (st := []) (ct_cmp3 hw hEL X2.old U VA hcap) (hw _ (List.mem_of_getElem? (i := 60) rfl)) (hw _ (List.mem_of_getElem? (i := 61) rfl)) (hw _ (List.mem_of_getElem? (i := 62) rfl)) (hw _ (List.mem_of_getElem? (i := 63) rfl)) pd___CII__B rfl d_jdk_42_method_149_code_36 rfl (by rw [hml]; rfl) all0 (by decide) (Nat.le_of_ble_eq_true rfl) (by decide) (by decide) (fun v3 T3 h3 S3 X3 q3 sS3 sz3 => ?_)
    obtain ⟨b, rfl, q0, q1, q3, q4⟩ := q3
    show Go _ _ _ _ (T3.setTop (mkF m 39 #[r_ x, r_ a, i_ 0, i_ (Int32.ofNat cs.length), .val .null, u_] [(.ref b)]))
    refine blk X3 hby b45 (pc' := 45) (Ls' := #[r_ x, r_ a, i_ 0, i_ (Int32.ofNat cs.length), .val .null, r_ b]) (st' := [(.int (Int32.ofNat cs.length)), (.ref b), (.ref x)]) rfl ?_
    have nb : b ≠ x := fun z => absurd E.lt (Nat.not_lt.mpr (z ▸ q0))
    rcases q4 with ⟨q2, hlat⟩ | ⟨q2, hlat⟩
    · skip
      show Go _ _ _ _ (T3.setTop (mkF m 45 #[r_ x, r_ a, i_ 0, i_ (Int32.ofNat cs.length), .val .null, r_ b] [(.int (Int32.ofNat cs.length)), (.ref b), (.ref x)]))
      refine gStatic X3 hby (argsL := [(.ref b), (.int (Int32.ofNat cs.length))]) (st := [(.ref x)]) (ct_cfl hw hEL X3.old q2) (hw _ (List.mem_of_getElem? (i := 67) rfl)) (hw _ (List.mem_of_getElem? (i := 68) rfl)) (hw _ (List.mem_of_getElem? (i := 62) rfl)) (hw _ (List.mem_of_getElem? (i := 69) rfl)) pd___BI_B rfl d_jdk_42_method_149_code_45 rfl (by rw [hml]; rfl) all0 (by decide) (Nat.le_of_ble_eq_true rfl) (by decide) (by decide) (fun v4 T4 h4 S4 X4 q4 sS4 sz4 => ?_)
      obtain ⟨rfl, rfl⟩ := q4
      show Go _ _ _ _ (T4.setTop (mkF m 48 #[r_ x, r_ a, i_ 0, i_ (Int32.ofNat cs.length), .val .null, r_ b] [(.int (lo8 (XT.ushr (Int32.ofNat cs.length - Int32.ofNat (cs.map lo8).length) (31 : Int32)))), (.ref x)]))
      rw [show (lo8 (XT.ushr (Int32.ofNat cs.length - Int32.ofNat (cs.map lo8).length) (31 : Int32))) = (0 : Int32) by rw [List.length_map, cfl0]]
      show Go _ _ _ _ (T4.setTop (mkF m 48 #[r_ x, r_ a, i_ 0, i_ (Int32.ofNat cs.length), .val .null, r_ b] [(.int 0), (.ref x)]))
      have hxs : S4 x := sS4 x (Nat.lt_of_lt_of_le E.lt q1.1) (sS3 x E.lt (hsf x (by simp)))
      refine gPutF X4 hby (hw _ (List.mem_of_getElem? (i := 29) rfl)) Via.refl (FC.keep q1 nin0) (E.keep q1) (Or.inr ⟨(hw _ (List.mem_of_getElem? (i := 25) rfl)), rfl, hnm⟩) (hw _ (List.mem_of_getElem? (i := 10) rfl)) (ty := .byte) (by decide) rfl rfl gx hxs d_jdk_42_method_149_code_48 (fun T5 h5 S5 X5 W5 sS5 => ?_)
      refine blk X5 hby b46 (pc' := 54) (Ls' := #[r_ x, r_ a, i_ 0, i_ (Int32.ofNat cs.length), .val .null, r_ b]) (st' := [(.ref b), (.ref x)]) rfl ?_
      refine gPutF X5 hby (hw _ (List.mem_of_getElem? (i := 28) rfl)) Via.refl ((FV.keep q1 nin0).other W5 (Or.inr nvc)) ((E.keep q1).wr W5) (Or.inr ⟨(hw _ (List.mem_of_getElem? (i := 24) rfl)), rfl, hnm⟩) (hw _ (List.mem_of_getElem? (i := 10) rfl)) (ty := (.array .byte)) (by decide) rfl rfl gx (sS5 x hxs) d_jdk_42_method_149_code_54 (fun T6 h6 S6 X6 W6 sS6 => ?_)
      exact retV' X6 hby hret d_jdk_42_method_149_code_57 (fun S' hS' => ⟨rfl, ((keep_more q1 : Keep h0 _ [x]).wr W5 (Or.inl (by simp))).wr W6 (Or.inl (by simp)), b, ⟨((E.keep q1).wr W5).wr W6, ((FV.keep q1 nin0).other W5 (Or.inr nvc)).same W6, VA.chars, Or.inl ⟨((FC.keep q1 nin0).same W5).other W6 (Or.inr (Ne.symm nvc)), (q2.other W5 nb).other W6 nb, hlat⟩⟩, Or.inl q0⟩)
    · skip
      show Go _ _ _ _ (T3.setTop (mkF m 45 #[r_ x, r_ a, i_ 0, i_ (Int32.ofNat cs.length), .val .null, r_ b] [(.int (Int32.ofNat cs.length)), (.ref b), (.ref x)]))
      refine gStatic X3 hby (argsL := [(.ref b), (.int (Int32.ofNat cs.length))]) (st := [(.ref x)]) (ct_cfl hw hEL X3.old q2) (hw _ (List.mem_of_getElem? (i := 67) rfl)) (hw _ (List.mem_of_getElem? (i := 68) rfl)) (hw _ (List.mem_of_getElem? (i := 62) rfl)) (hw _ (List.mem_of_getElem? (i := 69) rfl)) pd___BI_B rfl d_jdk_42_method_149_code_45 rfl (by rw [hml]; rfl) all0 (by decide) (Nat.le_of_ble_eq_true rfl) (by decide) (by decide) (fun v4 T4 h4 S4 X4 q4 sS4 sz4 => ?_)
      obtain ⟨rfl, rfl⟩ := q4
      show Go _ _ _ _ (T4.setTop (mkF m 48 #[r_ x, r_ a, i_ 0, i_ (Int32.ofNat cs.length), .val .null, r_ b] [(.int (lo8 (XT.ushr (Int32.ofNat cs.length - Int32.ofNat (u16 cs).length) (31 : Int32)))), (.ref x)]))
      rw [show (lo8 (XT.ushr (Int32.ofNat cs.length - Int32.ofNat (u16 cs).length) (31 : Int32))) = (1 : Int32) by rw [u16_length, cfl1 hpos (by have := q2.len; rw [u16_length] at this; omega)]]
      show Go _ _ _ _ (T4.setTop (mkF m 48 #[r_ x, r_ a, i_ 0, i_ (Int32.ofNat cs.length), .val .null, r_ b] [(.int 1), (.ref x)]))
      have hxs : S4 x := sS4 x (Nat.lt_of_lt_of_le E.lt q1.1) (sS3 x E.lt (hsf x (by simp)))
      refine gPutF X4 hby (hw _ (List.mem_of_getElem? (i := 29) rfl)) Via.refl (FC.keep q1 nin0) (E.keep q1) (Or.inr ⟨(hw _ (List.mem_of_getElem? (i := 25) rfl)), rfl, hnm⟩) (hw _ (List.mem_of_getElem? (i := 10) rfl)) (ty := .byte) (by decide) rfl rfl gx hxs d_jdk_42_method_149_code_48 (fun T5 h5 S5 X5 W5 sS5 => ?_)
      refine blk X5 hby b47 (pc' := 54) (Ls' := #[r_ x, r_ a, i_ 0, i_ (Int32.ofNat cs.length), .val .null, r_ b]) (st' := [(.ref b), (.ref x)]) rfl ?_
      refine gPutF X5 hby (hw _ (List.mem_of_getElem? (i := 28) rfl)) Via.refl ((FV.keep q1 nin0).other W5 (Or.inr nvc)) ((E.keep q1).wr W5) (Or.inr ⟨(hw _ (List.mem_of_getElem? (i := 24) rfl)), rfl, hnm⟩) (hw _ (List.mem_of_getElem? (i := 10) rfl)) (ty := (.array .byte)) (by decide) rfl rfl gx (sS5 x hxs) d_jdk_42_method_149_code_54 (fun T6 h6 S6 X6 W6 sS6 => ?_)
      exact retV' X6 hby hret d_jdk_42_method_149_code_57 (fun S' hS' => ⟨rfl, ((keep_more q1 : Keep h0 _ [x]).wr W5 (Or.inl (by simp))).wr W6 (Or.inl (by simp)), b, ⟨((E.keep q1).wr W5).wr W6, ((FV.keep q1 nin0).other W5 (Or.inr nvc)).same W6, VA.chars, Or.inr ⟨((FC.keep q1 nin0).same W5).other W6 (Or.inr (Ne.symm nvc)), (q2.other W5 nb).other W6 nb, hlat⟩⟩, Or.inl q0⟩)
  · replace hc := neF hc
    have hcs : cs = [] := List.length_eq_zero_iff.mp ((eq32 VA.len (by omega)).mp hc)
    subst hcs
    show Go _ _ _ _ (T1.setTop (mkF m 8 #[r_ x, r_ a, i_ 0, i_ (Int32.ofNat ([] : List Int32).length), .val .null, u_] []))
    refine blk X1 hby b48 (pc' := 9) (Ls' := #[r_ x, r_ a, i_ 0, i_ (Int32.ofNat ([] : List Int32).length), .val .null, u_]) (st' := [(.ref x)]) rfl ?_
    refine gLdc X1 hby (hw _ (List.mem_of_getElem? (i := 22) rfl)) (fun d hd => hw d (strIn d hd)) (by decide) (xs := []) (by decide) (by decide) (by decide) d_jdk_42_method_149_code_9 (n := 0) (by decide) (by decide) (by decide) (by decide) (fun T2 h2 S2 c2 b2 X2 E2 A2 F2 G2 V2 sS2 sn2 => ?_)
    have hx2 : S2 x := sS2 x E.lt (hsf x (by simp))
    refine gGetF X2 hby (hw _ (List.mem_of_getElem? (i := 28) rfl)) Via.refl G2 d_jdk_42_method_149_code_11 (fun T3 X3 => ?_)
    refine gPutF X3 hby (hw _ (List.mem_of_getElem? (i := 28) rfl)) Via.refl (FV.ext E2) (E.ext E2) (Or.inr ⟨(hw _ (List.mem_of_getElem? (i := 24) rfl)), rfl, hnm⟩) (hw _ (List.mem_of_getElem? (i := 10) rfl)) (ty := (.array .byte)) (by decide) rfl rfl gx hx2 d_jdk_42_method_149_code_14 (fun T4 h4 S4 X4 W4 sS4 => ?_)
    have FV4 := (FV.ext E2).same W4
    have FC4 := (FC.ext E2).other W4 (Or.inr (Ne.symm nvc))
    have E4' := (E.ext E2).wr W4
    have V4' := V2.other W4 (Ne.symm (sn2 x hx2).2)
    refine blk X4 hby b49 (pc' := 18) (Ls' := #[r_ x, r_ a, i_ 0, i_ (Int32.ofNat ([] : List Int32).length), .val .null, u_]) (st' := [(.ref x)]) rfl ?_
    refine gLdc X4 hby (hw _ (List.mem_of_getElem? (i := 22) rfl)) (fun d hd => hw d (strIn d hd)) (by decide) (xs := []) (by decide) (by decide) (by decide) d_jdk_42_method_149_code_18 (n := 0) (by decide) (by decide) (by decide) (by decide) (fun T5 h5 S5 c5 b5 X5 E5 A5 F5 G5 V5 sS5 sn5 => ?_)
    have hx5 : S5 x := sS5 x E4'.lt (sS4 x hx2)
    refine gGetF X5 hby (hw _ (List.mem_of_getElem? (i := 29) rfl)) Via.refl F5 d_jdk_42_method_149_code_20 (fun T6 X6 => ?_)
    refine gPutF X6 hby (hw _ (List.mem_of_getElem? (i := 29) rfl)) Via.refl (FC4.ext E5) (E4'.ext E5) (Or.inr ⟨(hw _ (List.mem_of_getElem? (i := 25) rfl)), rfl, hnm⟩) (hw _ (List.mem_of_getElem? (i := 10) rfl)) (ty := .byte) (by decide) rfl rfl gx hx5 d_jdk_42_method_149_code_23 (fun T7 h7 S7 X7 W7 sS7 => ?_)
    exact retV' X7 hby hret d_jdk_42_method_149_code_26 (fun S' hS' => ⟨rfl, ((((Keep.refl h0 [x]).ext E2).wr W4 (Or.inl (by simp))).ext E5).wr W7 (Or.inl (by simp)), b2, ⟨(E4'.ext E5).wr W7, (FV4.ext E5).other W7 (Or.inr nvc), (fun c hc => nomatch hc), Or.inl ⟨(FC4.ext E5).same W7, (V4'.ext E5).other W7 (fun z => (sn2 x hx2).2 z.symm), (fun c hc => nomatch hc)⟩⟩, Or.inr rfl⟩)
theorem ef_jdk_42_method_3_code (m : MethodId) (x0 : Addr) (x1 : Addr) : entryFrame m #[(.ref x0), (.ref x1)] 2 = mkF m 0 #[r_ x0, r_ x1] [] := by first | (simp [entryFrame, mkF, argsToLocals, Value.category]; done) | rfl
theorem b50 : decs jdk_42_method_3_code 0 [.aload_n 0, .aload_n 1, .iconst 0, .aload_n 1] = true := by decide +kernel
theorem d_jdk_42_method_3_code_4 : decode jdk_42_method_3_code 4 = .ok (.arraylength, 1) := by decide +kernel
theorem b51 : decs jdk_42_method_3_code 5 [.aconst_null] = true := by decide +kernel
theorem d_jdk_42_method_3_code_6 : decode jdk_42_method_3_code 6 = .ok (.invokespecial 27, 3) := by decide +kernel
theorem pd___CIILjava_lang_Void__V : parseMethodDescriptor "([CIILjava/lang/Void;)V" = some ⟨[(.array .char), .int, .int, (.object "java/lang/Void")], none⟩ := by decide +kernel
theorem d_jdk_42_method_3_code_9 : decode jdk_42_method_3_code 9 = .ok (.return_, 1) := by decide +kernel
set_option maxRecDepth 65536 in
set_option maxHeartbeats 40000000 in
theorem ct_init1 {h0 : Heap} {x a : Addr} {cs : List Int32} {v0 c0 : Value} {zc : Int32} (hw : ∀ d ∈ tables_1, d.before a0 Z = true) (hEL : EW Z a0 EL) (hO : Old Z Z.heap.size h0) (U : US Z zc)(E : Exa Z h0 x "java/lang/String") (FV : Fld Z h0 x "java/lang/String" "value" "[B" v0) (FC : Fld Z h0 x "java/lang/String" "coder" "B" c0) (VA : Ari Z h0 a .char cs) (gx : Z.heap.size ≤ x) (hcap : cs.length ≤ 4) :
    Ct true false Z EL l (⟨"java/lang/String", "<init>", "([C)V"⟩ : MethodName) jdk_42_method_3_code 2 none ({ frames := 5, cells := 4, slots := 12, locals := 84 } : Room) #[(.ref x), (.ref a)] h0 [x] (QS Z h0 x cs) := by
  refine ctOf (plainFor_of_name pn_java_lang_String) hO hEL ?_
  intro p e s m below meth c s₁ S0 X0 hby hml hret hnm hsf
  refine Go.entry (ef_jdk_42_method_3_code m x a) ?_
  show Go _ _ _ _ (s₁.setTop (mkF m 0 #[r_ x, r_ a] []))
  refine blk X0 hby b50 (pc' := 4) (Ls' := #[r_ x, r_ a]) (st' := [(.ref a), (.int 0), (.ref a), (.ref x)]) rfl ?_
  refine gLen X0 hby VA d_jdk_42_method_3_code_4 ?_
  refine blk X0 hby b51 (pc' := 6) (Ls' := #[r_ x, r_ a]) (st' := [.null, (.int (Int32.ofNat cs.length)), (.int 0), (.ref a), (.ref x)]) rfl ?_
  refine gInit X0 hby (argsL := [(.ref a), (.int 0), (.int (Int32.ofNat cs.length)), .null]) (st := []) (ct_init4 hw hEL X0.old U E FV FC VA gx hcap) rfl (hw _ (List.mem_of_getElem? (i := 15) rfl)) (hw _ (List.mem_of_getElem? (i := 16) rfl)) (hw _ (List.mem_of_getElem? (i := 11) rfl)) (hw _ (List.mem_of_getElem? (i := 18) rfl)) pd___CIILjava_lang_Void__V rfl d_jdk_42_method_3_code_6 rfl (by rw [hml]; rfl) hsf (by decide) (Nat.le_of_ble_eq_true rfl) (by decide) (by decide) (fun v1 T1 h1 S1 X1 q1 sS1 sz1 => ?_)
  obtain ⟨rfl, q1, q2⟩ := q1
  show Go _ _ _ _ (T1.setTop (mkF m 9 #[r_ x, r_ a] []))
  exact retV' X1 hby hret d_jdk_42_method_3_code_9 (fun S' hS' => ⟨rfl, q1, q2⟩)
theorem ef_jdk_42_method_152_code (m : MethodId) (x0 : Addr) : entryFrame m #[(.ref x0)] 1 = mkF m 0 #[r_ x0] [] := by first | (simp [entryFrame, mkF, argsToLocals, Value.category]; done) | rfl
theorem d_jdk_42_method_152_code_0 : decode jdk_42_method_152_code 0 = .ok (.getstatic 38, 3) := by decide +kernel
theorem d_jdk_42_method_152_code_3 : decode jdk_42_method_152_code 3 = .ok (.ifCond .eq 10, 3) := by decide +kernel
theorem b52 : decs jdk_42_method_152_code 6 [.aload_n 0] = true := by decide +kernel
theorem d_jdk_42_method_152_code_7 : decode jdk_42_method_152_code 7 = .ok (.getfield 15, 3) := by decide +kernel
theorem b53 : decs jdk_42_method_152_code 10 [.goto 4] = true := by decide +kernel
theorem d_jdk_42_method_152_code_14 : decode jdk_42_method_152_code 14 = .ok (.ireturn, 1) := by decide +kernel
set_option maxRecDepth 65536 in
set_option maxHeartbeats 40000000 in
theorem ct_coder {h0 : Heap} {x : Addr} {k zc : Int32} (hw : ∀ d ∈ tables_1, d.before a0 Z = true) (hEL : EW Z a0 EL) (hO : Old Z Z.heap.size h0) (U : US Z zc) (FC : Fld Z h0 x "java/lang/String" "coder" "B" (.int k)) (hk : narrow .byte (.int k) = .int k) :
    Ct true false Z EL l (⟨"java/lang/String", "coder", "()B"⟩ : MethodName) jdk_42_method_152_code 1 (some .byte) ({ frames := 0, cells := 0, slots := 0, locals := 0 } : Room) #[(.ref x)] h0 [] (QI h0 k) := by
  refine ctOf (plainFor_of_name pn_java_lang_String) hO hEL ?_
  intro p e s m below meth c s₁ S0 X0 hby hml hret hnm hsf
  refine Go.entry (ef_jdk_42_method_152_code m x) ?_
  show Go _ _ _ _ (s₁.setTop (mkF m 0 #[r_ x] []))
  refine gGetS X0 hby (hw _ (List.mem_of_getElem? (i := 44) rfl)) Via.refl U.cs d_jdk_42_method_152_code_0 (fun T1 X1 => ?_)
  refine br0 X1 hby d_jdk_42_method_152_code_3 (pc1 := 13) (by decide) (fun hc => absurd (eqT hc) (U.nz)) (fun hc => ?_)
  refine blk X1 hby b52 (pc' := 7) (Ls' := #[r_ x]) (st' := [(.ref x)]) rfl ?_
  refine gGetF X1 hby (hw _ (List.mem_of_getElem? (i := 29) rfl)) Via.refl FC d_jdk_42_method_152_code_7 (fun T2 X2 => ?_)
  refine blk X2 hby b53 (pc' := 14) (Ls' := #[r_ x]) (st' := [(.int k)]) rfl ?_
  exact retI' X2 hby hret d_jdk_42_method_152_code_14 hk (fun S' hS' => ⟨rfl, rfl⟩)
theorem ef_jdk_42_method_154_code (m : MethodId) (x0 : Addr) : entryFrame m #[(.ref x0)] 1 = mkF m 0 #[r_ x0] [] := by first | (simp [entryFrame, mkF, argsToLocals, Value.category]; done) | rfl
theorem d_jdk_42_method_154_code_0 : decode jdk_42_method_154_code 0 = .ok (.getstatic 38, 3) := by decide +kernel
theorem d_jdk_42_method_154_code_3 : decode jdk_42_method_154_code 3 = .ok (.ifCond .eq 14, 3) := by decide +kernel
theorem b54 : decs jdk_42_method_154_code 6 [.aload_n 0] = true := by decide +kernel
theorem d_jdk_42_method_154_code_7 : decode jdk_42_method_154_code 7 = .ok (.getfield 15, 3) := by decide +kernel
theorem d_jdk_42_method_154_code_10 : decode jdk_42_method_154_code 10 = .ok (.ifCond .ne 7, 3) := by decide +kernel
theorem b55 : decs jdk_42_method_154_code 17 [.iconst 0] = true := by decide +kernel
theorem d_jdk_42_method_154_code_18 : decode jdk_42_method_154_code 18 = .ok (.ireturn, 1) := by decide +kernel
theorem b56 : decs jdk_42_method_154_code 13 [.iconst 1, .goto 4] = true := by decide +kernel
set_option maxRecDepth 65536 in
set_option maxHeartbeats 40000000 in
theorem ct_isL {h0 : Heap} {x : Addr} {k zc : Int32} (hw : ∀ d ∈ tables_1, d.before a0 Z = true) (hEL : EW Z a0 EL) (hO : Old Z Z.heap.size h0) (U : US Z zc) (FC : Fld Z h0 x "java/lang/String" "coder" "B" (.int k)) :
    Ct true false Z EL l (⟨"java/lang/String", "isLatin1", "()Z"⟩ : MethodName) jdk_42_method_154_code 1 (some .boolean) ({ frames := 0, cells := 0, slots := 0, locals := 0 } : Room) #[(.ref x)] h0 [] (QI h0 (if k = 0 then 1 else 0)) := by
  refine ctOf (plainFor_of_name pn_java_lang_String) hO hEL ?_
  intro p e s m below meth c s₁ S0 X0 hby hml hret hnm hsf
  refine Go.entry (ef_jdk_42_method_154_code m x) ?_
  show Go _ _ _ _ (s₁.setTop (mkF m 0 #[r_ x] []))
  refine gGetS X0 hby (hw _ (List.mem_of_getElem? (i := 44) rfl)) Via.refl U.cs d_jdk_42_method_154_code_0 (fun T1 X1 => ?_)
  refine br0 X1 hby d_jdk_42_method_154_code_3 (pc1 := 17) (by decide) (fun hc => absurd (eqT hc) (U.nz)) (fun hc => ?_)
  refine blk X1 hby b54 (pc' := 7) (Ls' := #[r_ x]) (st' := [(.ref x)]) rfl ?_
  refine gGetF X1 hby (hw _ (List.mem_of_getElem? (i := 29) rfl)) Via.refl FC d_jdk_42_method_154_code_7 (fun T2 X2 => ?_)
  refine br0 X2 hby d_jdk_42_method_154_code_10 (pc1 := 17) (by decide) (fun hd => ?_) (fun hd => ?_)
  · replace hd := neT hd
    refine blk X2 hby b55 (pc' := 18) (Ls' := #[r_ x]) (st' := [(.int 0)]) rfl ?_
    exact retI' X2 hby hret d_jdk_42_method_154_code_18 rfl (fun S' hS' => ⟨by rw [if_neg hd], rfl⟩)
  · replace hd := neF hd
    refine blk X2 hby b56 (pc' := 18) (Ls' := #[r_ x]) (st' := [(.int 1)]) rfl ?_
    exact retI' X2 hby hret d_jdk_42_method_154_code_18 rfl (fun S' hS' => ⟨by rw [if_pos hd], rfl⟩)
theorem ef_jdk_42_method_54_code (m : MethodId) (x0 : Addr) : entryFrame m #[(.ref x0)] 1 = mkF m 0 #[r_ x0] [] := by first | (simp [entryFrame, mkF, argsToLocals, Value.category]; done) | rfl
theorem b57 : decs jdk_42_method_54_code 0 [.aload_n 0] = true := by decide +kernel
theorem d_jdk_42_method_54_code_1 : decode jdk_42_method_54_code 1 = .ok (.getfield 9, 3) := by decide +kernel
theorem d_jdk_42_method_54_code_4 : decode jdk_42_method_54_code 4 = .ok (.arraylength, 1) := by decide +kernel
theorem b58 : decs jdk_42_method_54_code 5 [.aload_n 0] = true := by decide +kernel
theorem d_jdk_42_method_54_code_6 : decode jdk_42_method_54_code 6 = .ok (.invokevirtual 335, 3) := by decide +kernel
theorem pd___B : parseMethodDescriptor "()B" = some ⟨[], (some .byte)⟩ := by decide +kernel
theorem b59 : decs jdk_42_method_54_code 9 [.ishr] = true := by decide +kernel
theorem d_jdk_42_method_54_code_10 : decode jdk_42_method_54_code 10 = .ok (.ireturn, 1) := by decide +kernel
theorem b60 : decs jdk_42_method_54_code 5 [.aload_n 0] = true := by decide +kernel
theorem b61 : decs jdk_42_method_54_code 9 [.ishr] = true := by decide +kernel
set_option maxRecDepth 65536 in
set_option maxHeartbeats 40000000 in
theorem ct_len {h0 : Heap} {x b : Addr} {cs : List Int32} {zc : Int32} (hw : ∀ d ∈ tables_1, d.before a0 Z = true) (hEL : EW Z a0 EL) (hO : Old Z Z.heap.size h0) (U : US Z zc)(F : Str Z h0 x b cs) :
    Ct true false Z EL l (⟨"java/lang/String", "length", "()I"⟩ : MethodName) jdk_42_method_54_code 1 (some .int) ({ frames := 1, cells := 0, slots := 0, locals := 14 } : Room) #[(.ref x)] h0 [] (QI h0 (Int32.ofNat cs.length)) := by
  refine ctOf (plainFor_of_name pn_java_lang_String) hO hEL ?_
  intro p e s m below meth c s₁ S0 X0 hby hml hret hnm hsf
  refine Go.entry (ef_jdk_42_method_54_code m x) ?_
  show Go _ _ _ _ (s₁.setTop (mkF m 0 #[r_ x] []))
  refine blk X0 hby b57 (pc' := 1) (Ls' := #[r_ x]) (st' := [(.ref x)]) rfl ?_
  obtain ⟨hE, hV, hR, hC⟩ := F
  rcases hC with ⟨FC, VB, hl⟩ | ⟨FC, VB, hl⟩
  · skip
    show Go _ _ _ _ (s₁.setTop (mkF m 1 #[r_ x] [(.ref x)]))
    refine gGetF X0 hby (hw _ (List.mem_of_getElem? (i := 28) rfl)) Via.refl hV d_jdk_42_method_54_code_1 (fun T1 X1 => ?_)
    refine gLen X1 hby VB d_jdk_42_method_54_code_4 ?_
    refine blk X1 hby b58 (pc' := 6) (Ls' := #[r_ x]) (st' := [(.ref x), (.int (Int32.ofNat (cs.map lo8).length))]) rfl ?_
    refine gVirt X1 hby (argsL := []) (st := [(.int (Int32.ofNat (cs.map lo8).length))]) (ct_coder hw hEL X1.old U FC (by decide)) hE (hw _ (List.mem_of_getElem? (i := 39) rfl)) (hw _ (List.mem_of_getElem? (i := 40) rfl)) (hw _ (List.mem_of_getElem? (i := 42) rfl)) (hw _ (List.mem_of_getElem? (i := 41) rfl)) (hw _ (List.mem_of_getElem? (i := 11) rfl)) (hw _ (List.mem_of_getElem? (i := 43) rfl)) pd___B rfl d_jdk_42_method_54_code_6 rfl (by rw [hml]; rfl) all0 (by decide) (Nat.le_of_ble_eq_true rfl) (by decide) (by decide) (fun v2 T2 h2 S2 X2 q2 sS2 sz2 => ?_)
    obtain ⟨rfl, rfl⟩ := q2
    show Go _ _ _ _ (T2.setTop (mkF m 9 #[r_ x] [(.int 0), (.int (Int32.ofNat (cs.map lo8).length))]))
    refine blk X2 hby b59 (pc' := 10) (Ls' := #[r_ x]) (st' := [(.int ((Int32.ofNat (cs.map lo8).length) >>> ((0 : Int32) &&& 31)))]) rfl ?_
    exact retI' X2 hby hret d_jdk_42_method_54_code_10 rfl (fun S' hS' => ⟨by rw [shr0, List.length_map], rfl⟩)
  · skip
    show Go _ _ _ _ (s₁.setTop (mkF m 1 #[r_ x] [(.ref x)]))
    refine gGetF X0 hby (hw _ (List.mem_of_getElem? (i := 28) rfl)) Via.refl hV d_jdk_42_method_54_code_1 (fun T1 X1 => ?_)
    refine gLen X1 hby VB d_jdk_42_method_54_code_4 ?_
    refine blk X1 hby b60 (pc' := 6) (Ls' := #[r_ x]) (st' := [(.ref x), (.int (Int32.ofNat (u16 cs).length))]) rfl ?_
    refine gVirt X1 hby (argsL := []) (st := [(.int (Int32.ofNat (u16 cs).length))]) (ct_coder hw hEL X1.old U FC (by decide)) hE (hw _ (List.mem_of_getElem? (i := 39) rfl)) (hw _ (List.mem_of_getElem? (i := 40) rfl)) (hw _ (List.mem_of_getElem? (i := 42) rfl)) (hw _ (List.mem_of_getElem? (i := 41) rfl)) (hw _ (List.mem_of_getElem? (i := 11) rfl)) (hw _ (List.mem_of_getElem? (i := 43) rfl)) pd___B rfl d_jdk_42_method_54_code_6 rfl (by rw [hml]; rfl) all0 (by decide) (Nat.le_of_ble_eq_true rfl) (by decide) (by decide) (fun v2 T2 h2 S2 X2 q2 sS2 sz2 => ?_)
    obtain ⟨rfl, rfl⟩ := q2
    show Go _ _ _ _ (T2.setTop (mkF m 9 #[r_ x] [(.int 1), (.int (Int32.ofNat (u16 cs).length))]))
    refine blk X2 hby b61 (pc' := 10) (Ls' := #[r_ x]) (st' := [(.int ((Int32.ofNat (u16 cs).length) >>> ((1 : Int32) &&& 31)))]) rfl ?_
    exact retI' X2 hby hret d_jdk_42_method_54_code_10 rfl (fun S' hS' => ⟨by rw [u16_length, shr1 (by have := VB.len; rw [u16_length] at this; omega)], rfl⟩)
theorem pn_jdk_internal_util_Preconditions : plainName "jdk/internal/util/Preconditions" = true := by first | (simp [plainName, overriddenIn]; done) | decide +kernel
theorem ef_jdk_41_method_11_code_n (m : MethodId) (x0 : Int32) (x1 : Int32) : entryFrame m #[(.int x0), (.int x1), .null] 3 = mkF m 0 #[i_ x0, i_ x1, .val .null] [] := by first | (simp [entryFrame, mkF, argsToLocals, Value.category]; done) | rfl
theorem b62 : decs jdk_41_method_11_code 0 [.iload_n 0] = true := by decide +kernel
theorem d_jdk_41_method_11_code_1 : decode jdk_41_method_11_code 1 = .ok (.ifCond .lt 8, 3) := by decide +kernel
theorem b63 : decs jdk_41_method_11_code 4 [.iload_n 0, .iload_n 1] = true := by decide +kernel
theorem d_jdk_41_method_11_code_6 : decode jdk_41_method_11_code 6 = .ok (.if_icmp .lt 10, 3) := by decide +kernel
theorem b64 : decs jdk_41_method_11_code 16 [.iload_n 0] = true := by decide +kernel
theorem d_jdk_41_method_11_code_17 : decode jdk_41_method_11_code 17 = .ok (.ireturn, 1) := by decide +kernel
set_option maxRecDepth 65536 in
set_option maxHeartbeats 40000000 in
theorem ct_pci_n {h0 : Heap} {i n : Int32} (hw : ∀ d ∈ tables_1, d.before a0 Z = true) (hEL : EW Z a0 EL) (hO : Old Z Z.heap.size h0) (h1 : ¬ i < 0) (h2 : i < n) :
    Ct true false Z EL l (⟨"jdk/internal/util/Preconditions", "checkIndex", "(IILjava/util/function/BiFunction;)I"⟩ : MethodName) jdk_41_method_11_code 3 (some .int) ({ frames := 0, cells := 0, slots := 0, locals := 0 } : Room) #[(.int i), (.int n), .null] h0 [] (QI h0 i) := by
  refine ctOf (plainFor_of_name pn_jdk_internal_util_Preconditions) hO hEL ?_
  intro p e s m below meth c s₁ S0 X0 hby hml hret hnm hsf
  refine Go.entry (ef_jdk_41_method_11_code_n m i n) ?_
  show Go _ _ _ _ (s₁.setTop (mkF m 0 #[i_ i, i_ n, .val .null] []))
  refine blk X0 hby b62 (pc' := 1) (Ls' := #[i_ i, i_ n, .val .null]) (st' := [(.int i)]) rfl ?_
  refine br0 X0 hby d_jdk_41_method_11_code_1 (pc1 := 9) (by decide) (fun hc => absurd (ltT hc) (h1)) (fun hc => ?_)
  refine blk X0 hby b63 (pc' := 6) (Ls' := #[i_ i, i_ n, .val .null]) (st' := [(.int n), (.int i)]) rfl ?_
  refine brI X0 hby d_jdk_41_method_11_code_6 (pc1 := 16) (by decide) (fun hd => ?_) (fun hd => absurd (ltF hd) (fun q => q h2))
  refine blk X0 hby b64 (pc' := 17) (Ls' := #[i_ i, i_ n, .val .null]) (st' := [(.int i)]) rfl ?_
  exact retI' X0 hby hret d_jdk_41_method_11_code_17 rfl (fun S' hS' => ⟨rfl, rfl⟩)
theorem ef_jdk_41_method_11_code_r (m : MethodId) (x0 : Int32) (x1 : Int32) (x2 : Addr) : entryFrame m #[(.int x0), (.int x1), (.ref x2)] 3 = mkF m 0 #[i_ x0, i_ x1, r_ x2] [] := by first | (simp [entryFrame, mkF, argsToLocals, Value.category]; done) | rfl
theorem b65 : decs jdk_41_method_11_code 0 [.iload_n 0] = true := by decide +kernel
theorem b66 : decs jdk_41_method_11_code 4 [.iload_n 0, .iload_n 1] = true := by decide +kernel
theorem b67 : decs jdk_41_method_11_code 16 [.iload_n 0] = true := by decide +kernel
set_option maxRecDepth 65536 in
set_option maxHeartbeats 40000000 in
theorem ct_pci_r {h0 : Heap} {i n : Int32} {fa : Addr} (hw : ∀ d ∈ tables_1, d.before a0 Z = true) (hEL : EW Z a0 EL) (hO : Old Z Z.heap.size h0) (h1 : ¬ i < 0) (h2 : i < n) :
    Ct true false Z EL l (⟨"jdk/internal/util/Preconditions", "checkIndex", "(IILjava/util/function/BiFunction;)I"⟩ : MethodName) jdk_41_method_11_code 3 (some .int) ({ frames := 0, cells := 0, slots := 0, locals := 0 } : Room) #[(.int i), (.int n), (.ref fa)] h0 [] (QI h0 i) := by
  refine ctOf (plainFor_of_name pn_jdk_internal_util_Preconditions) hO hEL ?_
  intro p e s m below meth c s₁ S0 X0 hby hml hret hnm hsf
  refine Go.entry (ef_jdk_41_method_11_code_r m i n fa) ?_
  show Go _ _ _ _ (s₁.setTop (mkF m 0 #[i_ i, i_ n, r_ fa] []))
  refine blk X0 hby b65 (pc' := 1) (Ls' := #[i_ i, i_ n, r_ fa]) (st' := [(.int i)]) rfl ?_
  refine br0 X0 hby d_jdk_41_method_11_code_1 (pc1 := 9) (by decide) (fun hc => absurd (ltT hc) (h1)) (fun hc => ?_)
  refine blk X0 hby b66 (pc' := 6) (Ls' := #[i_ i, i_ n, r_ fa]) (st' := [(.int n), (.int i)]) rfl ?_
  refine brI X0 hby d_jdk_41_method_11_code_6 (pc1 := 16) (by decide) (fun hd => ?_) (fun hd => absurd (ltF hd) (fun q => q h2))
  refine blk X0 hby b67 (pc' := 17) (Ls' := #[i_ i, i_ n, r_ fa]) (st' := [(.int i)]) rfl ?_
  exact retI' X0 hby hret d_jdk_41_method_11_code_17 rfl (fun S' hS' => ⟨rfl, rfl⟩)
theorem ef_jdk_42_method_155_code (m : MethodId) (x0 : Int32) (x1 : Int32) : entryFrame m #[(.int x0), (.int x1)] 2 = mkF m 0 #[i_ x0, i_ x1] [] := by first | (simp [entryFrame, mkF, argsToLocals, Value.category]; done) | rfl
theorem b68 : decs jdk_42_method_155_code 0 [.iload_n 0, .iload_n 1] = true := by decide +kernel
theorem d_jdk_42_method_155_code_2 : decode jdk_42_method_155_code 2 = .ok (.getstatic 1053, 3) := by decide +kernel
theorem d_jdk_42_method_155_code_5 : decode jdk_42_method_155_code 5 = .ok (.invokestatic 1059, 3) := by decide +kernel
theorem pd__IILjava_util_function_BiFunction__I : parseMethodDescriptor "(IILjava/util/function/BiFunction;)I" = some ⟨[.int, .int, (.object "java/util/function/BiFunction")], (some .int)⟩ := by decide +kernel
theorem b69 : decs jdk_42_method_155_code 8 [.pop] = true := by decide +kernel
theorem d_jdk_42_method_155_code_9 : decode jdk_42_method_155_code 9 = .ok (.return_, 1) := by decide +kernel
theorem b70 : decs jdk_42_method_155_code 8 [.pop] = true := by decide +kernel
def QN (h0 : Heap) (v : Option Value) (h : Heap) (S : Addr → Prop) : Prop := v = none ∧ h0 = h
set_option maxRecDepth 65536 in
set_option maxHeartbeats 40000000 in
theorem ct_chk {h0 : Heap} {i n : Int32} {fm : Value} (hw : ∀ d ∈ tables_1, d.before a0 Z = true) (hEL : EW Z a0 EL) (hO : Old Z Z.heap.size h0) (hFM : Sta Z Z.heap "jdk/internal/util/Preconditions" "SIOOBE_FORMATTER" "Ljava/util/function/BiFunction;" fm) (hfm : fm = .null ∨ ∃ a, fm = .ref a) (h1 : ¬ i < 0) (h2 : i < n) :
    Ct true false Z EL l (⟨"java/lang/String", "checkIndex", "(II)V"⟩ : MethodName) jdk_42_method_155_code 2 none ({ frames := 1, cells := 0, slots := 0, locals := 16 } : Room) #[(.int i), (.int n)] h0 [] (QN h0) := by
  refine ctOf (plainFor_of_name pn_java_lang_String) hO hEL ?_
  intro p e s m below meth c s₁ S0 X0 hby hml hret hnm hsf
  refine Go.entry (ef_jdk_42_method_155_code m i n) ?_
  show Go _ _ _ _ (s₁.setTop (mkF m 0 #[i_ i, i_ n] []))
  refine blk X0 hby b68 (pc' := 2) (Ls' := #[i_ i, i_ n]) (st' := [(.int n), (.int i)]) rfl ?_
  rcases hfm with rfl | ⟨fa, rfl⟩
  · skip
    show Go _ _ _ _ (s₁.setTop (mkF m 2 #[i_ i, i_ n] [(.int n), (.int i)]))
    refine gGetS X0 hby (hw _ (List.mem_of_getElem? (i := 54) rfl)) Via.refl hFM d_jdk_42_method_155_code_2 (fun T1 X1 => ?_)
    refine gStatic X1 hby (argsL := [(.int i), (.int n), .null]) (st := []) (ct_pci_n hw hEL X1.old h1 h2) (hw _ (List.mem_of_getElem? (i := 87) rfl)) (hw _ (List.mem_of_getElem? (i := 88) rfl)) (hw _ (List.mem_of_getElem? (i := 55) rfl)) (hw _ (List.mem_of_getElem? (i := 89) rfl)) pd__IILjava_util_function_BiFunction__I rfl d_jdk_42_method_155_code_5 rfl (by rw [hml]; rfl) all0 (by decide) (Nat.le_of_ble_eq_true rfl) (by decide) (by decide) (fun v2 T2 h2 S2 X2 q2 sS2 sz2 => ?_)
    obtain ⟨rfl, rfl⟩ := q2
    show Go _ _ _ _ (T2.setTop (mkF m 8 #[i_ i, i_ n] [(.int i)]))
    refine blk X2 hby b69 (pc' := 9) (Ls' := #[i_ i, i_ n]) (st' := []) rfl ?_
    exact retV' X2 hby hret d_jdk_42_method_155_code_9 (fun S' hS' => ⟨rfl, rfl⟩)
  · skip
    show Go _ _ _ _ (s₁.setTop (mkF m 2 #[i_ i, i_ n] [(.int n), (.int i)]))
    refine gGetS X0 hby (hw _ (List.mem_of_getElem? (i := 54) rfl)) Via.refl hFM d_jdk_42_method_155_code_2 (fun T1 X1 => ?_)
    refine gStatic X1 hby (argsL := [(.int i), (.int n), (.ref fa)]) (st := []) (ct_pci_r hw hEL X1.old h1 h2) (hw _ (List.mem_of_getElem? (i := 87) rfl)) (hw _ (List.mem_of_getElem? (i := 88) rfl)) (hw _ (List.mem_of_getElem? (i := 55) rfl)) (hw _ (List.mem_of_getElem? (i := 89) rfl)) pd__IILjava_util_function_BiFunction__I rfl d_jdk_42_method_155_code_5 rfl (by rw [hml]; rfl) all0 (by decide) (Nat.le_of_ble_eq_true rfl) (by decide) (by decide) (fun v2 T2 h2 S2 X2 q2 sS2 sz2 => ?_)
    obtain ⟨rfl, rfl⟩ := q2
    show Go _ _ _ _ (T2.setTop (mkF m 8 #[i_ i, i_ n] [(.int i)]))
    refine blk X2 hby b70 (pc' := 9) (Ls' := #[i_ i, i_ n]) (st' := []) rfl ?_
    exact retV' X2 hby hret d_jdk_42_method_155_code_9 (fun S' hS' => ⟨rfl, rfl⟩)
theorem pn_java_lang_StringLatin1 : plainName "java/lang/StringLatin1" = true := by first | (simp [plainName, overriddenIn]; done) | decide +kernel
theorem ef_jdk_43_method_2_code (m : MethodId) (x0 : Addr) (x1 : Int32) : entryFrame m #[(.ref x0), (.int x1)] 2 = mkF m 0 #[r_ x0, i_ x1] [] := by first | (simp [entryFrame, mkF, argsToLocals, Value.category]; done) | rfl
theorem b71 : decs jdk_43_method_2_code 0 [.iload_n 1, .aload_n 0] = true := by decide +kernel
theorem d_jdk_43_method_2_code_2 : decode jdk_43_method_2_code 2 = .ok (.arraylength, 1) := by decide +kernel
theorem d_jdk_43_method_2_code_3 : decode jdk_43_method_2_code 3 = .ok (.invokestatic 9, 3) := by decide +kernel
theorem pd__II_V : parseMethodDescriptor "(II)V" = some ⟨[.int, .int], none⟩ := by decide +kernel
theorem b72 : decs jdk_43_method_2_code 6 [.aload_n 0, .iload_n 1] = true := by decide +kernel
theorem d_jdk_43_method_2_code_8 : decode jdk_43_method_2_code 8 = .ok (.baload, 1) := by decide +kernel
theorem b73 : decs jdk_43_method_2_code 9 [.sipush 255, .iand, .i2c] = true := by decide +kernel
theorem d_jdk_43_method_2_code_14 : decode jdk_43_method_2_code 14 = .ok (.ireturn, 1) := by decide +kernel
set_option maxRecDepth 65536 in
set_option maxHeartbeats 40000000 in
theorem ct_l1c {h0 : Heap} {b : Addr} {cs : List Int32} {i : Nat} {fm : Value} (hw : ∀ d ∈ tables_1, d.before a0 Z = true) (hEL : EW Z a0 EL) (hO : Old Z Z.heap.size h0) (hFM : Sta Z Z.heap "jdk/internal/util/Preconditions" "SIOOBE_FORMATTER" "Ljava/util/function/BiFunction;" fm) (hfm : fm = .null ∨ ∃ a, fm = .ref a) (VB : Ari Z h0 b .byte (cs.map lo8)) (hi : i < cs.length) (hR : ∀ c ∈ cs, ¬ c < 0 ∧ ¬ 65535 < c) (hlat : ∀ c ∈ cs, ¬ 255 < c) :
    Ct true false Z EL l (⟨"java/lang/StringLatin1", "charAt", "([BI)C"⟩ : MethodName) jdk_43_method_2_code 2 (some .char) ({ frames := 2, cells := 0, slots := 0, locals := 32 } : Room) #[(.ref b), (.int (Int32.ofNat i))] h0 [] (QI h0 (cs.getD i 0)) := by
  refine ctOf (plainFor_of_name pn_java_lang_StringLatin1) hO hEL ?_
  intro p e s m below meth c s₁ S0 X0 hby hml hret hnm hsf
  refine Go.entry (ef_jdk_43_method_2_code m b (Int32.ofNat i)) ?_
  show Go _ _ _ _ (s₁.setTop (mkF m 0 #[r_ b, i_ (Int32.ofNat i)] []))
  have hL := VB.len
  rw [List.length_map] at hL
  refine blk X0 hby b71 (pc' := 2) (Ls' := #[r_ b, i_ (Int32.ofNat i)]) (st' := [(.ref b), (.int (Int32.ofNat i))]) rfl ?_
  refine gLen X0 hby VB d_jdk_43_method_2_code_2 ?_
  refine gStatic X0 hby (argsL := [(.int (Int32.ofNat i)), (.int (Int32.ofNat (cs.map lo8).length))]) (st := []) (ct_chk hw hEL X0.old hFM hfm (nn32 (by omega)) (by rw [List.length_map]; exact (lt32 (by omega) hL).mpr hi)) (hw _ (List.mem_of_getElem? (i := 84) rfl)) (hw _ (List.mem_of_getElem? (i := 85) rfl)) (hw _ (List.mem_of_getElem? (i := 11) rfl)) (hw _ (List.mem_of_getElem? (i := 86) rfl)) pd__II_V rfl d_jdk_43_method_2_code_3 rfl (by rw [hml]; rfl) all0 (by decide) (Nat.le_of_ble_eq_true rfl) (by decide) (by decide) (fun v1 T1 h1 S1 X1 q1 sS1 sz1 => ?_)
  obtain ⟨rfl, rfl⟩ := q1
  show Go _ _ _ _ (T1.setTop (mkF m 6 #[r_ b, i_ (Int32.ofNat i)] []))
  refine blk X1 hby b72 (pc' := 8) (Ls' := #[r_ b, i_ (Int32.ofNat i)]) (st' := [(.int (Int32.ofNat i)), (.ref b)]) rfl ?_
  refine gLd X1 hby VB (Or.inr (Or.inr ⟨rfl, rfl⟩)) d_jdk_43_method_2_code_8 (i := i) rfl (by rw [List.length_map]; exact hi) ?_
  rw [getD_map hi]
  show Go _ _ _ _ (T1.setTop (mkF m 9 #[r_ b, i_ (Int32.ofNat i)] [(.int (lo8 (cs.getD i 0)))]))
  refine blk X1 hby b73 (pc' := 14) (Ls' := #[r_ b, i_ (Int32.ofNat i)]) (st' := [(.int (chr16 ((lo8 (cs.getD i 0)) &&& (255 : Int32))))]) rfl ?_
  exact retI' X1 hby hret d_jdk_43_method_2_code_14 (XT.narrow_c _) (fun S' hS' => ⟨by rw [lo8_mask _ (hR _ (getD_mem hi)).1 (hlat _ (getD_mem hi))], rfl⟩)
theorem ef_jdk_52_method_6_code (m : MethodId) (x0 : Addr) : entryFrame m #[(.ref x0)] 1 = mkF m 0 #[r_ x0] [] := by first | (simp [entryFrame, mkF, argsToLocals, Value.category]; done) | rfl
theorem b74 : decs jdk_52_method_6_code 0 [.aload_n 0] = true := by decide +kernel
theorem d_jdk_52_method_6_code_1 : decode jdk_52_method_6_code 1 = .ok (.arraylength, 1) := by decide +kernel
theorem b75 : decs jdk_52_method_6_code 2 [.iconst 1, .ishr] = true := by decide +kernel
theorem d_jdk_52_method_6_code_4 : decode jdk_52_method_6_code 4 = .ok (.ireturn, 1) := by decide +kernel
set_option maxRecDepth 65536 in
set_option maxHeartbeats 40000000 in
theorem ct_ulen {h0 : Heap} {b : Addr} {cs : List Int32} (hw : ∀ d ∈ tables_1, d.before a0 Z = true) (hEL : EW Z a0 EL) (hO : Old Z Z.heap.size h0) (VB : Ari Z h0 b .byte (u16 cs)) :
    Ct true false Z EL l (⟨"java/lang/StringUTF16", "length", "([B)I"⟩ : MethodName) jdk_52_method_6_code 1 (some .int) ({ frames := 0, cells := 0, slots := 0, locals := 0 } : Room) #[(.ref b)] h0 [] (QI h0 (Int32.ofNat cs.length)) := by
  refine ctOf (plainFor_of_name pn_java_lang_StringUTF16) hO hEL ?_
  intro p e s m below meth c s₁ S0 X0 hby hml hret hnm hsf
  refine Go.entry (ef_jdk_52_method_6_code m b) ?_
  show Go _ _ _ _ (s₁.setTop (mkF m 0 #[r_ b] []))
  refine blk X0 hby b74 (pc' := 1) (Ls' := #[r_ b]) (st' := [(.ref b)]) rfl ?_
  refine gLen X0 hby VB d_jdk_52_method_6_code_1 ?_
  refine blk X0 hby b75 (pc' := 4) (Ls' := #[r_ b]) (st' := [(.int ((Int32.ofNat (u16 cs).length) >>> ((1 : Int32) &&& 31)))]) rfl ?_
  exact retI' X0 hby hret d_jdk_52_method_6_code_4 rfl (fun S' hS' => ⟨by rw [u16_length, shr1 (by have := VB.len; rw [u16_length] at this; omega)], rfl⟩)
theorem ef_jdk_52_method_91_code (m : MethodId) (x0 : Int32) (x1 : Addr) : entryFrame m #[(.int x0), (.ref x1)] 2 = mkF m 0 #[i_ x0, r_ x1] [] := by first | (simp [entryFrame, mkF, argsToLocals, Value.category]; done) | rfl
theorem b76 : decs jdk_52_method_91_code 0 [.iload_n 0, .aload_n 1] = true := by decide +kernel
theorem d_jdk_52_method_91_code_2 : decode jdk_52_method_91_code 2 = .ok (.invokestatic 48, 3) := by decide +kernel
theorem pd___B_I : parseMethodDescriptor "([B)I" = some ⟨[(.array .byte)], (some .int)⟩ := by decide +kernel
theorem d_jdk_52_method_91_code_5 : decode jdk_52_method_91_code 5 = .ok (.invokestatic 414, 3) := by decide +kernel
theorem d_jdk_52_method_91_code_8 : decode jdk_52_method_91_code 8 = .ok (.return_, 1) := by decide +kernel
set_option maxRecDepth 65536 in
set_option maxHeartbeats 40000000 in
theorem ct_uchk {h0 : Heap} {b : Addr} {cs : List Int32} {i : Nat} {fm : Value} (hw : ∀ d ∈ tables_1, d.before a0 Z = true) (hEL : EW Z a0 EL) (hO : Old Z Z.heap.size h0) (hFM : Sta Z Z.heap "jdk/internal/util/Preconditions" "SIOOBE_FORMATTER" "Ljava/util/function/BiFunction;" fm) (hfm : fm = .null ∨ ∃ a, fm = .ref a) (VB : Ari Z h0 b .byte (u16 cs)) (hi : i < cs.length) :
    Ct true false Z EL l (⟨"java/lang/StringUTF16", "checkIndex", "(I[B)V"⟩ : MethodName) jdk_52_method_91_code 2 none ({ frames := 2, cells := 0, slots := 0, locals := 32 } : Room) #[(.int (Int32.ofNat i)), (.ref b)] h0 [] (QN h0) := by
  refine ctOf (plainFor_of_name pn_java_lang_StringUTF16) hO hEL ?_
  intro p e s m below meth c s₁ S0 X0 hby hml hret hnm hsf
  refine Go.entry (ef_jdk_52_method_91_code m (Int32.ofNat i) b) ?_
  show Go _ _ _ _ (s₁.setTop (mkF m 0 #[i_ (Int32.ofNat i), r_ b] []))
  have hL := VB.len
  rw [u16_length] at hL
  refine blk X0 hby b76 (pc' := 2) (Ls' := #[i_ (Int32.ofNat i), r_ b]) (st' := [(.ref b), (.int (Int32.ofNat i))]) rfl ?_
  refine gStatic X0 hby (argsL := [(.ref b)]) (st := [(.int (Int32.ofNat i))]) (ct_ulen hw hEL X0.old VB) (hw _ (List.mem_of_getElem? (i := 147) rfl)) (hw _ (List.mem_of_getElem? (i := 148) rfl)) (hw _ (List.mem_of_getElem? (i := 62) rfl)) (hw _ (List.mem_of_getElem? (i := 149) rfl)) pd___B_I rfl d_jdk_52_method_91_code_2 rfl (by rw [hml]; rfl) all0 (by decide) (Nat.le_of_ble_eq_true rfl) (by decide) (by decide) (fun v1 T1 h1 S1 X1 q1 sS1 sz1 => ?_)
  obtain ⟨rfl, rfl⟩ := q1
  show Go _ _ _ _ (T1.setTop (mkF m 5 #[i_ (Int32.ofNat i), r_ b] [(.int (Int32.ofNat cs.length)), (.int (Int32.ofNat i))]))
  refine gStatic X1 hby (argsL := [(.int (Int32.ofNat i)), (.int (Int32.ofNat cs.length))]) (st := []) (ct_chk hw hEL X1.old hFM hfm (nn32 (by omega)) ((lt32 (by omega) (by omega)).mpr hi)) (hw _ (List.mem_of_getElem? (i := 150) rfl)) (hw _ (List.mem_of_getElem? (i := 85) rfl)) (hw _ (List.mem_of_getElem? (i := 11) rfl)) (hw _ (List.mem_of_getElem? (i := 86) rfl)) pd__II_V rfl d_jdk_52_method_91_code_5 rfl (by rw [hml]; rfl) all0 (by decide) (Nat.le_of_ble_eq_true rfl) (by decide) (by decide) (fun v2 T2 h2 S2 X2 q2 sS2 sz2 => ?_)
  obtain ⟨rfl, rfl⟩ := q2
  show Go _ _ _ _ (T2.setTop (mkF m 8 #[i_ (Int32.ofNat i), r_ b] []))
  exact retV' X2 hby hret d_jdk_52_method_91_code_8 (fun S' hS' => ⟨rfl, rfl⟩)
theorem ef_jdk_52_method_83_code (m : MethodId) (x0 : Addr) (x1 : Int32) : entryFrame m #[(.ref x0), (.int x1)] 2 = mkF m 0 #[r_ x0, i_ x1] [] := by first | (simp [entryFrame, mkF, argsToLocals, Value.category]; done) | rfl
theorem b77 : decs jdk_52_method_83_code 0 [.iload_n 1, .aload_n 0] = true := by decide +kernel
theorem d_jdk_52_method_83_code_2 : decode jdk_52_method_83_code 2 = .ok (.invokestatic 67, 3) := by decide +kernel
theorem pd__I_B_V : parseMethodDescriptor "(I[B)V" = some ⟨[.int, (.array .byte)], none⟩ := by decide +kernel
theorem b78 : decs jdk_52_method_83_code 5 [.aload_n 0, .iload_n 1] = true := by decide +kernel
theorem d_jdk_52_method_83_code_7 : decode jdk_52_method_83_code 7 = .ok (.invokestatic 71, 3) := by decide +kernel
theorem d_jdk_52_method_83_code_10 : decode jdk_52_method_83_code 10 = .ok (.ireturn, 1) := by decide +kernel
set_option maxRecDepth 65536 in
set_option maxHeartbeats 40000000 in
theorem ct_uca {h0 : Heap} {b : Addr} {cs : List Int32} {i : Nat} {fm : Value} {zc : Int32} (hw : ∀ d ∈ tables_1, d.before a0 Z = true) (hEL : EW Z a0 EL) (hO : Old Z Z.heap.size h0) (U : US Z zc)(hFM : Sta Z Z.heap "jdk/internal/util/Preconditions" "SIOOBE_FORMATTER" "Ljava/util/function/BiFunction;" fm) (hfm : fm = .null ∨ ∃ a, fm = .ref a) (VB : Ari Z h0 b .byte (u16 cs)) (hi : i < cs.length) (hR : ∀ c ∈ cs, ¬ c < 0 ∧ ¬ 65535 < c) :
    Ct true false Z EL l (⟨"java/lang/StringUTF16", "charAt", "([BI)C"⟩ : MethodName) jdk_52_method_83_code 2 (some .char) ({ frames := 3, cells := 0, slots := 0, locals := 48 } : Room) #[(.ref b), (.int (Int32.ofNat i))] h0 [] (QI h0 (cs.getD i 0)) := by
  refine ctOf (plainFor_of_name pn_java_lang_StringUTF16) hO hEL ?_
  intro p e s m below meth c s₁ S0 X0 hby hml hret hnm hsf
  refine Go.entry (ef_jdk_52_method_83_code m b (Int32.ofNat i)) ?_
  show Go _ _ _ _ (s₁.setTop (mkF m 0 #[r_ b, i_ (Int32.ofNat i)] []))
  refine blk X0 hby b77 (pc' := 2) (Ls' := #[r_ b, i_ (Int32.ofNat i)]) (st' := [(.ref b), (.int (Int32.ofNat i))]) rfl ?_
  refine gStatic X0 hby (argsL := [(.int (Int32.ofNat i)), (.ref b)]) (st := []) (ct_uchk hw hEL X0.old hFM hfm VB hi) (hw _ (List.mem_of_getElem? (i := 144) rfl)) (hw _ (List.mem_of_getElem? (i := 145) rfl)) (hw _ (List.mem_of_getElem? (i := 62) rfl)) (hw _ (List.mem_of_getElem? (i := 146) rfl)) pd__I_B_V rfl d_jdk_52_method_83_code_2 rfl (by rw [hml]; rfl) all0 (by decide) (Nat.le_of_ble_eq_true rfl) (by decide) (by decide) (fun v1 T1 h1 S1 X1 q1 sS1 sz1 => ?_)
  obtain ⟨rfl, rfl⟩ := q1
  show Go _ _ _ _ (T1.setTop (mkF m 5 #[r_ b, i_ (Int32.ofNat i)] []))
  refine blk X1 hby b78 (pc' := 7) (Ls' := #[r_ b, i_ (Int32.ofNat i)]) (st' := [(.int (Int32.ofNat i)), (.ref b)]) rfl ?_
  refine gStatic X1 hby (argsL := [(.ref b), (.int (Int32.ofNat i))]) (st := []) (ct_get hw hEL X1.old U VB hi hR) (hw _ (List.mem_of_getElem? (i := 138) rfl)) (hw _ (List.mem_of_getElem? (i := 139) rfl)) (hw _ (List.mem_of_getElem? (i := 62) rfl)) (hw _ (List.mem_of_getElem? (i := 140) rfl)) pd___BI_C rfl d_jdk_52_method_83_code_7 rfl (by rw [hml]; rfl) all0 (by decide) (Nat.le_of_ble_eq_true rfl) (by decide) (by decide) (fun v2 T2 h2 S2 X2 q2 sS2 sz2 => ?_)
  obtain ⟨rfl, rfl⟩ := q2
  show Go _ _ _ _ (T2.setTop (mkF m 10 #[r_ b, i_ (Int32.ofNat i)] [(.int (cs.getD i 0))]))
  exact retI' X2 hby hret d_jdk_52_method_83_code_10 (narC (hR _ (getD_mem hi))) (fun S' hS' => ⟨rfl, rfl⟩)
theorem ef_jdk_42_method_56_code (m : MethodId) (x0 : Addr) (x1 : Int32) : entryFrame m #[(.ref x0), (.int x1)] 2 = mkF m 0 #[r_ x0, i_ x1] [] := by first | (simp [entryFrame, mkF, argsToLocals, Value.category]; done) | rfl
theorem b79 : decs jdk_42_method_56_code 0 [.aload_n 0] = true := by decide +kernel
theorem d_jdk_42_method_56_code_1 : decode jdk_42_method_56_code 1 = .ok (.invokevirtual 492, 3) := by decide +kernel
theorem pd___Z : parseMethodDescriptor "()Z" = some ⟨[], (some .boolean)⟩ := by decide +kernel
theorem d_jdk_42_method_56_code_4 : decode jdk_42_method_56_code 4 = .ok (.ifCond .eq 12, 3) := by decide +kernel
theorem b80 : decs jdk_42_method_56_code 7 [.aload_n 0] = true := by decide +kernel
theorem d_jdk_42_method_56_code_8 : decode jdk_42_method_56_code 8 = .ok (.getfield 9, 3) := by decide +kernel
theorem b81 : decs jdk_42_method_56_code 11 [.iload_n 1] = true := by decide +kernel
theorem d_jdk_42_method_56_code_12 : decode jdk_42_method_56_code 12 = .ok (.invokestatic 495, 3) := by decide +kernel
theorem d_jdk_42_method_56_code_15 : decode jdk_42_method_56_code 15 = .ok (.ireturn, 1) := by decide +kernel
theorem b82 : decs jdk_42_method_56_code 16 [.aload_n 0] = true := by decide +kernel
theorem d_jdk_42_method_56_code_17 : decode jdk_42_method_56_code 17 = .ok (.getfield 9, 3) := by decide +kernel
theorem b83 : decs jdk_42_method_56_code 20 [.iload_n 1] = true := by decide +kernel
theorem d_jdk_42_method_56_code_21 : decode jdk_42_method_56_code 21 = .ok (.invokestatic 498, 3) := by decide +kernel
theorem d_jdk_42_method_56_code_24 : decode jdk_42_method_56_code 24 = .ok (.ireturn, 1) := by decide +kernel
set_option maxRecDepth 65536 in
set_option maxHeartbeats 40000000 in
theorem ct_chr {h0 : Heap} {x b : Addr} {cs : List Int32} {i : Nat} {fm : Value} {zc : Int32} (hw : ∀ d ∈ tables_1, d.before a0 Z = true) (hEL : EW Z a0 EL) (hO : Old Z Z.heap.size h0) (U : US Z zc)(hFM : Sta Z Z.heap "jdk/internal/util/Preconditions" "SIOOBE_FORMATTER" "Ljava/util/function/BiFunction;" fm) (hfm : fm = .null ∨ ∃ a, fm = .ref a)(F : Str Z h0 x b cs) (hi : i < cs.length) :
    Ct true false Z EL l (⟨"java/lang/String", "charAt", "(I)C"⟩ : MethodName) jdk_42_method_56_code 2 (some .char) ({ frames := 4, cells := 0, slots := 0, locals := 64 } : Room) #[(.ref x), (.int (Int32.ofNat i))] h0 [] (QI h0 (cs.getD i 0)) := by
  refine ctOf (plainFor_of_name pn_java_lang_String) hO hEL ?_
  intro p e s m below meth c s₁ S0 X0 hby hml hret hnm hsf
  refine Go.entry (ef_jdk_42_method_56_code m x (Int32.ofNat i)) ?_
  show Go _ _ _ _ (s₁.setTop (mkF m 0 #[r_ x, i_ (Int32.ofNat i)] []))
  refine blk X0 hby b79 (pc' := 1) (Ls' := #[r_ x, i_ (Int32.ofNat i)]) (st' := [(.ref x)]) rfl ?_
  obtain ⟨hE, hV, hR, hC⟩ := F
  rcases hC with ⟨FC, VB, hl⟩ | ⟨FC, VB, hl⟩
  · skip
    show Go _ _ _ _ (s₁.setTop (mkF m 1 #[r_ x, i_ (Int32.ofNat i)] [(.ref x)]))
    refine gVirt X0 hby (argsL := []) (st := []) (ct_isL hw hEL X0.old U FC) hE (hw _ (List.mem_of_getElem? (i := 75) rfl)) (hw _ (List.mem_of_getElem? (i := 76) rfl)) (hw _ (List.mem_of_getElem? (i := 78) rfl)) (hw _ (List.mem_of_getElem? (i := 77) rfl)) (hw _ (List.mem_of_getElem? (i := 11) rfl)) (hw _ (List.mem_of_getElem? (i := 79) rfl)) pd___Z rfl d_jdk_42_method_56_code_1 rfl (by rw [hml]; rfl) all0 (by decide) (Nat.le_of_ble_eq_true rfl) (by decide) (by decide) (fun v1 T1 h1 S1 X1 q1 sS1 sz1 => ?_)
    obtain ⟨rfl, rfl⟩ := q1
    show Go _ _ _ _ (T1.setTop (mkF m 4 #[r_ x, i_ (Int32.ofNat i)] [(.int (if (0 : Int32) = 0 then 1 else 0))]))
    rw [show (if (0 : Int32) = 0 then (1 : Int32) else 0) = (1 : Int32) from by decide]
    show Go _ _ _ _ (T1.setTop (mkF m 4 #[r_ x, i_ (Int32.ofNat i)] [(.int 1)]))
    refine br0 X1 hby d_jdk_42_method_56_code_4 (pc1 := 16) (by decide) (fun hc => absurd (eqT hc) (by decide)) (fun hc => ?_)
    refine blk X1 hby b80 (pc' := 8) (Ls' := #[r_ x, i_ (Int32.ofNat i)]) (st' := [(.ref x)]) rfl ?_
    refine gGetF X1 hby (hw _ (List.mem_of_getElem? (i := 28) rfl)) Via.refl hV d_jdk_42_method_56_code_8 (fun T2 X2 => ?_)
    refine blk X2 hby b81 (pc' := 12) (Ls' := #[r_ x, i_ (Int32.ofNat i)]) (st' := [(.int (Int32.ofNat i)), (.ref b)]) rfl ?_
    refine gStatic X2 hby (argsL := [(.ref b), (.int (Int32.ofNat i))]) (st := []) (ct_l1c hw hEL X2.old hFM hfm VB hi hR hl) (hw _ (List.mem_of_getElem? (i := 80) rfl)) (hw _ (List.mem_of_getElem? (i := 81) rfl)) (hw _ (List.mem_of_getElem? (i := 82) rfl)) (hw _ (List.mem_of_getElem? (i := 83) rfl)) pd___BI_C rfl d_jdk_42_method_56_code_12 rfl (by rw [hml]; rfl) all0 (by decide) (Nat.le_of_ble_eq_true rfl) (by decide) (by decide) (fun v3 T3 h3 S3 X3 q3 sS3 sz3 => ?_)
    obtain ⟨rfl, rfl⟩ := q3
    show Go _ _ _ _ (T3.setTop (mkF m 15 #[r_ x, i_ (Int32.ofNat i)] [(.int (cs.getD i 0))]))
    exact retI' X3 hby hret d_jdk_42_method_56_code_15 (narC (hR _ (getD_mem hi))) (fun S' hS' => ⟨rfl, rfl⟩)
  · skip
    show Go _ _ _ _ (s₁.setTop (mkF m 1 #[r_ x, i_ (Int32.ofNat i)] [(.ref x)]))
    refine gVirt X0 hby (argsL := []) (st := []) (ct_isL hw hEL X0.old U FC) hE (hw _ (List.mem_of_getElem? (i := 75) rfl)) (hw _ (List.mem_of_getElem? (i := 76) rfl)) (hw _ (List.mem_of_getElem? (i := 78) rfl)) (hw _ (List.mem_of_getElem? (i := 77) rfl)) (hw _ (List.mem_of_getElem? (i := 11) rfl)) (hw _ (List.mem_of_getElem? (i := 79) rfl)) pd___Z rfl d_jdk_42_method_56_code_1 rfl (by rw [hml]; rfl) all0 (by decide) (Nat.le_of_ble_eq_true rfl) (by decide) (by decide) (fun v1 T1 h1 S1 X1 q1 sS1 sz1 => ?_)
    obtain ⟨rfl, rfl⟩ := q1
    show Go _ _ _ _ (T1.setTop (mkF m 4 #[r_ x, i_ (Int32.ofNat i)] [(.int (if (1 : Int32) = 0 then 1 else 0))]))
    rw [show (if (1 : Int32) = 0 then (1 : Int32) else 0) = (0 : Int32) from by decide]
    show Go _ _ _ _ (T1.setTop (mkF m 4 #[r_ x, i_ (Int32.ofNat i)] [(.int 0)]))
    refine br0 X1 hby d_jdk_42_method_56_code_4 (pc1 := 16) (by decide) (fun hc => ?_) (fun hc => absurd (eqF hc) (fun q => q rfl))
    refine blk X1 hby b82 (pc' := 17) (Ls' := #[r_ x, i_ (Int32.ofNat i)]) (st' := [(.ref x)]) rfl ?_
    refine gGetF X1 hby (hw _ (List.mem_of_getElem? (i := 28) rfl)) Via.refl hV d_jdk_42_method_56_code_17 (fun T2 X2 => ?_)
    refine blk X2 hby b83 (pc' := 21) (Ls' := #[r_ x, i_ (Int32.ofNat i)]) (st' := [(.int (Int32.ofNat i)), (.ref b)]) rfl ?_
    refine gStatic X2 hby (argsL := [(.ref b), (.int (Int32.ofNat i))]) (st := []) (ct_uca hw hEL X2.old U hFM hfm VB hi hR) (hw _ (List.mem_of_getElem? (i := 141) rfl)) (hw _ (List.mem_of_getElem? (i := 142) rfl)) (hw _ (List.mem_of_getElem? (i := 62) rfl)) (hw _ (List.mem_of_getElem? (i := 143) rfl)) pd___BI_C rfl d_jdk_42_method_56_code_21 rfl (by rw [hml]; rfl) all0 (by decide) (Nat.le_of_ble_eq_true rfl) (by decide) (by decide) (fun v3 T3 h3 S3 X3 q3 sS3 sz3 => ?_)
    obtain ⟨rfl, rfl⟩ := q3
    show Go _ _ _ _ (T3.setTop (mkF m 24 #[r_ x, i_ (Int32.ofNat i)] [(.int (cs.getD i 0))]))
    exact retI' X3 hby hret d_jdk_42_method_56_code_24 (narC (hR _ (getD_mem hi))) (fun S' hS' => ⟨rfl, rfl⟩)
theorem ef_jdk_41_method_12_code_n (m : MethodId) (x0 : Int32) (x1 : Int32) (x2 : Int32) : entryFrame m #[(.int x0), (.int x1), (.int x2), .null] 4 = mkF m 0 #[i_ x0, i_ x1, i_ x2, .val .null] [] := by first | (simp [entryFrame, mkF, argsToLocals, Value.category]; done) | rfl
theorem b84 : decs jdk_41_method_12_code 0 [.iload_n 0] = true := by decide +kernel
theorem d_jdk_41_method_12_code_1 : decode jdk_41_method_12_code 1 = .ok (.ifCond .lt 13, 3) := by decide +kernel
theorem b85 : decs jdk_41_method_12_code 4 [.iload_n 0, .iload_n 1] = true := by decide +kernel
theorem d_jdk_41_method_12_code_6 : decode jdk_41_method_12_code 6 = .ok (.if_icmp .gt 8, 3) := by decide +kernel
theorem b86 : decs jdk_41_method_12_code 9 [.iload_n 1, .iload_n 2] = true := by decide +kernel
theorem d_jdk_41_method_12_code_11 : decode jdk_41_method_12_code 11 = .ok (.if_icmp .le 11, 3) := by decide +kernel
theorem b87 : decs jdk_41_method_12_code 22 [.iload_n 0] = true := by decide +kernel
theorem d_jdk_41_method_12_code_23 : decode jdk_41_method_12_code 23 = .ok (.ireturn, 1) := by decide +kernel
set_option maxRecDepth 65536 in
set_option maxHeartbeats 40000000 in
theorem ct_pft_n {h0 : Heap} {i j n : Int32} (hw : ∀ d ∈ tables_1, d.before a0 Z = true) (hEL : EW Z a0 EL) (hO : Old Z Z.heap.size h0) (g1 : ¬ i < 0) (g2 : ¬ j < i) (g3 : ¬ n < j) :
    Ct true false Z EL l (⟨"jdk/internal/util/Preconditions", "checkFromToIndex", "(IIILjava/util/function/BiFunction;)I"⟩ : MethodName) jdk_41_method_12_code 4 (some .int) ({ frames := 0, cells := 0, slots := 0, locals := 0 } : Room) #[(.int i), (.int j), (.int n), .null] h0 [] (QI h0 i) := by
  refine ctOf (plainFor_of_name pn_jdk_internal_util_Preconditions) hO hEL ?_
  intro p e s m below meth c s₁ S0 X0 hby hml hret hnm hsf
  refine Go.entry (ef_jdk_41_method_12_code_n m i j n) ?_
  show Go _ _ _ _ (s₁.setTop (mkF m 0 #[i_ i, i_ j, i_ n, .val .null] []))
  refine blk X0 hby b84 (pc' := 1) (Ls' := #[i_ i, i_ j, i_ n, .val .null]) (st' := [(.int i)]) rfl ?_
  refine br0 X0 hby d_jdk_41_method_12_code_1 (pc1 := 14) (by decide) (fun hc => absurd (ltT hc) (g1)) (fun hc => ?_)
  refine blk X0 hby b85 (pc' := 6) (Ls' := #[i_ i, i_ j, i_ n, .val .null]) (st' := [(.int j), (.int i)]) rfl ?_
  refine brI X0 hby d_jdk_41_method_12_code_6 (pc1 := 14) (by decide) (fun hd => absurd (gtT hd) (g2)) (fun hd => ?_)
  refine blk X0 hby b86 (pc' := 11) (Ls' := #[i_ i, i_ j, i_ n, .val .null]) (st' := [(.int n), (.int j)]) rfl ?_
  refine brI X0 hby d_jdk_41_method_12_code_11 (pc1 := 22) (by decide) (fun he => ?_) (fun he => absurd (leF he) (g3))
  refine blk X0 hby b87 (pc' := 23) (Ls' := #[i_ i, i_ j, i_ n, .val .null]) (st' := [(.int i)]) rfl ?_
  exact retI' X0 hby hret d_jdk_41_method_12_code_23 rfl (fun S' hS' => ⟨rfl, rfl⟩)
theorem ef_jdk_41_method_13_code_n (m : MethodId) (x0 : Int32) (x1 : Int32) (x2 : Int32) : entryFrame m #[(.int x0), (.int x1), (.int x2), .null] 4 = mkF m 0 #[i_ x0, i_ x1, i_ x2, .val .null] [] := by first | (simp [entryFrame, mkF, argsToLocals, Value.category]; done) | rfl
theorem b88 : decs jdk_41_method_13_code 0 [.iload_n 2, .iload_n 0, .ior, .iload_n 1, .ior] = true := by decide +kernel
theorem d_jdk_41_method_13_code_5 : decode jdk_41_method_13_code 5 = .ok (.ifCond .lt 10, 3) := by decide +kernel
theorem b89 : decs jdk_41_method_13_code 8 [.iload_n 1, .iload_n 2, .iload_n 0, .isub] = true := by decide +kernel
theorem d_jdk_41_method_13_code_12 : decode jdk_41_method_13_code 12 = .ok (.if_icmp .le 11, 3) := by decide +kernel
theorem b90 : decs jdk_41_method_13_code 23 [.iload_n 0] = true := by decide +kernel
theorem d_jdk_41_method_13_code_24 : decode jdk_41_method_13_code 24 = .ok (.ireturn, 1) := by decide +kernel
set_option maxRecDepth 65536 in
set_option maxHeartbeats 40000000 in
theorem ct_pfs_n {h0 : Heap} {o k n : Nat} (hw : ∀ d ∈ tables_1, d.before a0 Z = true) (hEL : EW Z a0 EL) (hO : Old Z Z.heap.size h0) (g1 : o + k ≤ n) (g2 : n < 2147483648) :
    Ct true false Z EL l (⟨"jdk/internal/util/Preconditions", "checkFromIndexSize", "(IIILjava/util/function/BiFunction;)I"⟩ : MethodName) jdk_41_method_13_code 4 (some .int) ({ frames := 0, cells := 0, slots := 0, locals := 0 } : Room) #[(.int (Int32.ofNat o)), (.int (Int32.ofNat k)), (.int (Int32.ofNat n)), .null] h0 [] (QI h0 (Int32.ofNat o)) := by
  refine ctOf (plainFor_of_name pn_jdk_internal_util_Preconditions) hO hEL ?_
  intro p e s m below meth c s₁ S0 X0 hby hml hret hnm hsf
  refine Go.entry (ef_jdk_41_method_13_code_n m (Int32.ofNat o) (Int32.ofNat k) (Int32.ofNat n)) ?_
  show Go _ _ _ _ (s₁.setTop (mkF m 0 #[i_ (Int32.ofNat o), i_ (Int32.ofNat k), i_ (Int32.ofNat n), .val .null] []))
  refine blk X0 hby b88 (pc' := 5) (Ls' := #[i_ (Int32.ofNat o), i_ (Int32.ofNat k), i_ (Int32.ofNat n), .val .null]) (st' := [(.int (((Int32.ofNat n) ||| (Int32.ofNat o)) ||| (Int32.ofNat k)))]) rfl ?_
  refine br0 X0 hby d_jdk_41_method_13_code_5 (pc1 := 15) (by decide) (fun hc => absurd (ltT hc) (or_nn (or_nn (nn32 (by omega)) (nn32 (by omega))) (nn32 (by omega)))) (fun hc => ?_)
  refine blk X0 hby b89 (pc' := 12) (Ls' := #[i_ (Int32.ofNat o), i_ (Int32.ofNat k), i_ (Int32.ofNat n), .val .null]) (st' := [(.int ((Int32.ofNat n) - (Int32.ofNat o))), (.int (Int32.ofNat k))]) rfl ?_
  refine brI X0 hby d_jdk_41_method_13_code_12 (pc1 := 23) (by decide) (fun hd => ?_) (fun hd => absurd (leF hd) (by rw [sub32 (by omega) g2, lt32 (by omega) (by omega)]; omega))
  refine blk X0 hby b90 (pc' := 24) (Ls' := #[i_ (Int32.ofNat o), i_ (Int32.ofNat k), i_ (Int32.ofNat n), .val .null]) (st' := [(.int (Int32.ofNat o))]) rfl ?_
  exact retI' X0 hby hret d_jdk_41_method_13_code_24 rfl (fun S' hS' => ⟨rfl, rfl⟩)
theorem ef_jdk_41_method_12_code_r (m : MethodId) (x0 : Int32) (x1 : Int32) (x2 : Int32) (x3 : Addr) : entryFrame m #[(.int x0), (.int x1), (.int x2), (.ref x3)] 4 = mkF m 0 #[i_ x0, i_ x1, i_ x2, r_ x3] [] := by first | (simp [entryFrame, mkF, argsToLocals, Value.category]; done) | rfl
theorem b91 : decs jdk_41_method_12_code 0 [.iload_n 0] = true := by decide +kernel
theorem b92 : decs jdk_41_method_12_code 4 [.iload_n 0, .iload_n 1] = true := by decide +kernel
theorem b93 : decs jdk_41_method_12_code 9 [.iload_n 1, .iload_n 2] = true := by decide +kernel
theorem b94 : decs jdk_41_method_12_code 22 [.iload_n 0] = true := by decide +kernel
set_option maxRecDepth 65536 in
set_option maxHeartbeats 40000000 in
theorem ct_pft_r {h0 : Heap} {i j n : Int32} {fa : Addr} (hw : ∀ d ∈ tables_1, d.before a0 Z = true) (hEL : EW Z a0 EL) (hO : Old Z Z.heap.size h0) (g1 : ¬ i < 0) (g2 : ¬ j < i) (g3 : ¬ n < j) :
    Ct true false Z EL l (⟨"jdk/internal/util/Preconditions", "checkFromToIndex", "(IIILjava/util/function/BiFunction;)I"⟩ : MethodName) jdk_41_method_12_code 4 (some .int) ({ frames := 0, cells := 0, slots := 0, locals := 0 } : Room) #[(.int i), (.int j), (.int n), (.ref fa)] h0 [] (QI h0 i) := by
  refine ctOf (plainFor_of_name pn_jdk_internal_util_Preconditions) hO hEL ?_
  intro p e s m below meth c s₁ S0 X0 hby hml hret hnm hsf
  refine Go.entry (ef_jdk_41_method_12_code_r m i j n fa) ?_
  show Go _ _ _ _ (s₁.setTop (mkF m 0 #[i_ i, i_ j, i_ n, r_ fa] []))
  refine blk X0 hby b91 (pc' := 1) (Ls' := #[i_ i, i_ j, i_ n, r_ fa]) (st' := [(.int i)]) rfl ?_
  refine br0 X0 hby d_jdk_41_method_12_code_1 (pc1 := 14) (by decide) (fun hc => absurd (ltT hc) (g1)) (fun hc => ?_)
  refine blk X0 hby b92 (pc' := 6) (Ls' := #[i_ i, i_ j, i_ n, r_ fa]) (st' := [(.int j), (.int i)]) rfl ?_
  refine brI X0 hby d_jdk_41_method_12_code_6 (pc1 := 14) (by decide) (fun hd => absurd (gtT hd) (g2)) (fun hd => ?_)
  refine blk X0 hby b93 (pc' := 11) (Ls' := #[i_ i, i_ j, i_ n, r_ fa]) (st' := [(.int n), (.int j)]) rfl ?_
  refine brI X0 hby d_jdk_41_method_12_code_11 (pc1 := 22) (by decide) (fun he => ?_) (fun he => absurd (leF he) (g3))
  refine blk X0 hby b94 (pc' := 23) (Ls' := #[i_ i, i_ j, i_ n, r_ fa]) (st' := [(.int i)]) rfl ?_
  exact retI' X0 hby hret d_jdk_41_method_12_code_23 rfl (fun S' hS' => ⟨rfl, rfl⟩)
theorem ef_jdk_41_method_13_code_r (m : MethodId) (x0 : Int32) (x1 : Int32) (x2 : Int32) (x3 : Addr) : entryFrame m #[(.int x0), (.int x1), (.int x2), (.ref x3)] 4 = mkF m 0 #[i_ x0, i_ x1, i_ x2, r_ x3] [] := by first | (simp [entryFrame, mkF, argsToLocals, Value.category]; done) | rfl
theorem b95 : decs jdk_41_method_13_code 0 [.iload_n 2, .iload_n 0, .ior, .iload_n 1, .ior] = true := by decide +kernel
theorem b96 : decs jdk_41_method_13_code 8 [.iload_n 1, .iload_n 2, .iload_n 0, .isub] = true := by decide +kernel
theorem b97 : decs jdk_41_method_13_code 23 [.iload_n 0] = true := by decide +kernel
set_option maxRecDepth 65536 in
set_option maxHeartbeats 40000000 in
theorem ct_pfs_r {h0 : Heap} {o k n : Nat} {fa : Addr} (hw : ∀ d ∈ tables_1, d.before a0 Z = true) (hEL : EW Z a0 EL) (hO : Old Z Z.heap.size h0) (g1 : o + k ≤ n) (g2 : n < 2147483648) :
    Ct true false Z EL l (⟨"jdk/internal/util/Preconditions", "checkFromIndexSize", "(IIILjava/util/function/BiFunction;)I"⟩ : MethodName) jdk_41_method_13_code 4 (some .int) ({ frames := 0, cells := 0, slots := 0, locals := 0 } : Room) #[(.int (Int32.ofNat o)), (.int (Int32.ofNat k)), (.int (Int32.ofNat n)), (.ref fa)] h0 [] (QI h0 (Int32.ofNat o)) := by
  refine ctOf (plainFor_of_name pn_jdk_internal_util_Preconditions) hO hEL ?_
  intro p e s m below meth c s₁ S0 X0 hby hml hret hnm hsf
  refine Go.entry (ef_jdk_41_method_13_code_r m (Int32.ofNat o) (Int32.ofNat k) (Int32.ofNat n) fa) ?_
  show Go _ _ _ _ (s₁.setTop (mkF m 0 #[i_ (Int32.ofNat o), i_ (Int32.ofNat k), i_ (Int32.ofNat n), r_ fa] []))
  refine blk X0 hby b95 (pc' := 5) (Ls' := #[i_ (Int32.ofNat o), i_ (Int32.ofNat k), i_ (Int32.ofNat n), r_ fa]) (st' := [(.int (((Int32.ofNat n) ||| (Int32.ofNat o)) ||| (Int32.ofNat k)))]) rfl ?_
  refine br0 X0 hby d_jdk_41_method_13_code_5 (pc1 := 15) (by decide) (fun hc => absurd (ltT hc) (or_nn (or_nn (nn32 (by omega)) (nn32 (by omega))) (nn32 (by omega)))) (fun hc => ?_)
  refine blk X0 hby b96 (pc' := 12) (Ls' := #[i_ (Int32.ofNat o), i_ (Int32.ofNat k), i_ (Int32.ofNat n), r_ fa]) (st' := [(.int ((Int32.ofNat n) - (Int32.ofNat o))), (.int (Int32.ofNat k))]) rfl ?_
  refine brI X0 hby d_jdk_41_method_13_code_12 (pc1 := 23) (by decide) (fun hd => ?_) (fun hd => absurd (leF hd) (by rw [sub32 (by omega) g2, lt32 (by omega) (by omega)]; omega))
  refine blk X0 hby b97 (pc' := 24) (Ls' := #[i_ (Int32.ofNat o), i_ (Int32.ofNat k), i_ (Int32.ofNat n), r_ fa]) (st' := [(.int (Int32.ofNat o))]) rfl ?_
  exact retI' X0 hby hret d_jdk_41_method_13_code_24 rfl (fun S' hS' => ⟨rfl, rfl⟩)
theorem ef_jdk_42_method_158_code (m : MethodId) (x0 : Int32) (x1 : Int32) (x2 : Int32) : entryFrame m #[(.int x0), (.int x1), (.int x2)] 3 = mkF m 0 #[i_ x0, i_ x1, i_ x2] [] := by first | (simp [entryFrame, mkF, argsToLocals, Value.category]; done) | rfl
theorem b98 : decs jdk_42_method_158_code 0 [.iload_n 0, .iload_n 1, .iload_n 2] = true := by decide +kernel
theorem d_jdk_42_method_158_code_3 : decode jdk_42_method_158_code 3 = .ok (.getstatic 1053, 3) := by decide +kernel
theorem d_jdk_42_method_158_code_6 : decode jdk_42_method_158_code 6 = .ok (.invokestatic 1062, 3) := by decide +kernel
theorem pd__IIILjava_util_function_BiFunction__I : parseMethodDescriptor "(IIILjava/util/function/BiFunction;)I" = some ⟨[.int, .int, .int, (.object "java/util/function/BiFunction")], (some .int)⟩ := by decide +kernel
theorem b99 : decs jdk_42_method_158_code 9 [.pop] = true := by decide +kernel
theorem d_jdk_42_method_158_code_10 : decode jdk_42_method_158_code 10 = .ok (.return_, 1) := by decide +kernel
theorem b100 : decs jdk_42_method_158_code 9 [.pop] = true := by decide +kernel
set_option maxRecDepth 65536 in
set_option maxHeartbeats 40000000 in
theorem ct_cbe {h0 : Heap} {i j n : Int32} {fm : Value} (hw : ∀ d ∈ tables_1, d.before a0 Z = true) (hEL : EW Z a0 EL) (hO : Old Z Z.heap.size h0) (hFM : Sta Z Z.heap "jdk/internal/util/Preconditions" "SIOOBE_FORMATTER" "Ljava/util/function/BiFunction;" fm) (hfm : fm = .null ∨ ∃ a, fm = .ref a) (g1 : ¬ i < 0) (g2 : ¬ j < i) (g3 : ¬ n < j) :
    Ct true false Z EL l (⟨"java/lang/String", "checkBoundsBeginEnd", "(III)V"⟩ : MethodName) jdk_42_method_158_code 3 none ({ frames := 1, cells := 0, slots := 0, locals := 18 } : Room) #[(.int i), (.int j), (.int n)] h0 [] (QN h0) := by
  refine ctOf (plainFor_of_name pn_java_lang_String) hO hEL ?_
  intro p e s m below meth c s₁ S0 X0 hby hml hret hnm hsf
  refine Go.entry (ef_jdk_42_method_158_code m i j n) ?_
  show Go _ _ _ _ (s₁.setTop (mkF m 0 #[i_ i, i_ j, i_ n] []))
  refine blk X0 hby b98 (pc' := 3) (Ls' := #[i_ i, i_ j, i_ n]) (st' := [(.int n), (.int j), (.int i)]) rfl ?_
  rcases hfm with rfl | ⟨fa, rfl⟩
  · skip
    show Go _ _ _ _ (s₁.setTop (mkF m 3 #[i_ i, i_ j, i_ n] [(.int n), (.int j), (.int i)]))
    refine gGetS X0 hby (hw _ (List.mem_of_getElem? (i := 54) rfl)) Via.refl hFM d_jdk_42_method_158_code_3 (fun T1 X1 => ?_)
    refine gStatic X1 hby (argsL := [(.int i), (.int j), (.int n), .null]) (st := []) (ct_pft_n hw hEL X1.old g1 g2 g3) (hw _ (List.mem_of_getElem? (i := 56) rfl)) (hw _ (List.mem_of_getElem? (i := 57) rfl)) (hw _ (List.mem_of_getElem? (i := 55) rfl)) (hw _ (List.mem_of_getElem? (i := 58) rfl)) pd__IIILjava_util_function_BiFunction__I rfl d_jdk_42_method_158_code_6 rfl (by rw [hml]; rfl) all0 (by decide) (Nat.le_of_ble_eq_true rfl) (by decide) (by decide) (fun v2 T2 h2 S2 X2 q2 sS2 sz2 => ?_)
    obtain ⟨rfl, rfl⟩ := q2
    show Go _ _ _ _ (T2.setTop (mkF m 9 #[i_ i, i_ j, i_ n] [(.int i)]))
    refine blk X2 hby b99 (pc' := 10) (Ls' := #[i_ i, i_ j, i_ n]) (st' := []) rfl ?_
    exact retV' X2 hby hret d_jdk_42_method_158_code_10 (fun S' hS' => ⟨rfl, rfl⟩)
  · skip
    show Go _ _ _ _ (s₁.setTop (mkF m 3 #[i_ i, i_ j, i_ n] [(.int n), (.int j), (.int i)]))
    refine gGetS X0 hby (hw _ (List.mem_of_getElem? (i := 54) rfl)) Via.refl hFM d_jdk_42_method_158_code_3 (fun T1 X1 => ?_)
    refine gStatic X1 hby (argsL := [(.int i), (.int j), (.int n), (.ref fa)]) (st := []) (ct_pft_r hw hEL X1.old g1 g2 g3) (hw _ (List.mem_of_getElem? (i := 56) rfl)) (hw _ (List.mem_of_getElem? (i := 57) rfl)) (hw _ (List.mem_of_getElem? (i := 55) rfl)) (hw _ (List.mem_of_getElem? (i := 58) rfl)) pd__IIILjava_util_function_BiFunction__I rfl d_jdk_42_method_158_code_6 rfl (by rw [hml]; rfl) all0 (by decide) (Nat.le_of_ble_eq_true rfl) (by decide) (by decide) (fun v2 T2 h2 S2 X2 q2 sS2 sz2 => ?_)
    obtain ⟨rfl, rfl⟩ := q2
    show Go _ _ _ _ (T2.setTop (mkF m 9 #[i_ i, i_ j, i_ n] [(.int i)]))
    refine blk X2 hby b100 (pc' := 10) (Ls' := #[i_ i, i_ j, i_ n]) (st' := []) rfl ?_
    exact retV' X2 hby hret d_jdk_42_method_158_code_10 (fun S' hS' => ⟨rfl, rfl⟩)
theorem ef_jdk_42_method_157_code (m : MethodId) (x0 : Int32) (x1 : Int32) (x2 : Int32) : entryFrame m #[(.int x0), (.int x1), (.int x2)] 3 = mkF m 0 #[i_ x0, i_ x1, i_ x2] [] := by first | (simp [entryFrame, mkF, argsToLocals, Value.category]; done) | rfl
theorem b101 : decs jdk_42_method_157_code 0 [.iload_n 0, .iload_n 1, .iload_n 2] = true := by decide +kernel
theorem d_jdk_42_method_157_code_3 : decode jdk_42_method_157_code 3 = .ok (.getstatic 1053, 3) := by decide +kernel
theorem d_jdk_42_method_157_code_6 : decode jdk_42_method_157_code 6 = .ok (.invokestatic 1065, 3) := by decide +kernel
theorem d_jdk_42_method_157_code_9 : decode jdk_42_method_157_code 9 = .ok (.ireturn, 1) := by decide +kernel
set_option maxRecDepth 65536 in
set_option maxHeartbeats 40000000 in
theorem ct_coc {h0 : Heap} {o k n : Nat} {fm : Value} (hw : ∀ d ∈ tables_1, d.before a0 Z = true) (hEL : EW Z a0 EL) (hO : Old Z Z.heap.size h0) (hFM : Sta Z Z.heap "jdk/internal/util/Preconditions" "SIOOBE_FORMATTER" "Ljava/util/function/BiFunction;" fm) (hfm : fm = .null ∨ ∃ a, fm = .ref a) (g1 : o + k ≤ n) (g2 : n < 2147483648) :
    Ct true false Z EL l (⟨"java/lang/String", "checkBoundsOffCount", "(III)I"⟩ : MethodName) jdk_42_method_157_code 3 (some .int) ({ frames := 1, cells := 0, slots := 0, locals := 18 } : Room) #[(.int (Int32.ofNat o)), (.int (Int32.ofNat k)), (.int (Int32.ofNat n))] h0 [] (QI h0 (Int32.ofNat o)) := by
  refine ctOf (plainFor_of_name pn_java_lang_String) hO hEL ?_
  intro p e s m below meth c s₁ S0 X0 hby hml hret hnm hsf
  refine Go.entry (ef_jdk_42_method_157_code m (Int32.ofNat o) (Int32.ofNat k) (Int32.ofNat n)) ?_
  show Go _ _ _ _ (s₁.setTop (mkF m 0 #[i_ (Int32.ofNat o), i_ (Int32.ofNat k), i_ (Int32.ofNat n)] []))
  refine blk X0 hby b101 (pc' := 3) (Ls' := #[i_ (Int32.ofNat o), i_ (Int32.ofNat k), i_ (Int32.ofNat n)]) (st' := [(.int (Int32.ofNat n)), (.int (Int32.ofNat k)), (.int (Int32.ofNat o))]) rfl ?_
  rcases hfm with rfl | ⟨fa, rfl⟩
  · skip
    show Go _ _ _ _ (s₁.setTop (mkF m 3 #[i_ (Int32.ofNat o), i_ (Int32.ofNat k), i_ (Int32.ofNat n)] [(.int (Int32.ofNat n)), (.int (Int32.ofNat k)), (.int (Int32.ofNat o))]))
    refine gGetS X0 hby (hw _ (List.mem_of_getElem? (i := 54) rfl)) Via.refl hFM d_jdk_42_method_157_code_3 (fun T1 X1 => ?_)
    refine gStatic X1 hby (argsL := [(.int (Int32.ofNat o)), (.int (Int32.ofNat k)), (.int (Int32.ofNat n)), .null]) (st := []) (ct_pfs_n hw hEL X1.old g1 g2) (hw _ (List.mem_of_getElem? (i := 167) rfl)) (hw _ (List.mem_of_getElem? (i := 168) rfl)) (hw _ (List.mem_of_getElem? (i := 55) rfl)) (hw _ (List.mem_of_getElem? (i := 169) rfl)) pd__IIILjava_util_function_BiFunction__I rfl d_jdk_42_method_157_code_6 rfl (by rw [hml]; rfl) all0 (by decide) (Nat.le_of_ble_eq_true rfl) (by decide) (by decide) (fun v2 T2 h2 S2 X2 q2 sS2 sz2 => ?_)
    obtain ⟨rfl, rfl⟩ := q2
    show Go _ _ _ _ (T2.setTop (mkF m 9 #[i_ (Int32.ofNat o), i_ (Int32.ofNat k), i_ (Int32.ofNat n)] [(.int (Int32.ofNat o))]))
    exact retI' X2 hby hret d_jdk_42_method_157_code_9 rfl (fun S' hS' => ⟨rfl, rfl⟩)
  · skip
    show Go _ _ _ _ (s₁.setTop (mkF m 3 #[i_ (Int32.ofNat o), i_ (Int32.ofNat k), i_ (Int32.ofNat n)] [(.int (Int32.ofNat n)), (.int (Int32.ofNat k)), (.int (Int32.ofNat o))]))
    refine gGetS X0 hby (hw _ (List.mem_of_getElem? (i := 54) rfl)) Via.refl hFM d_jdk_42_method_157_code_3 (fun T1 X1 => ?_)
    refine gStatic X1 hby (argsL := [(.int (Int32.ofNat o)), (.int (Int32.ofNat k)), (.int (Int32.ofNat n)), (.ref fa)]) (st := []) (ct_pfs_r hw hEL X1.old g1 g2) (hw _ (List.mem_of_getElem? (i := 167) rfl)) (hw _ (List.mem_of_getElem? (i := 168) rfl)) (hw _ (List.mem_of_getElem? (i := 55) rfl)) (hw _ (List.mem_of_getElem? (i := 169) rfl)) pd__IIILjava_util_function_BiFunction__I rfl d_jdk_42_method_157_code_6 rfl (by rw [hml]; rfl) all0 (by decide) (Nat.le_of_ble_eq_true rfl) (by decide) (by decide) (fun v2 T2 h2 S2 X2 q2 sS2 sz2 => ?_)
    obtain ⟨rfl, rfl⟩ := q2
    show Go _ _ _ _ (T2.setTop (mkF m 9 #[i_ (Int32.ofNat o), i_ (Int32.ofNat k), i_ (Int32.ofNat n)] [(.int (Int32.ofNat o))]))
    exact retI' X2 hby hret d_jdk_42_method_157_code_9 rfl (fun S' hS' => ⟨rfl, rfl⟩)
theorem ef_jdk_52_method_94_code (m : MethodId) (x0 : Int32) (x1 : Int32) (x2 : Addr) : entryFrame m #[(.int x0), (.int x1), (.ref x2)] 3 = mkF m 0 #[i_ x0, i_ x1, r_ x2] [] := by first | (simp [entryFrame, mkF, argsToLocals, Value.category]; done) | rfl
theorem b102 : decs jdk_52_method_94_code 0 [.iload_n 0, .iload_n 1, .aload_n 2] = true := by decide +kernel
theorem d_jdk_52_method_94_code_3 : decode jdk_52_method_94_code 3 = .ok (.invokestatic 48, 3) := by decide +kernel
theorem d_jdk_52_method_94_code_6 : decode jdk_52_method_94_code 6 = .ok (.invokestatic 419, 3) := by decide +kernel
theorem pd__III_I : parseMethodDescriptor "(III)I" = some ⟨[.int, .int, .int], (some .int)⟩ := by decide +kernel
theorem b103 : decs jdk_52_method_94_code 9 [.pop] = true := by decide +kernel
theorem d_jdk_52_method_94_code_10 : decode jdk_52_method_94_code 10 = .ok (.return_, 1) := by decide +kernel
set_option maxRecDepth 65536 in
set_option maxHeartbeats 40000000 in
theorem ct_ucoc {h0 : Heap} {b : Addr} {cs : List Int32} {o k : Nat} {fm : Value} (hw : ∀ d ∈ tables_1, d.before a0 Z = true) (hEL : EW Z a0 EL) (hO : Old Z Z.heap.size h0) (hFM : Sta Z Z.heap "jdk/internal/util/Preconditions" "SIOOBE_FORMATTER" "Ljava/util/function/BiFunction;" fm) (hfm : fm = .null ∨ ∃ a, fm = .ref a) (VB : Ari Z h0 b .byte (u16 cs)) (g1 : o + k ≤ cs.length) :
    Ct true false Z EL l (⟨"java/lang/StringUTF16", "checkBoundsOffCount", "(II[B)V"⟩ : MethodName) jdk_52_method_94_code 3 none ({ frames := 2, cells := 0, slots := 0, locals := 34 } : Room) #[(.int (Int32.ofNat o)), (.int (Int32.ofNat k)), (.ref b)] h0 [] (QN h0) := by
  refine ctOf (plainFor_of_name pn_java_lang_StringUTF16) hO hEL ?_
  intro p e s m below meth c s₁ S0 X0 hby hml hret hnm hsf
  refine Go.entry (ef_jdk_52_method_94_code m (Int32.ofNat o) (Int32.ofNat k) b) ?_
  show Go _ _ _ _ (s₁.setTop (mkF m 0 #[i_ (Int32.ofNat o), i_ (Int32.ofNat k), r_ b] []))
  have hL := VB.len
  rw [u16_length] at hL
  refine blk X0 hby b102 (pc' := 3) (Ls' := #[i_ (Int32.ofNat o), i_ (Int32.ofNat k), r_ b]) (st' := [(.ref b), (.int (Int32.ofNat k)), (.int (Int32.ofNat o))]) rfl ?_
  refine gStatic X0 hby (argsL := [(.ref b)]) (st := [(.int (Int32.ofNat k)), (.int (Int32.ofNat o))]) (ct_ulen hw hEL X0.old VB) (hw _ (List.mem_of_getElem? (i := 147) rfl)) (hw _ (List.mem_of_getElem? (i := 148) rfl)) (hw _ (List.mem_of_getElem? (i := 62) rfl)) (hw _ (List.mem_of_getElem? (i := 149) rfl)) pd___B_I rfl d_jdk_52_method_94_code_3 rfl (by rw [hml]; rfl) all0 (by decide) (Nat.le_of_ble_eq_true rfl) (by decide) (by decide) (fun v1 T1 h1 S1 X1 q1 sS1 sz1 => ?_)
  obtain ⟨rfl, rfl⟩ := q1
  show Go _ _ _ _ (T1.setTop (mkF m 6 #[i_ (Int32.ofNat o), i_ (Int32.ofNat k), r_ b] [(.int (Int32.ofNat cs.length)), (.int (Int32.ofNat k)), (.int (Int32.ofNat o))]))
  refine gStatic X1 hby (argsL := [(.int (Int32.ofNat o)), (.int (Int32.ofNat k)), (.int (Int32.ofNat cs.length))]) (st := []) (ct_coc hw hEL X1.old hFM hfm g1 (by omega)) (hw _ (List.mem_of_getElem? (i := 164) rfl)) (hw _ (List.mem_of_getElem? (i := 165) rfl)) (hw _ (List.mem_of_getElem? (i := 11) rfl)) (hw _ (List.mem_of_getElem? (i := 166) rfl)) pd__III_I rfl d_jdk_52_method_94_code_6 rfl (by rw [hml]; rfl) all0 (by decide) (Nat.le_of_ble_eq_true rfl) (by decide) (by decide) (fun v2 T2 h2 S2 X2 q2 sS2 sz2 => ?_)
  obtain ⟨rfl, rfl⟩ := q2
  show Go _ _ _ _ (T2.setTop (mkF m 9 #[i_ (Int32.ofNat o), i_ (Int32.ofNat k), r_ b] [(.int (Int32.ofNat o))]))
  refine blk X2 hby b103 (pc' := 10) (Ls' := #[i_ (Int32.ofNat o), i_ (Int32.ofNat k), r_ b]) (st' := []) rfl ?_
  exact retV' X2 hby hret d_jdk_52_method_94_code_10 (fun S' hS' => ⟨rfl, rfl⟩)
theorem pf_java_lang_Mathmin_II_I : plainFor (⟨"java/lang/Math", "min", "(II)I"⟩ : MethodName) = true := by decide +kernel
theorem ef_jdk_29_method_69_code (m : MethodId) (x0 : Int32) (x1 : Int32) : entryFrame m #[(.int x0), (.int x1)] 2 = mkF m 0 #[i_ x0, i_ x1] [] := by first | (simp [entryFrame, mkF, argsToLocals, Value.category]; done) | rfl
theorem b104 : decs jdk_29_method_69_code 0 [.iload_n 0, .iload_n 1] = true := by decide +kernel
theorem d_jdk_29_method_69_code_2 : decode jdk_29_method_69_code 2 = .ok (.if_icmp .gt 7, 3) := by decide +kernel
theorem b105 : decs jdk_29_method_69_code 9 [.iload_n 1] = true := by decide +kernel
theorem d_jdk_29_method_69_code_10 : decode jdk_29_method_69_code 10 = .ok (.ireturn, 1) := by decide +kernel
theorem b106 : decs jdk_29_method_69_code 5 [.iload_n 0, .goto 4] = true := by decide +kernel
set_option maxRecDepth 65536 in
set_option maxHeartbeats 40000000 in
theorem ct_min {h0 : Heap} {x y : Int32} (hw : ∀ d ∈ tables_1, d.before a0 Z = true) (hEL : EW Z a0 EL) (hO : Old Z Z.heap.size h0)  :
    Ct true false Z EL l (⟨"java/lang/Math", "min", "(II)I"⟩ : MethodName) jdk_29_method_69_code 2 (some .int) ({ frames := 0, cells := 0, slots := 0, locals := 0 } : Room) #[(.int x), (.int y)] h0 [] (QI h0 (if y < x then y else x)) := by
  refine ctOf pf_java_lang_Mathmin_II_I hO hEL ?_
  intro p e s m below meth c s₁ S0 X0 hby hml hret hnm hsf
  refine Go.entry (ef_jdk_29_method_69_code m x y) ?_
  show Go _ _ _ _ (s₁.setTop (mkF m 0 #[i_ x, i_ y] []))
  refine blk X0 hby b104 (pc' := 2) (Ls' := #[i_ x, i_ y]) (st' := [(.int y), (.int x)]) rfl ?_
  refine brI X0 hby d_jdk_29_method_69_code_2 (pc1 := 9) (by decide) (fun hc => ?_) (fun hc => ?_)
  · replace hc := gtT hc
    refine blk X0 hby b105 (pc' := 10) (Ls' := #[i_ x, i_ y]) (st' := [(.int y)]) rfl ?_
    exact retI' X0 hby hret d_jdk_29_method_69_code_10 rfl (fun S' hS' => ⟨by rw [if_pos hc], rfl⟩)
  · replace hc := gtF hc
    refine blk X0 hby b106 (pc' := 10) (Ls' := #[i_ x, i_ y]) (st' := [(.int x)]) rfl ?_
    exact retI' X0 hby hret d_jdk_29_method_69_code_10 rfl (fun S' hS' => ⟨by rw [if_neg hc], rfl⟩)
theorem pn_java_util_Arrays : plainName "java/util/Arrays" = true := by first | (simp [plainName, overriddenIn]; done) | decide +kernel
theorem ef_jdk_65_method_131_code (m : MethodId) (x0 : Int32) (x1 : Int32) : entryFrame m #[(.int x0), (.int x1)] 2 = mkF m 0 #[i_ x0, i_ x1] [] := by first | (simp [entryFrame, mkF, argsToLocals, Value.category]; done) | rfl
theorem b107 : decs jdk_65_method_131_code 0 [.iload_n 1, .iload_n 0] = true := by decide +kernel
theorem d_jdk_65_method_131_code_2 : decode jdk_65_method_131_code 2 = .ok (.if_icmp .ge 35, 3) := by decide +kernel
theorem d_jdk_65_method_131_code_37 : decode jdk_65_method_131_code 37 = .ok (.return_, 1) := by decide +kernel
set_option maxRecDepth 65536 in
set_option maxHeartbeats 40000000 in
theorem ct_ckl {h0 : Heap} {i j : Int32} (hw : ∀ d ∈ tables_1, d.before a0 Z = true) (hEL : EW Z a0 EL) (hO : Old Z Z.heap.size h0) (g1 : ¬ j < i) :
    Ct true false Z EL l (⟨"java/util/Arrays", "checkLength", "(II)V"⟩ : MethodName) jdk_65_method_131_code 2 none ({ frames := 0, cells := 0, slots := 0, locals := 0 } : Room) #[(.int i), (.int j)] h0 [] (QN h0) := by
  refine ctOf (plainFor_of_name pn_java_util_Arrays) hO hEL ?_
  intro p e s m below meth c s₁ S0 X0 hby hml hret hnm hsf
  refine Go.entry (ef_jdk_65_method_131_code m i j) ?_
  show Go _ _ _ _ (s₁.setTop (mkF m 0 #[i_ i, i_ j] []))
  refine blk X0 hby b107 (pc' := 2) (Ls' := #[i_ i, i_ j]) (st' := [(.int i), (.int j)]) rfl ?_
  refine brI X0 hby d_jdk_65_method_131_code_2 (pc1 := 37) (by decide) (fun hc => ?_) (fun hc => absurd (geF hc) (g1))
  exact retV' X0 hby hret d_jdk_65_method_131_code_37 (fun S' hS' => ⟨rfl, rfl⟩)
theorem ef_jdk_65_method_133_code (m : MethodId) (x0 : Addr) (x1 : Int32) (x2 : Int32) : entryFrame m #[(.ref x0), (.int x1), (.int x2)] 5 = mkF m 0 #[r_ x0, i_ x1, i_ x2, u_, u_] [] := by first | (simp [entryFrame, mkF, argsToLocals, Value.category]; done) | rfl
theorem b108 : decs jdk_65_method_133_code 0 [.iload_n 1, .iload_n 2] = true := by decide +kernel
theorem d_jdk_65_method_133_code_2 : decode jdk_65_method_133_code 2 = .ok (.invokestatic 343, 3) := by decide +kernel
theorem b109 : decs jdk_65_method_133_code 5 [.iload_n 2, .iload_n 1, .isub] = true := by decide +kernel
theorem b110 : decs jdk_65_method_133_code 8 [.istore_n 3, .iload_n 3] = true := by decide +kernel
theorem d_jdk_65_method_133_code_10 : decode jdk_65_method_133_code 10 = .ok (.newarray .byte, 2) := by decide +kernel
theorem b111 : decs jdk_65_method_133_code 12 [.astore 4, .aload_n 0, .iload_n 1, .aload 4, .iconst 0, .aload_n 0] = true := by decide +kernel
theorem d_jdk_65_method_133_code_20 : decode jdk_65_method_133_code 20 = .ok (.arraylength, 1) := by decide +kernel
theorem b112 : decs jdk_65_method_133_code 21 [.iload_n 1, .isub] = true := by decide +kernel
theorem b113 : decs jdk_65_method_133_code 23 [.iload_n 3] = true := by decide +kernel
theorem d_jdk_65_method_133_code_24 : decode jdk_65_method_133_code 24 = .ok (.invokestatic 304, 3) := by decide +kernel
theorem pd__II_I : parseMethodDescriptor "(II)I" = some ⟨[.int, .int], (some .int)⟩ := by decide +kernel
theorem d_jdk_65_method_133_code_27 : decode jdk_65_method_133_code 27 = .ok (.invokestatic 150, 3) := by decide +kernel
theorem b114 : decs jdk_65_method_133_code 30 [.aload 4] = true := by decide +kernel
theorem d_jdk_65_method_133_code_32 : decode jdk_65_method_133_code 32 = .ok (.areturn, 1) := by decide +kernel
def QCR (Z : State) (h0 : Heap) (zs : List Int32) (v : Option Value) (h : Heap) (S : Addr → Prop) : Prop := v = some (.ref h0.size) ∧ Keep h0 h [] ∧ Ari Z h h0.size .byte zs ∧ S h0.size
set_option maxRecDepth 65536 in
set_option maxHeartbeats 40000000 in
theorem ct_crb {h0 : Heap} {a : Addr} {ys : List Int32} {f t : Nat} (hw : ∀ d ∈ tables_1, d.before a0 Z = true) (hEL : EW Z a0 EL) (hO : Old Z Z.heap.size h0) (VA : Ari Z h0 a .byte ys) (g1 : f ≤ t) (g2 : t ≤ ys.length) (hcap : t - f ≤ 8) :
    Ct true false Z EL l (⟨"java/util/Arrays", "copyOfRangeByte", "([BII)[B"⟩ : MethodName) jdk_65_method_133_code 5 (some (.array .byte)) ({ frames := 1, cells := 1, slots := 8, locals := 60 } : Room) #[(.ref a), (.int (Int32.ofNat f)), (.int (Int32.ofNat t))] h0 [] (QCR Z h0 ((ys.drop f).take (t - f))) := by
  refine ctOf (plainFor_of_name pn_java_util_Arrays) hO hEL ?_
  intro p e s m below meth c s₁ S0 X0 hby hml hret hnm hsf
  refine Go.entry (ef_jdk_65_method_133_code m a (Int32.ofNat f) (Int32.ofNat t)) ?_
  show Go _ _ _ _ (s₁.setTop (mkF m 0 #[r_ a, i_ (Int32.ofNat f), i_ (Int32.ofNat t), u_, u_] []))
  have hL := VA.len
  refine blk X0 hby b108 (pc' := 2) (Ls' := #[r_ a, i_ (Int32.ofNat f), i_ (Int32.ofNat t), u_, u_]) (st' := [(.int (Int32.ofNat t)), (.int (Int32.ofNat f))]) rfl ?_
  refine gStatic X0 hby (argsL := [(.int (Int32.ofNat f)), (.int (Int32.ofNat t))]) (st := []) (ct_ckl hw hEL X0.old (by rw [lt32 (by omega) (by omega)]; omega)) (hw _ (List.mem_of_getElem? (i := 104) rfl)) (hw _ (List.mem_of_getElem? (i := 105) rfl)) (hw _ (List.mem_of_getElem? (i := 99) rfl)) (hw _ (List.mem_of_getElem? (i := 106) rfl)) pd__II_V rfl d_jdk_65_method_133_code_2 rfl (by rw [hml]; rfl) all0 (by decide) (Nat.le_of_ble_eq_true rfl) (by decide) (by decide) (fun v1 T1 h1 S1 X1 q1 sS1 sz1 => ?_)
  obtain ⟨rfl, rfl⟩ := q1
  show Go _ _ _ _ (T1.setTop (mkF m 5 #[r_ a, i_ (Int32.ofNat f), i_ (Int32.ofNat t), u_, u_] []))
  refine blk X1 hby b109 (pc' := 8) (Ls' := #[r_ a, i_ (Int32.ofNat f), i_ (Int32.ofNat t), u_, u_]) (st' := [(.int ((Int32.ofNat t) - (Int32.ofNat f)))]) rfl ?_
  rw [sub32 g1 (by omega)]
  show Go _ _ _ _ (T1.setTop (mkF m 8 #[r_ a, i_ (Int32.ofNat f), i_ (Int32.ofNat t), u_, u_] [(.int (Int32.ofNat (t - f)))]))
  refine blk X1 hby b110 (pc' := 10) (Ls' := #[r_ a, i_ (Int32.ofNat f), i_ (Int32.ofNat t), i_ (Int32.ofNat (t - f)), u_]) (st' := [(.int (Int32.ofNat (t - f)))]) rfl ?_
  refine gNewA X1 hby (aty := .byte) (hw _ (List.mem_of_getElem? (i := 23) rfl)) d_jdk_65_method_133_code_10 rfl (N := (t - f)) (cap := 8) rfl hcap (by decide) (by decide) (by decide) (fun T2 h2 S2 X2 E2 V2 sS2 sn2 => ?_)
  refine blk X2 hby b111 (pc' := 20) (Ls' := #[r_ a, i_ (Int32.ofNat f), i_ (Int32.ofNat t), i_ (Int32.ofNat (t - f)), r_ (h0.size)]) (st' := [(.ref a), (.int 0), (.ref (h0.size)), (.int (Int32.ofNat f)), (.ref a)]) rfl ?_
  refine gLen X2 hby (VA.ext E2) d_jdk_65_method_133_code_20 ?_
  refine blk X2 hby b112 (pc' := 23) (Ls' := #[r_ a, i_ (Int32.ofNat f), i_ (Int32.ofNat t), i_ (Int32.ofNat (t - f)), r_ (h0.size)]) (st' := [(.int ((Int32.ofNat ys.length) - (Int32.ofNat f))), (.int 0), (.ref (h0.size)), (.int (Int32.ofNat f)), (.ref a)]) rfl ?_
  rw [sub32 (show f ≤ ys.length by omega) hL]
  show Go _ _ _ _ (T2.setTop (mkF m 23 #[r_ a, i_ (Int32.ofNat f), i_ (Int32.ofNat t), i_ (Int32.ofNat (t - f)), r_ (h0.size)] [(.int (Int32.ofNat (ys.length - f))), (.int 0), (.ref (h0.size)), (.int (Int32.ofNat f)), (.ref a)]))
  refine blk X2 hby b113 (pc' := 24) (Ls' := #[r_ a, i_ (Int32.ofNat f), i_ (Int32.ofNat t), i_ (Int32.ofNat (t - f)), r_ (h0.size)]) (st' := [(.int (Int32.ofNat (t - f))), (.int (Int32.ofNat (ys.length - f))), (.int 0), (.ref (h0.size)), (.int (Int32.ofNat f)), (.ref a)]) rfl ?_
  refine gStatic X2 hby (argsL := [(.int (Int32.ofNat (ys.length - f))), (.int (Int32.ofNat (t - f)))]) (st := [(.int 0), (.ref (h0.size)), (.int (Int32.ofNat f)), (.ref a)]) (ct_min hw hEL X2.old) (hw _ (List.mem_of_getElem? (i := 107) rfl)) (hw _ (List.mem_of_getElem? (i := 108) rfl)) (hw _ (List.mem_of_getElem? (i := 109) rfl)) (hw _ (List.mem_of_getElem? (i := 110) rfl)) pd__II_I rfl d_jdk_65_method_133_code_24 rfl (by rw [hml]; rfl) all0 (by decide) (Nat.le_of_ble_eq_true rfl) (by decide) (by decide) (fun v3 T3 h3 S3 X3 q3 sS3 sz3 => ?_)
  obtain ⟨rfl, rfl⟩ := q3
  show Go _ _ _ _ (T3.setTop (mkF m 27 #[r_ a, i_ (Int32.ofNat f), i_ (Int32.ofNat t), i_ (Int32.ofNat (t - f)), r_ (h0.size)] [(.int (if Int32.ofNat (t - f) < Int32.ofNat (ys.length - f) then Int32.ofNat (t - f) else Int32.ofNat (ys.length - f))), (.int 0), (.ref (h0.size)), (.int (Int32.ofNat f)), (.ref a)]))
  rw [min_sub g1 g2 hL]
  show Go _ _ _ _ (T3.setTop (mkF m 27 #[r_ a, i_ (Int32.ofNat f), i_ (Int32.ofNat t), i_ (Int32.ofNat (t - f)), r_ (h0.size)] [(.int (Int32.ofNat (t - f))), (.int 0), (.ref (h0.size)), (.int (Int32.ofNat f)), (.ref a)]))
  refine gCp X3 hby (hw _ (List.mem_of_getElem? (i := 111) rfl)) (hw _ (List.mem_of_getElem? (i := 114) rfl)) (hw _ (List.mem_of_getElem? (i := 112) rfl)) (hw _ (List.mem_of_getElem? (i := 113) rfl)) (dp := 0) (VA.ext E2) V2 rfl rfl rfl rfl (show f + (t - f) ≤ ys.length by omega) (show 0 + (t - f) ≤ _ by simp) hO.2.1 (sS3 _ V2.lt sn2) (by rw [hml]; rfl) d_jdk_65_method_133_code_27 (by decide) (Nat.le_of_ble_eq_true rfl) (fun T4 h4 S4 X4 K4 V4 sS4 => ?_)
  rw [cp_whole (by omega) (by simp)] at V4
  refine blk X4 hby b114 (pc' := 32) (Ls' := #[r_ a, i_ (Int32.ofNat f), i_ (Int32.ofNat t), i_ (Int32.ofNat (t - f)), r_ (h0.size)]) (st' := [(.ref (h0.size))]) rfl ?_
  exact retA' X4 hby hret d_jdk_65_method_133_code_32 rfl (fun S' hS' => ⟨rfl, ((Keep.refl h0 []).ext E2).trans K4 (fun x hx => Or.inr (by cases List.mem_singleton.mp hx; exact Nat.le_refl _)), V4, hS' _ (sS4 _ (sS3 _ V2.lt sn2))⟩)
theorem ef_jdk_65_method_132_code (m : MethodId) (x0 : Addr) (x1 : Int32) (x2 : Int32) : entryFrame m #[(.ref x0), (.int x1), (.int x2)] 3 = mkF m 0 #[r_ x0, i_ x1, i_ x2] [] := by first | (simp [entryFrame, mkF, argsToLocals, Value.category]; done) | rfl
theorem b115 : decs jdk_65_method_132_code 0 [.iload_n 1] = true := by decide +kernel
theorem d_jdk_65_method_132_code_1 : decode jdk_65_method_132_code 1 = .ok (.ifCond .ne 9, 3) := by decide +kernel
theorem b116 : decs jdk_65_method_132_code 10 [.aload_n 0, .iload_n 1, .iload_n 2] = true := by decide +kernel
theorem d_jdk_65_method_132_code_13 : decode jdk_65_method_132_code 13 = .ok (.invokestatic 339, 3) := by decide +kernel
theorem pd___BII__B : parseMethodDescriptor "([BII)[B" = some ⟨[(.array .byte), .int, .int], (some (.array .byte))⟩ := by decide +kernel
theorem d_jdk_65_method_132_code_16 : decode jdk_65_method_132_code 16 = .ok (.areturn, 1) := by decide +kernel
theorem b117 : decs jdk_65_method_132_code 4 [.iload_n 2, .aload_n 0] = true := by decide +kernel
theorem d_jdk_65_method_132_code_6 : decode jdk_65_method_132_code 6 = .ok (.arraylength, 1) := by decide +kernel
theorem d_jdk_65_method_132_code_7 : decode jdk_65_method_132_code 7 = .ok (.if_icmp .eq 10, 3) := by decide +kernel
theorem b118 : decs jdk_65_method_132_code 10 [.aload_n 0, .iload_n 1, .iload_n 2] = true := by decide +kernel
set_option maxRecDepth 65536 in
set_option maxHeartbeats 40000000 in
theorem ct_cr {h0 : Heap} {a : Addr} {ys : List Int32} {f t : Nat} (hw : ∀ d ∈ tables_1, d.before a0 Z = true) (hEL : EW Z a0 EL) (hO : Old Z Z.heap.size h0) (VA : Ari Z h0 a .byte ys) (g1 : f ≤ t) (g2 : t ≤ ys.length) (hcap : t - f ≤ 8) (hno : ¬ (f = 0 ∧ t = ys.length)) :
    Ct true false Z EL l (⟨"java/util/Arrays", "copyOfRange", "([BII)[B"⟩ : MethodName) jdk_65_method_132_code 3 (some (.array .byte)) ({ frames := 2, cells := 1, slots := 8, locals := 78 } : Room) #[(.ref a), (.int (Int32.ofNat f)), (.int (Int32.ofNat t))] h0 [] (QCR Z h0 ((ys.drop f).take (t - f))) := by
  refine ctOf (plainFor_of_name pn_java_util_Arrays) hO hEL ?_
  intro p e s m below meth c s₁ S0 X0 hby hml hret hnm hsf
  refine Go.entry (ef_jdk_65_method_132_code m a (Int32.ofNat f) (Int32.ofNat t)) ?_
  show Go _ _ _ _ (s₁.setTop (mkF m 0 #[r_ a, i_ (Int32.ofNat f), i_ (Int32.ofNat t)] []))
  have hL := VA.len
  refine blk X0 hby b115 (pc' := 1) (Ls' := #[r_ a, i_ (Int32.ofNat f), i_ (Int32.ofNat t)]) (st' := [(.int (Int32.ofNat f))]) rfl ?_
  refine br0 X0 hby d_jdk_65_method_132_code_1 (pc1 := 10) (by decide) (fun hc => ?_) (fun hc => ?_)
  · replace hc := neT hc
    refine blk X0 hby b116 (pc' := 13) (Ls' := #[r_ a, i_ (Int32.ofNat f), i_ (Int32.ofNat t)]) (st' := [(.int (Int32.ofNat t)), (.int (Int32.ofNat f)), (.ref a)]) rfl ?_
    refine gStatic X0 hby (argsL := [(.ref a), (.int (Int32.ofNat f)), (.int (Int32.ofNat t))]) (st := []) (ct_crb hw hEL X0.old VA g1 g2 hcap) (hw _ (List.mem_of_getElem? (i := 101) rfl)) (hw _ (List.mem_of_getElem? (i := 102) rfl)) (hw _ (List.mem_of_getElem? (i := 99) rfl)) (hw _ (List.mem_of_getElem? (i := 103) rfl)) pd___BII__B rfl d_jdk_65_method_132_code_13 rfl (by rw [hml]; rfl) all0 (by decide) (Nat.le_of_ble_eq_true rfl) (by decide) (by decide) (fun v1 T1 h1 S1 X1 q1 sS1 sz1 => ?_)
    obtain ⟨rfl, r1, r2, r3⟩ := q1
    show Go _ _ _ _ (T1.setTop (mkF m 16 #[r_ a, i_ (Int32.ofNat f), i_ (Int32.ofNat t)] [(.ref (h0.size))]))
    exact retA' X1 hby hret d_jdk_65_method_132_code_16 rfl (fun S' hS' => ⟨rfl, r1, r2, hS' _ r3⟩)
  · replace hc := neF hc
    have hf0 : f = 0 := (eq32 (j := 0) (by omega) (by omega)).mp hc
    refine blk X0 hby b117 (pc' := 6) (Ls' := #[r_ a, i_ (Int32.ofNat f), i_ (Int32.ofNat t)]) (st' := [(.ref a), (.int (Int32.ofNat t))]) rfl ?_
    refine gLen X0 hby VA d_jdk_65_method_132_code_6 ?_
    refine brI X0 hby d_jdk_65_method_132_code_7 (pc1 := 17) (by decide) (fun hd => absurd (eqT hd) (fun q => hno ⟨hf0, (eq32 (by omega) hL).mp q⟩)) (fun hd => ?_)
    refine blk X0 hby b118 (pc' := 13) (Ls' := #[r_ a, i_ (Int32.ofNat f), i_ (Int32.ofNat t)]) (st' := [(.int (Int32.ofNat t)), (.int (Int32.ofNat f)), (.ref a)]) rfl ?_
    refine gStatic X0 hby (argsL := [(.ref a), (.int (Int32.ofNat f)), (.int (Int32.ofNat t))]) (st := []) (ct_crb hw hEL X0.old VA g1 g2 hcap) (hw _ (List.mem_of_getElem? (i := 101) rfl)) (hw _ (List.mem_of_getElem? (i := 102) rfl)) (hw _ (List.mem_of_getElem? (i := 99) rfl)) (hw _ (List.mem_of_getElem? (i := 103) rfl)) pd___BII__B rfl d_jdk_65_method_132_code_13 rfl (by rw [hml]; rfl) all0 (by decide) (Nat.le_of_ble_eq_true rfl) (by decide) (by decide) (fun v1 T1 h1 S1 X1 q1 sS1 sz1 => ?_)
    obtain ⟨rfl, r1, r2, r3⟩ := q1
    show Go _ _ _ _ (T1.setTop (mkF m 16 #[r_ a, i_ (Int32.ofNat f), i_ (Int32.ofNat t)] [(.ref (h0.size))]))
    exact retA' X1 hby hret d_jdk_65_method_132_code_16 rfl (fun S' hS' => ⟨rfl, r1, r2, hS' _ r3⟩)
theorem ef_jdk_42_method_151_code (m : MethodId) (x0 : Addr) (x1 : Addr) (x2 : Int32) : entryFrame m #[(.ref x0), (.ref x1), (.int x2)] 3 = mkF m 0 #[r_ x0, r_ x1, i_ x2] [] := by first | (simp [entryFrame, mkF, argsToLocals, Value.category]; done) | rfl
theorem b119 : decs jdk_42_method_151_code 0 [.aload_n 0] = true := by decide +kernel
theorem d_jdk_42_method_151_code_1 : decode jdk_42_method_151_code 1 = .ok (.invokespecial 1, 3) := by decide +kernel
theorem b120 : decs jdk_42_method_151_code 4 [.aload_n 0, .aload_n 1] = true := by decide +kernel
theorem d_jdk_42_method_151_code_6 : decode jdk_42_method_151_code 6 = .ok (.putfield 9, 3) := by decide +kernel
theorem b121 : decs jdk_42_method_151_code 9 [.aload_n 0, .iload_n 2] = true := by decide +kernel
theorem d_jdk_42_method_151_code_11 : decode jdk_42_method_151_code 11 = .ok (.putfield 15, 3) := by decide +kernel
theorem d_jdk_42_method_151_code_14 : decode jdk_42_method_151_code 14 = .ok (.return_, 1) := by decide +kernel
def QBB (Z : State) (h0 : Heap) (x b : Addr) (k : Int32) (v : Option Value) (h : Heap) (S : Addr → Prop) : Prop := v = none ∧ Keep h0 h [x] ∧ Exa Z h x "java/lang/String" ∧ Fld Z h x "java/lang/String" "value" "[B" (.ref b) ∧ Fld Z h x "java/lang/String" "coder" "B" (.int k)
set_option maxRecDepth 65536 in
set_option maxHeartbeats 40000000 in
theorem ct_ibb {h0 : Heap} {x b : Addr} {k : Int32} {v0 c0 : Value} (hw : ∀ d ∈ tables_1, d.before a0 Z = true) (hEL : EW Z a0 EL) (hO : Old Z Z.heap.size h0) (E : Exa Z h0 x "java/lang/String") (FV : Fld Z h0 x "java/lang/String" "value" "[B" v0) (FC : Fld Z h0 x "java/lang/String" "coder" "B" c0) (gx : Z.heap.size ≤ x) (hk : k = 0 ∨ k = 1) :
    Ct true false Z EL l (⟨"java/lang/String", "<init>", "([BB)V"⟩ : MethodName) jdk_42_method_151_code 3 none ({ frames := 1, cells := 0, slots := 0, locals := 14 } : Room) #[(.ref x), (.ref b), (.int k)] h0 [x] (QBB Z h0 x b k) := by
  refine ctOf (plainFor_of_name pn_java_lang_String) hO hEL ?_
  intro p e s m below meth c s₁ S0 X0 hby hml hret hnm hsf
  refine Go.entry (ef_jdk_42_method_151_code m x b k) ?_
  show Go _ _ _ _ (s₁.setTop (mkF m 0 #[r_ x, r_ b, i_ k] []))
  have nvc : Jvm.RoadKit.slotOf Z "java/lang/String" "value" "[B" ≠ Jvm.RoadKit.slotOf Z "java/lang/String" "coder" "B" := slot_ne (t := .array .byte) (t' := .byte) (Or.inr (hw _ (List.mem_of_getElem? (i := 24) rfl))) (Or.inr (hw _ (List.mem_of_getElem? (i := 25) rfl))) (by decide) (by decide) (by decide)
  refine blk X0 hby b119 (pc' := 1) (Ls' := #[r_ x, r_ b, i_ k]) (st' := [(.ref x)]) rfl ?_
  refine gInitO X0 hby (hw _ (List.mem_of_getElem? (i := 19) rfl)) (hw _ (List.mem_of_getElem? (i := 20) rfl)) (hw _ (List.mem_of_getElem? (i := 21) rfl)) (by rw [hml]; rfl) d_jdk_42_method_151_code_1 (by decide) (Nat.le_of_ble_eq_true rfl) (fun T1 X1 => ?_)
  refine blk X1 hby b120 (pc' := 6) (Ls' := #[r_ x, r_ b, i_ k]) (st' := [(.ref b), (.ref x)]) rfl ?_
  refine gPutF X1 hby (hw _ (List.mem_of_getElem? (i := 28) rfl)) Via.refl FV E (Or.inr ⟨(hw _ (List.mem_of_getElem? (i := 24) rfl)), rfl, hnm⟩) (hw _ (List.mem_of_getElem? (i := 10) rfl)) (ty := (.array .byte)) (by decide) rfl rfl gx (hsf x (by simp)) d_jdk_42_method_151_code_6 (fun T2 h2 S2 X2 W2 sS2 => ?_)
  refine blk X2 hby b121 (pc' := 11) (Ls' := #[r_ x, r_ b, i_ k]) (st' := [(.int k), (.ref x)]) rfl ?_
  refine gPutF X2 hby (hw _ (List.mem_of_getElem? (i := 29) rfl)) Via.refl (FC.other W2 (Or.inr (Ne.symm nvc))) (E.wr W2) (Or.inr ⟨(hw _ (List.mem_of_getElem? (i := 25) rfl)), rfl, hnm⟩) (hw _ (List.mem_of_getElem? (i := 10) rfl)) (ty := .byte) (by decide) (by rcases hk with rfl | rfl <;> rfl) (by rcases hk with rfl | rfl <;> rfl) gx (sS2 x (hsf x (by simp))) d_jdk_42_method_151_code_11 (fun T3 h3 S3 X3 W3 sS3 => ?_)
  exact retV' X3 hby hret d_jdk_42_method_151_code_14 (fun S' hS' => ⟨rfl, ((Keep.refl h0 [x]).wr W2 (Or.inl (by simp))).wr W3 (Or.inl (by simp)), (E.wr W2).wr W3, (FV.same W2).other W3 (Or.inr nvc), (FC.other W2 (Or.inr (Ne.symm nvc))).same W3⟩)
theorem ef_jdk_43_method_47_code (m : MethodId) (x0 : Addr) (x1 : Int32) (x2 : Int32) : entryFrame m #[(.ref x0), (.int x1), (.int x2)] 3 = mkF m 0 #[r_ x0, i_ x1, i_ x2] [] := by first | (simp [entryFrame, mkF, argsToLocals, Value.category]; done) | rfl
theorem b122 : decs jdk_43_method_47_code 0 [.iload_n 2] = true := by decide +kernel
theorem d_jdk_43_method_47_code_1 : decode jdk_43_method_47_code 1 = .ok (.ifCond .ne 6, 3) := by decide +kernel
theorem d_jdk_43_method_47_code_7 : decode jdk_43_method_47_code 7 = .ok (.new 1, 3) := by decide +kernel
theorem b123 : decs jdk_43_method_47_code 10 [.dup, .aload_n 0, .iload_n 1, .iload_n 1, .iload_n 2, .iadd] = true := by decide +kernel
theorem d_jdk_43_method_47_code_16 : decode jdk_43_method_47_code 16 = .ok (.invokestatic 232, 3) := by decide +kernel
theorem b124 : decs jdk_43_method_47_code 19 [.iconst 0] = true := by decide +kernel
theorem d_jdk_43_method_47_code_20 : decode jdk_43_method_47_code 20 = .ok (.invokespecial 112, 3) := by decide +kernel
theorem pd___BB_V : parseMethodDescriptor "([BB)V" = some ⟨[(.array .byte), .byte], none⟩ := by decide +kernel
theorem d_jdk_43_method_47_code_23 : decode jdk_43_method_47_code 23 = .ok (.areturn, 1) := by decide +kernel
theorem d_jdk_43_method_47_code_4 : decode jdk_43_method_47_code 4 = .ok (.ldc 151, 2) := by decide +kernel
theorem d_jdk_43_method_47_code_6 : decode jdk_43_method_47_code 6 = .ok (.areturn, 1) := by decide +kernel
def QNS (Z : State) (h0 : Heap) (zs : List Int32) (v : Option Value) (h : Heap) (S : Addr → Prop) : Prop := ∃ x b, v = some (.ref x) ∧ Str Z h x b zs ∧ Keep h0 h []
set_option maxRecDepth 65536 in
set_option maxHeartbeats 40000000 in
theorem ct_nsl {h0 : Heap} {b : Addr} {cs : List Int32} {o k : Nat} (hw : ∀ d ∈ tables_1, d.before a0 Z = true) (hEL : EW Z a0 EL) (hO : Old Z Z.heap.size h0) (VB : Ari Z h0 b .byte (cs.map lo8)) (hl : ∀ c ∈ cs, ¬ 255 < c) (hR : ∀ c ∈ cs, ¬ c < 0 ∧ ¬ 65535 < c) (g1 : o + k ≤ cs.length) (hcap : k ≤ 4) (hno : ¬ (o = 0 ∧ k = cs.length)) :
    Ct true false Z EL l (⟨"java/lang/StringLatin1", "newString", "([BII)Ljava/lang/String;"⟩ : MethodName) jdk_43_method_47_code 3 (some (.object "java/lang/String")) ({ frames := 3, cells := 2, slots := 12, locals := 100 } : Room) #[(.ref b), (.int (Int32.ofNat o)), (.int (Int32.ofNat k))] h0 [] (QNS Z h0 ((cs.drop o).take k)) := by
  refine ctOf (plainFor_of_name pn_java_lang_StringLatin1) hO hEL ?_
  intro p e s m below meth c s₁ S0 X0 hby hml hret hnm hsf
  refine Go.entry (ef_jdk_43_method_47_code m b (Int32.ofNat o) (Int32.ofNat k)) ?_
  show Go _ _ _ _ (s₁.setTop (mkF m 0 #[r_ b, i_ (Int32.ofNat o), i_ (Int32.ofNat k)] []))
  have hL := VB.len
  rw [List.length_map] at hL
  refine blk X0 hby b122 (pc' := 1) (Ls' := #[r_ b, i_ (Int32.ofNat o), i_ (Int32.ofNat k)]) (st' := [(.int (Int32.ofNat k))]) rfl ?_
  refine br0 X0 hby d_jdk_43_method_47_code_1 (pc1 := 7) (by decide) (fun hc => ?_) (fun hc => ?_)
  · replace hc := neT hc
    refine gNew X0 hby (hw _ (List.mem_of_getElem? (i := 96) rfl)) (hw _ (List.mem_of_getElem? (i := 10) rfl)) (hw _ (List.mem_of_getElem? (i := 11) rfl)) d_jdk_43_method_47_code_7 (by decide) (by decide) (fun T1 h1 S1 X1 E1 A1 D1 M1 sS1 sn1 => ?_)
    refine blk X1 hby b123 (pc' := 16) (Ls' := #[r_ b, i_ (Int32.ofNat o), i_ (Int32.ofNat k)]) (st' := [(.int ((Int32.ofNat o) + (Int32.ofNat k))), (.int (Int32.ofNat o)), (.ref b), (.ref (h0.size)), (.ref (h0.size))]) rfl ?_
    rw [add32]
    show Go _ _ _ _ (T1.setTop (mkF m 16 #[r_ b, i_ (Int32.ofNat o), i_ (Int32.ofNat k)] [(.int (Int32.ofNat (o + k))), (.int (Int32.ofNat o)), (.ref b), (.ref (h0.size)), (.ref (h0.size))]))
    refine gStatic X1 hby (argsL := [(.ref b), (.int (Int32.ofNat o)), (.int (Int32.ofNat (o + k)))]) (st := [(.ref (h0.size)), (.ref (h0.size))]) (ct_cr hw hEL X1.old (VB.ext E1) (Nat.le_add_right _ _) (by rw [List.length_map]; exact g1) (by omega) (fun q => hno ⟨q.1, by have := q.2; rw [List.length_map] at this; omega⟩)) (hw _ (List.mem_of_getElem? (i := 97) rfl)) (hw _ (List.mem_of_getElem? (i := 98) rfl)) (hw _ (List.mem_of_getElem? (i := 99) rfl)) (hw _ (List.mem_of_getElem? (i := 100) rfl)) pd___BII__B rfl d_jdk_43_method_47_code_16 rfl (by rw [hml]; rfl) all0 (by decide) (Nat.le_of_ble_eq_true rfl) (by decide) (by decide) (fun v2 T2 h2 S2 X2 q2 sS2 sz2 => ?_)
    obtain ⟨rfl, r1, r2, r3⟩ := q2
    rw [Nat.add_sub_cancel_left, ← List.map_drop, ← List.map_take] at r2
    show Go _ _ _ _ (T2.setTop (mkF m 19 #[r_ b, i_ (Int32.ofNat o), i_ (Int32.ofNat k)] [(.ref (h1.size)), (.ref (h0.size)), (.ref (h0.size))]))
    refine blk X2 hby b124 (pc' := 20) (Ls' := #[r_ b, i_ (Int32.ofNat o), i_ (Int32.ofNat k)]) (st' := [(.int 0), (.ref (h1.size)), (.ref (h0.size)), (.ref (h0.size))]) rfl ?_
    refine gInit X2 hby (argsL := [(.ref (h1.size)), (.int 0)]) (st := [(.ref (h0.size))]) (ct_ibb hw hEL X2.old (A1.keep r1) ((D1 (O := "java/lang/String") (nm := "value") (d := "[B") (Or.inr (hw _ (List.mem_of_getElem? (i := 24) rfl))) (ty := .array .byte) (by decide)).keep r1 nin0) ((D1 (O := "java/lang/String") (nm := "coder") (d := "B") (Or.inr (hw _ (List.mem_of_getElem? (i := 25) rfl))) (ty := .byte) (by decide)).keep r1 nin0) hO.2.1 (Or.inl rfl)) rfl (hw _ (List.mem_of_getElem? (i := 115) rfl)) (hw _ (List.mem_of_getElem? (i := 116) rfl)) (hw _ (List.mem_of_getElem? (i := 11) rfl)) (hw _ (List.mem_of_getElem? (i := 117) rfl)) pd___BB_V rfl d_jdk_43_method_47_code_20 rfl (by rw [hml]; rfl) (allS (sS2 _ A1.lt sn1) all0) (by decide) (Nat.le_of_ble_eq_true rfl) (by decide) (by decide) (fun v3 T3 h3 S3 X3 q3 sS3 sz3 => ?_)
    obtain ⟨rfl, u1, u2, u3, u4⟩ := q3
    show Go _ _ _ _ (T3.setTop (mkF m 23 #[r_ b, i_ (Int32.ofNat o), i_ (Int32.ofNat k)] [(.ref (h0.size))]))
    have nb : h1.size ∉ [h0.size] := fun z => by rw [List.mem_singleton] at z; exact absurd A1.lt (by rw [z]; exact Nat.lt_irrefl _)
    exact retA' X3 hby hret d_jdk_43_method_47_code_23 rfl (fun S' hS' => ⟨_, _, rfl, ⟨u2, u3, fun c hc => hR c (dt_mem hc), Or.inl ⟨u4, r2.keep u1 nb, fun c hc => hl c (dt_mem hc)⟩⟩, ((((Keep.refl h0 []).ext E1).trans r1 (fun x hx => nomatch hx)).trans u1 (fun x hx => Or.inr (by cases List.mem_singleton.mp hx; exact Nat.le_refl _)))⟩)
  · replace hc := neF hc
    obtain rfl : k = 0 := (eq32 (j := 0) (by omega) (by omega)).mp hc
    show Go _ _ _ _ (s₁.setTop (mkF m 4 #[r_ b, i_ (Int32.ofNat o), i_ (Int32.ofNat 0)] []))
    refine gLdc X0 hby (hw _ (List.mem_of_getElem? (i := 174) rfl)) (fun d hd => hw d (strIn d hd)) (by decide) (xs := []) (by decide) (by decide) (by decide) d_jdk_43_method_47_code_4 (n := 0) (by decide) (by decide) (by decide) (by decide) (fun T1 h1 S1 c1 b1 X1 E1 A1 F1 G1 V1 sS1 sn1 => ?_)
    exact retA' X1 hby hret d_jdk_43_method_47_code_6 rfl (fun S' hS' => ⟨_, _, rfl, ⟨A1, G1, fun c hc => hR c (dt_mem hc), Or.inl ⟨F1, V1, fun c hc => hl c (dt_mem hc)⟩⟩, (Keep.refl h0 []).ext E1⟩)
theorem ef_jdk_52_method_22_code (m : MethodId) (x0 : Addr) (x1 : Int32) (x2 : Addr) (x3 : Int32) (x4 : Int32) : entryFrame m #[(.ref x0), (.int x1), (.ref x2), (.int x3), (.int x4)] 7 = mkF m 0 #[r_ x0, i_ x1, r_ x2, i_ x3, i_ x4, u_, u_] [] := by first | (simp [entryFrame, mkF, argsToLocals, Value.category]; done) | rfl
theorem b125 : decs jdk_52_method_22_code 0 [.iload_n 1, .iload 4, .aload_n 0] = true := by decide +kernel
theorem d_jdk_52_method_22_code_4 : decode jdk_52_method_22_code 4 = .ok (.invokestatic 173, 3) := by decide +kernel
theorem pd__II_B_V : parseMethodDescriptor "(II[B)V" = some ⟨[.int, .int, (.array .byte)], none⟩ := by decide +kernel
theorem b126 : decs jdk_52_method_22_code 7 [.iconst 0, .istore 5] = true := by decide +kernel
theorem b127 : decs jdk_52_method_22_code 10 [.iload 5, .iload 4] = true := by decide +kernel
theorem d_jdk_52_method_22_code_14 : decode jdk_52_method_22_code 14 = .ok (.if_icmp .ge 39, 3) := by decide +kernel
theorem b128 : decs jdk_52_method_22_code 53 [.iload 4] = true := by decide +kernel
theorem d_jdk_52_method_22_code_55 : decode jdk_52_method_22_code 55 = .ok (.ireturn, 1) := by decide +kernel
theorem b129 : decs jdk_52_method_22_code 10 [.iload 5, .iload 4] = true := by decide +kernel
theorem b130 : decs jdk_52_method_22_code 17 [.aload_n 0, .iload_n 1] = true := by decide +kernel
theorem d_jdk_52_method_22_code_19 : decode jdk_52_method_22_code 19 = .ok (.invokestatic 71, 3) := by decide +kernel
theorem d_jdk_52_method_22_code_22 : decode jdk_52_method_22_code 22 = .ok (.istore 6, 2) := by decide +kernel
theorem b131 : decs jdk_52_method_22_code 24 [.iload 6, .sipush 255] = true := by decide +kernel
theorem d_jdk_52_method_22_code_29 : decode jdk_52_method_22_code 29 = .ok (.if_icmp .le 6, 3) := by decide +kernel
theorem b132 : decs jdk_52_method_22_code 35 [.aload_n 2, .iload_n 3, .iload 6, .i2b] = true := by decide +kernel
theorem d_jdk_52_method_22_code_40 : decode jdk_52_method_22_code 40 = .ok (.bastore, 1) := by decide +kernel
theorem b133 : decs jdk_52_method_22_code 41 [.iinc 1 1, .iinc 3 1, .iinc 5 1, .goto (-40)] = true := by decide +kernel
theorem b134 : decs jdk_52_method_22_code 32 [.iload 5] = true := by decide +kernel
theorem d_jdk_52_method_22_code_34 : decode jdk_52_method_22_code 34 = .ok (.ireturn, 1) := by decide +kernel
set_option maxRecDepth 65536 in
set_option maxHeartbeats 40000000 in
theorem ct_cmpb {h0 : Heap} {b d : Addr} {cs zs ys : List Int32} {o k : Nat} {fm : Value} {zc : Int32} (hw : ∀ d ∈ tables_1, d.before a0 Z = true) (hEL : EW Z a0 EL) (hO : Old Z Z.heap.size h0) (U : US Z zc)(hFM : Sta Z Z.heap "jdk/internal/util/Preconditions" "SIOOBE_FORMATTER" "Ljava/util/function/BiFunction;" fm) (hfm : fm = .null ∨ ∃ a, fm = .ref a) (VB : Ari Z h0 b .byte (u16 cs)) (VD : Ari Z h0 d .byte ys) (hR : ∀ c ∈ cs, ¬ c < 0 ∧ ¬ 65535 < c) (g1 : o + k ≤ cs.length) (hz : zs = (cs.drop o).take k) (hl : ys.length = k) (hne : b ≠ d) (gd : Z.heap.size ≤ d) :
    Ct true false Z EL l (⟨"java/lang/StringUTF16", "compress", "([BI[BII)I"⟩ : MethodName) jdk_52_method_22_code 7 (some .int) ({ frames := 3, cells := 0, slots := 0, locals := 56 } : Room) #[(.ref b), (.int (Int32.ofNat o)), (.ref d), (.int 0), (.int (Int32.ofNat k))] h0 [d] (QC5 Z h0 d zs) := by
  refine ctOf (plainFor_of_name pn_java_lang_StringUTF16) hO hEL ?_
  intro p e s m below meth c s₁ S0 X0 hby hml hret hnm hsf
  refine Go.entry (ef_jdk_52_method_22_code m b (Int32.ofNat o) d (0 : Int32) (Int32.ofNat k)) ?_
  show Go _ _ _ _ (s₁.setTop (mkF m 0 #[r_ b, i_ (Int32.ofNat o), r_ d, i_ 0, i_ (Int32.ofNat k), u_, u_] []))
  have hL := VB.len
  rw [u16_length] at hL
  have hzl : zs.length = k := by rw [hz, dt_len g1]
  have hzg : ∀ j, j < k → zs.getD j 0 = cs.getD (o + j) 0 := fun j hj => by rw [hz, dt_getD hj]
  refine blk X0 hby b125 (pc' := 4) (Ls' := #[r_ b, i_ (Int32.ofNat o), r_ d, i_ 0, i_ (Int32.ofNat k), u_, u_]) (st' := [(.ref b), (.int (Int32.ofNat k)), (.int (Int32.ofNat o))]) rfl ?_
  refine gStatic X0 hby (argsL := [(.int (Int32.ofNat o)), (.int (Int32.ofNat k)), (.ref b)]) (st := []) (ct_ucoc hw hEL X0.old hFM hfm VB g1) (hw _ (List.mem_of_getElem? (i := 161) rfl)) (hw _ (List.mem_of_getElem? (i := 162) rfl)) (hw _ (List.mem_of_getElem? (i := 62) rfl)) (hw _ (List.mem_of_getElem? (i := 163) rfl)) pd__II_B_V rfl d_jdk_52_method_22_code_4 rfl (by rw [hml]; rfl) all0 (by decide) (Nat.le_of_ble_eq_true rfl) (by decide) (by decide) (fun v1 T1 h1 S1 X1 q1 sS1 sz1 => ?_)
  obtain ⟨rfl, rfl⟩ := q1
  show Go _ _ _ _ (T1.setTop (mkF m 7 #[r_ b, i_ (Int32.ofNat o), r_ d, i_ 0, i_ (Int32.ofNat k), u_, u_] []))
  refine blk X1 hby b126 (pc' := 10) (Ls' := #[r_ b, i_ (Int32.ofNat o), r_ d, i_ 0, i_ (Int32.ofNat k), i_ 0, u_]) (st' := []) rfl ?_
  have loop : ∀ (n i : Nat) (T : State) (h : Heap) (S : Addr → Prop) (ys : List Int32) (sl : Slot), n + i = k → Sd true false Z a0 EL p l e ({ frames := 3, cells := 0, slots := 0, locals := 56 } : Room) s m #[(.ref b), (.int (Int32.ofNat o)), (.ref d), (.int 0), (.int (Int32.ofNat k))] below meth c "java/lang/StringUTF16" T h S 0 0 → Ari Z h b .byte (u16 cs) → Ari Z h d .byte ys → ys.length = k → Keep h0 h [d] → S d → (∀ j, j < i → ¬ 255 < zs.getD j 0 ∧ ys.getD j 0 = lo8 (zs.getD j 0)) → One sl → Go p e below (Pst true Z EL ({ frames := 3, cells := 0, slots := 0, locals := 56 } : Room).cells ({ frames := 3, cells := 0, slots := 0, locals := 56 } : Room).slots (QC5 Z h0 d zs) s) (T.setTop (mkF m 10 #[.val (.ref b), .val (.int (Int32.ofNat (o + i))), .val (.ref d), .val (.int (Int32.ofNat i)), .val (.int (Int32.ofNat k)), .val (.int (Int32.ofNat i)), sl] [])) := by
    intro n
    induction n with
    | zero =>
      intro i T h S ys sl hn X VB VD hl K hs hy ho
      have hi31 : i < 2147483648 := by omega
      have hk31 : k < 2147483648 := by omega
      refine blk X hby b127 (pc' := 14) (Ls' := #[r_ b, i_ (Int32.ofNat (o + i)), r_ d, i_ (Int32.ofNat i), i_ (Int32.ofNat k), i_ (Int32.ofNat i), sl]) (st' := [(.int (Int32.ofNat k)), (.int (Int32.ofNat i))]) rfl ?_
      refine brI X hby d_jdk_52_method_22_code_14 (pc1 := 53) (by decide) (fun hc => ?_) (fun hc => absurd (geF hc) (by rw [lt32 hi31 hk31]; omega))
      refine blk X hby b128 (pc' := 55) (Ls' := #[r_ b, i_ (Int32.ofNat (o + i)), r_ d, i_ (Int32.ofNat i), i_ (Int32.ofNat k), i_ (Int32.ofNat i), sl]) (st' := [(.int (Int32.ofNat k))]) rfl ?_
      exact retI' X hby hret d_jdk_52_method_22_code_55 rfl (fun S' hS' => ⟨k, ys, rfl, by omega, K, VD, by omega, fun j hj => hy j (by omega), fun q => absurd q (by omega)⟩)
    | succ n ih =>
      intro i T h S ys sl hn X VB VD hl K hs hy ho
      have hi31 : i < 2147483648 := by omega
      have hk31 : k < 2147483648 := by omega
      refine blk X hby b129 (pc' := 14) (Ls' := #[r_ b, i_ (Int32.ofNat (o + i)), r_ d, i_ (Int32.ofNat i), i_ (Int32.ofNat k), i_ (Int32.ofNat i), sl]) (st' := [(.int (Int32.ofNat k)), (.int (Int32.ofNat i))]) rfl ?_
      have hil : i < k := by omega
      refine brI X hby d_jdk_52_method_22_code_14 (pc1 := 53) (by decide) (fun hc => absurd (geT hc) (fun q => q (by rw [lt32 hi31 hk31]; omega))) (fun hc => ?_)
      refine blk X hby b130 (pc' := 19) (Ls' := #[r_ b, i_ (Int32.ofNat (o + i)), r_ d, i_ (Int32.ofNat i), i_ (Int32.ofNat k), i_ (Int32.ofNat i), sl]) (st' := [(.int (Int32.ofNat (o + i))), (.ref b)]) rfl ?_
      refine gStatic X hby (argsL := [(.ref b), (.int (Int32.ofNat (o + i)))]) (st := []) (ct_get hw hEL X.old U VB (show o + i < cs.length by omega) hR) (hw _ (List.mem_of_getElem? (i := 138) rfl)) (hw _ (List.mem_of_getElem? (i := 139) rfl)) (hw _ (List.mem_of_getElem? (i := 62) rfl)) (hw _ (List.mem_of_getElem? (i := 140) rfl)) pd___BI_C rfl d_jdk_52_method_22_code_19 rfl (by rw [hml]; rfl) all0 (by decide) (Nat.le_of_ble_eq_true rfl) (by decide) (by decide) (fun v1 T1 h1 S1 X1 q1 sS1 sz1 => ?_)
      obtain ⟨rfl, rfl⟩ := q1
      show Go _ _ _ _ (T1.setTop (mkF m 22 #[r_ b, i_ (Int32.ofNat (o + i)), r_ d, i_ (Int32.ofNat i), i_ (Int32.ofNat k), i_ (Int32.ofNat i), sl] [(.int (cs.getD (o + i) 0))]))
      rw [← hzg i hil]
      show Go _ _ _ _ (T1.setTop (mkF m 22 #[r_ b, i_ (Int32.ofNat (o + i)), r_ d, i_ (Int32.ofNat i), i_ (Int32.ofNat k), i_ (Int32.ofNat i), sl] [(.int (zs.getD i 0))]))
      refine gIst X1 hby d_jdk_52_method_22_code_22 (o := sl) rfl ho ?_
      refine blk X1 hby b131 (pc' := 29) (Ls' := #[r_ b, i_ (Int32.ofNat (o + i)), r_ d, i_ (Int32.ofNat i), i_ (Int32.ofNat k), i_ (Int32.ofNat i), i_ (zs.getD i 0)]) (st' := [(.int 255), (.int (zs.getD i 0))]) rfl ?_
      refine brI X1 hby d_jdk_52_method_22_code_29 (pc1 := 35) (by decide) (fun hc2 => ?_) (fun hc2 => ?_)
      · replace hc2 := leT hc2
        refine blk X1 hby b132 (pc' := 40) (Ls' := #[r_ b, i_ (Int32.ofNat (o + i)), r_ d, i_ (Int32.ofNat i), i_ (Int32.ofNat k), i_ (Int32.ofNat i), i_ (zs.getD i 0)]) (st' := [(.int (lo8 (zs.getD i 0))), (.int (Int32.ofNat i)), (.ref d)]) rfl ?_
        refine gSt X1 hby VD (Or.inr (Or.inr ⟨rfl, rfl⟩)) d_jdk_52_method_22_code_40 (i := i) rfl (by omega) (by rw [nar_lo8]; exact fits_nar_byte _) gd (sS1 d VD.lt hs) (fun T2 h2 S2 X2 W2 V2 sS2 => ?_)
        rw [nar_lo8] at V2
        refine blk X2 hby b133 (pc' := 10) (Ls' := #[r_ b, i_ ((Int32.ofNat (o + i)) + (1 : Int32)), r_ d, i_ ((Int32.ofNat i) + (1 : Int32)), i_ (Int32.ofNat k), i_ ((Int32.ofNat i) + (1 : Int32)), i_ (zs.getD i 0)]) (st' := []) rfl ?_
        rw [succ32, succ32, Nat.add_assoc]
        refine ih (i + 1) T2 h2 S2 _ (.val (.int (zs.getD i 0))) (by omega) X2 (VB.other W2 hne) V2 (by rw [List.length_set]; exact hl) (K.wr W2 (Or.inl (by simp))) (sS2 d (sS1 d VD.lt hs)) (fun j hj => ?_) (One.val rfl)
        by_cases q : j = i
        · subst q; exact ⟨hc2, getD_set_self (by omega)⟩
        · rw [getD_set_ne (fun z => q z.symm)]; exact hy j (by omega)
      · replace hc2 := leF hc2
        refine blk X1 hby b134 (pc' := 34) (Ls' := #[r_ b, i_ (Int32.ofNat (o + i)), r_ d, i_ (Int32.ofNat i), i_ (Int32.ofNat k), i_ (Int32.ofNat i), i_ (zs.getD i 0)]) (st' := [(.int (Int32.ofNat i))]) rfl ?_
        exact retI' X1 hby hret d_jdk_52_method_22_code_34 rfl (fun S' hS' => ⟨i, ys, rfl, by omega, K, VD, by omega, hy, fun _ => hc2⟩)
  exact loop k 0 T1 h0 S1 ys .unset (by omega) X1 VB VD hl (Keep.refl _ _) (sS1 d VD.lt (hsf d (by simp))) (fun j hj => absurd hj (Nat.not_lt_zero _)) One.u
theorem ef_jdk_52_method_17_code (m : MethodId) (x0 : Addr) (x1 : Int32) (x2 : Int32) : entryFrame m #[(.ref x0), (.int x1), (.int x2)] 6 = mkF m 0 #[r_ x0, i_ x1, i_ x2, u_, u_, u_] [] := by first | (simp [entryFrame, mkF, argsToLocals, Value.category]; done) | rfl
theorem b135 : decs jdk_52_method_17_code 0 [.iload_n 2] = true := by decide +kernel
theorem d_jdk_52_method_17_code_1 : decode jdk_52_method_17_code 1 = .ok (.newarray .byte, 2) := by decide +kernel
theorem b136 : decs jdk_52_method_17_code 3 [.astore_n 3, .aload_n 0, .iload_n 1, .aload_n 3, .iconst 0, .iload_n 2] = true := by decide +kernel
theorem d_jdk_52_method_17_code_9 : decode jdk_52_method_17_code 9 = .ok (.invokestatic 123, 3) := by decide +kernel
theorem pd___BI_BII_I : parseMethodDescriptor "([BI[BII)I" = some ⟨[(.array .byte), .int, (.array .byte), .int, .int], (some .int)⟩ := by decide +kernel
theorem b137 : decs jdk_52_method_17_code 12 [.istore 4, .iload 4, .iload_n 2] = true := by decide +kernel
theorem d_jdk_52_method_17_code_17 : decode jdk_52_method_17_code 17 = .ok (.if_icmp .eq 47, 3) := by decide +kernel
theorem b138 : decs jdk_52_method_17_code 64 [.aload_n 3] = true := by decide +kernel
theorem d_jdk_52_method_17_code_65 : decode jdk_52_method_17_code 65 = .ok (.areturn, 1) := by decide +kernel
theorem b139 : decs jdk_52_method_17_code 20 [.aload_n 0, .iload_n 1, .iconst 1, .ishl, .iload_n 1, .iload_n 2, .iadd] = true := by decide +kernel
theorem d_jdk_52_method_17_code_27 : decode jdk_52_method_17_code 27 = .ok (.invokestatic 11, 3) := by decide +kernel
theorem d_jdk_52_method_17_code_30 : decode jdk_52_method_17_code 30 = .ok (.invokestatic 126, 3) := by decide +kernel
theorem b140 : decs jdk_52_method_17_code 33 [.astore 5, .aload 5, .iload 4] = true := by decide +kernel
theorem d_jdk_52_method_17_code_39 : decode jdk_52_method_17_code 39 = .ok (.invokestatic 71, 3) := by decide +kernel
theorem b141 : decs jdk_52_method_17_code 42 [.sipush 255] = true := by decide +kernel
theorem d_jdk_52_method_17_code_45 : decode jdk_52_method_17_code 45 = .ok (.if_icmp .gt 16, 3) := by decide +kernel
theorem b142 : decs jdk_52_method_17_code 61 [.aload 5] = true := by decide +kernel
theorem d_jdk_52_method_17_code_63 : decode jdk_52_method_17_code 63 = .ok (.areturn, 1) := by decide +kernel
set_option maxRecDepth 65536 in
set_option maxHeartbeats 40000000 in
theorem ct_cmp3b {h0 : Heap} {b : Addr} {cs zs : List Int32} {o k : Nat} {fm : Value} {zc : Int32} (hw : ∀ d ∈ tables_1, d.before a0 Z = true) (hEL : EW Z a0 EL) (hO : Old Z Z.heap.size h0) (U : US Z zc)(hFM : Sta Z Z.heap "jdk/internal/util/Preconditions" "SIOOBE_FORMATTER" "Ljava/util/function/BiFunction;" fm) (hfm : fm = .null ∨ ∃ a, fm = .ref a) (VB : Ari Z h0 b .byte (u16 cs)) (hR : ∀ c ∈ cs, ¬ c < 0 ∧ ¬ 65535 < c) (g1 : o + k ≤ cs.length) (hz : zs = (cs.drop o).take k) (hcap : cs.length ≤ 4) (hno : ¬ (o = 0 ∧ k = cs.length)) :
    Ct true false Z EL l (⟨"java/lang/StringUTF16", "compress", "([BII)[B"⟩ : MethodName) jdk_52_method_17_code 6 (some (.array .byte)) ({ frames := 4, cells := 2, slots := 12, locals := 100 } : Room) #[(.ref b), (.int (Int32.ofNat o)), (.int (Int32.ofNat k))] h0 [] (QC3 Z h0 zs) := by
  refine ctOf (plainFor_of_name pn_java_lang_StringUTF16) hO hEL ?_
  intro p e s m below meth c s₁ S0 X0 hby hml hret hnm hsf
  refine Go.entry (ef_jdk_52_method_17_code m b (Int32.ofNat o) (Int32.ofNat k)) ?_
  show Go _ _ _ _ (s₁.setTop (mkF m 0 #[r_ b, i_ (Int32.ofNat o), i_ (Int32.ofNat k), u_, u_, u_] []))
  have hzl : zs.length = k := by rw [hz, dt_len g1]
  have hRz : ∀ c ∈ zs, ¬ c < 0 ∧ ¬ 65535 < c := fun c hc => hR c (dt_mem (hz ▸ hc))
  refine blk X0 hby b135 (pc' := 1) (Ls' := #[r_ b, i_ (Int32.ofNat o), i_ (Int32.ofNat k), u_, u_, u_]) (st' := [(.int (Int32.ofNat k))]) rfl ?_
  refine gNewA X0 hby (aty := .byte) (hw _ (List.mem_of_getElem? (i := 23) rfl)) d_jdk_52_method_17_code_1 rfl (N := k) (cap := 4) rfl (by omega) (by decide) (by decide) (by decide) (fun T1 h1 S1 X1 E1 V1 sS1 sn1 => ?_)
  refine blk X1 hby b136 (pc' := 9) (Ls' := #[r_ b, i_ (Int32.ofNat o), i_ (Int32.ofNat k), r_ (h0.size), u_, u_]) (st' := [(.int (Int32.ofNat k)), (.int 0), (.ref (h0.size)), (.int (Int32.ofNat o)), (.ref b)]) rfl ?_
  refine gStatic X1 hby (argsL := [(.ref b), (.int (Int32.ofNat o)), (.ref (h0.size)), (.int 0), (.int (Int32.ofNat k))]) (st := []) (ct_cmpb hw hEL X1.old U hFM hfm (VB.ext E1) V1 hR g1 hz (by simp) (Nat.ne_of_lt VB.lt) hO.2.1) (hw _ (List.mem_of_getElem? (i := 158) rfl)) (hw _ (List.mem_of_getElem? (i := 159) rfl)) (hw _ (List.mem_of_getElem? (i := 62) rfl)) (hw _ (List.mem_of_getElem? (i := 160) rfl)) pd___BI_BII_I rfl d_jdk_52_method_17_code_9 rfl (by rw [hml]; rfl) (allS sn1 all0) (by decide) (Nat.le_of_ble_eq_true rfl) (by decide) (by decide) (fun v2 T2 h2 S2 X2 q2 sS2 sz2 => ?_)
  obtain ⟨i, ys, rfl, q1, q2, q3, q4, q5, q6⟩ := q2
  have K0 : Keep h0 h2 [] := ((Keep.refl h0 []).ext E1).trans q2 (fun x hx => Or.inr (by cases List.mem_singleton.mp hx; exact Nat.le_refl _))
  show Go _ _ _ _ (T2.setTop (mkF m 12 #[r_ b, i_ (Int32.ofNat o), i_ (Int32.ofNat k), r_ (h0.size), u_, u_] [(.int (Int32.ofNat i))]))
  refine blk X2 hby b137 (pc' := 17) (Ls' := #[r_ b, i_ (Int32.ofNat o), i_ (Int32.ofNat k), r_ (h0.size), i_ (Int32.ofNat i), u_]) (st' := [(.int (Int32.ofNat k)), (.int (Int32.ofNat i))]) rfl ?_
  refine brI X2 hby d_jdk_52_method_17_code_17 (pc1 := 64) (by decide) (fun hc => ?_) (fun hc => ?_)
  · replace hc := eqT hc
    have hik : i = k := (eq32 (by omega) (by omega)).mp hc
    have hys : ys = zs.map lo8 := list_of_getD (by rw [q4, List.length_map]) (fun j hj => by rw [getD_map (by omega)]; exact (q5 j (by omega)).2)
    subst hys
    refine blk X2 hby b138 (pc' := 65) (Ls' := #[r_ b, i_ (Int32.ofNat o), i_ (Int32.ofNat k), r_ (h0.size), i_ (Int32.ofNat i), u_]) (st' := [(.ref (h0.size))]) rfl ?_
    exact retA' X2 hby hret d_jdk_52_method_17_code_65 rfl (fun S' hS' => ⟨_, rfl, Nat.le_refl _, K0, hS' _ (sS2 _ V1.lt sn1), Or.inl ⟨q3, fun c hc => by obtain ⟨j, hj, e⟩ := List.mem_iff_getElem.mp hc; have := (q5 j (by omega)).1; rwa [show zs.getD j 0 = c by simp [List.getD_eq_getElem?_getD, hj, e]] at this⟩⟩)
  · replace hc := eqF hc
    have hil : i < zs.length := Nat.lt_of_le_of_ne q1 (fun z => hc (by rw [z, hzl]))
    refine blk X2 hby b139 (pc' := 27) (Ls' := #[r_ b, i_ (Int32.ofNat o), i_ (Int32.ofNat k), r_ (h0.size), i_ (Int32.ofNat i), u_]) (st' := [(.int ((Int32.ofNat o) + (Int32.ofNat k))), (.int ((Int32.ofNat o) <<< ((1 : Int32) &&& 31))), (.ref b)]) rfl ?_
    rw [shl1 (by omega), add32]
    show Go _ _ _ _ (T2.setTop (mkF m 27 #[r_ b, i_ (Int32.ofNat o), i_ (Int32.ofNat k), r_ (h0.size), i_ (Int32.ofNat i), u_] [(.int (Int32.ofNat (o + k))), (.int (Int32.ofNat (2 * o))), (.ref b)]))
    refine gStatic X2 hby (argsL := [(.int (Int32.ofNat (o + k)))]) (st := [(.int (Int32.ofNat (2 * o))), (.ref b)]) (ct_nbl hw hEL X2.old (show o + k ≤ 4 by omega)) (hw _ (List.mem_of_getElem? (i := 128) rfl)) (hw _ (List.mem_of_getElem? (i := 129) rfl)) (hw _ (List.mem_of_getElem? (i := 62) rfl)) (hw _ (List.mem_of_getElem? (i := 130) rfl)) pd__I_I rfl d_jdk_52_method_17_code_27 rfl (by rw [hml]; rfl) all0 (by decide) (Nat.le_of_ble_eq_true rfl) (by decide) (by decide) (fun v3 T3 h3 S3 X3 q3 sS3 sz3 => ?_)
    obtain ⟨rfl, rfl⟩ := q3
    show Go _ _ _ _ (T3.setTop (mkF m 30 #[r_ b, i_ (Int32.ofNat o), i_ (Int32.ofNat k), r_ (h0.size), i_ (Int32.ofNat i), u_] [(.int (Int32.ofNat (2 * (o + k)))), (.int (Int32.ofNat (2 * o))), (.ref b)]))
    refine gStatic X3 hby (argsL := [(.ref b), (.int (Int32.ofNat (2 * o))), (.int (Int32.ofNat (2 * (o + k))))]) (st := []) (ct_cr hw hEL X3.old (VB.keep K0 nin0) (show 2 * o ≤ 2 * (o + k) by omega) (by rw [u16_length]; omega) (by omega) (fun q => hno ⟨by omega, by have := q.2; rw [u16_length] at this; omega⟩)) (hw _ (List.mem_of_getElem? (i := 170) rfl)) (hw _ (List.mem_of_getElem? (i := 98) rfl)) (hw _ (List.mem_of_getElem? (i := 99) rfl)) (hw _ (List.mem_of_getElem? (i := 100) rfl)) pd___BII__B rfl d_jdk_52_method_17_code_30 rfl (by rw [hml]; rfl) all0 (by decide) (Nat.le_of_ble_eq_true rfl) (by decide) (by decide) (fun v4 T4 h4 S4 X4 q4 sS4 sz4 => ?_)
    obtain ⟨rfl, r1, r2, r3⟩ := q4
    rw [show 2 * (o + k) - 2 * o = 2 * k by omega, u16_drop_take g1, ← hz] at r2
    show Go _ _ _ _ (T4.setTop (mkF m 33 #[r_ b, i_ (Int32.ofNat o), i_ (Int32.ofNat k), r_ (h0.size), i_ (Int32.ofNat i), u_] [(.ref (h2.size))]))
    refine blk X4 hby b140 (pc' := 39) (Ls' := #[r_ b, i_ (Int32.ofNat o), i_ (Int32.ofNat k), r_ (h0.size), i_ (Int32.ofNat i), r_ (h2.size)]) (st' := [(.int (Int32.ofNat i)), (.ref (h2.size))]) rfl ?_
    refine gStatic X4 hby (argsL := [(.ref (h2.size)), (.int (Int32.ofNat i))]) (st := []) (ct_get hw hEL X4.old U r2 hil hRz) (hw _ (List.mem_of_getElem? (i := 138) rfl)) (hw _ (List.mem_of_getElem? (i := 139) rfl)) (hw _ (List.mem_of_getElem? (i := 62) rfl)) (hw _ (List.mem_of_getElem? (i := 140) rfl)) pd___BI_C rfl d_jdk_52_method_17_code_39 rfl (by rw [hml]; rfl) all0 (by decide) (Nat.le_of_ble_eq_true rfl) (by decide) (by decide) (fun v5 T5 h5 S5 X5 q5 sS5 sz5 => ?_)
    obtain ⟨rfl, rfl⟩ := q5
    show Go _ _ _ _ (T5.setTop (mkF m 42 #[r_ b, i_ (Int32.ofNat o), i_ (Int32.ofNat k), r_ (h0.size), i_ (Int32.ofNat i), r_ (h2.size)] [(.int (zs.getD i 0))]))
    refine blk X5 hby b141 (pc' := 45) (Ls' := #[r_ b, i_ (Int32.ofNat o), i_ (Int32.ofNat k), r_ (h0.size), i_ (Int32.ofNat i), r_ (h2.size)]) (st' := [(.int 255), (.int (zs.getD i 0))]) rfl ?_
    refine brI X5 hby d_jdk_52_method_17_code_45 (pc1 := 61) (by decide) (fun hd => ?_) (fun hd => absurd (gtF hd) (fun q => q (q6 hil)))
    refine blk X5 hby b142 (pc' := 63) (Ls' := #[r_ b, i_ (Int32.ofNat o), i_ (Int32.ofNat k), r_ (h0.size), i_ (Int32.ofNat i), r_ (h2.size)]) (st' := [(.ref (h2.size))]) rfl ?_
    exact retA' X5 hby hret d_jdk_52_method_17_code_63 rfl (fun S' hS' => ⟨_, rfl, K0.1, K0.trans r1 (fun x hx => nomatch hx), hS' _ (sS5 _ r2.lt r3), Or.inr ⟨r2, _, getD_mem hil, q6 hil⟩⟩)
theorem ef_jdk_52_method_69_code (m : MethodId) (x0 : Addr) (x1 : Int32) (x2 : Int32) : entryFrame m #[(.ref x0), (.int x1), (.int x2)] 5 = mkF m 0 #[r_ x0, i_ x1, i_ x2, u_, u_] [] := by first | (simp [entryFrame, mkF, argsToLocals, Value.category]; done) | rfl
theorem b143 : decs jdk_52_method_69_code 0 [.iload_n 2] = true := by decide +kernel
theorem d_jdk_52_method_69_code_1 : decode jdk_52_method_69_code 1 = .ok (.ifCond .ne 7, 3) := by decide +kernel
theorem d_jdk_52_method_69_code_8 : decode jdk_52_method_69_code 8 = .ok (.getstatic 251, 3) := by decide +kernel
theorem d_jdk_52_method_69_code_11 : decode jdk_52_method_69_code 11 = .ok (.ifCond .eq 28, 3) := by decide +kernel
theorem b144 : decs jdk_52_method_69_code 14 [.aload_n 0, .iload_n 1, .iload_n 2] = true := by decide +kernel
theorem d_jdk_52_method_69_code_17 : decode jdk_52_method_69_code 17 = .ok (.invokestatic 257, 3) := by decide +kernel
theorem b145 : decs jdk_52_method_69_code 20 [.astore_n 3, .aload_n 3, .iload_n 2] = true := by decide +kernel
theorem d_jdk_52_method_69_code_23 : decode jdk_52_method_69_code 23 = .ok (.invokestatic 259, 3) := by decide +kernel
theorem b146 : decs jdk_52_method_69_code 26 [.istore 4] = true := by decide +kernel
theorem d_jdk_52_method_69_code_28 : decode jdk_52_method_69_code 28 = .ok (.new 3, 3) := by decide +kernel
theorem b147 : decs jdk_52_method_69_code 31 [.dup, .aload_n 3, .iload 4] = true := by decide +kernel
theorem d_jdk_52_method_69_code_35 : decode jdk_52_method_69_code 35 = .ok (.invokespecial 263, 3) := by decide +kernel
theorem d_jdk_52_method_69_code_38 : decode jdk_52_method_69_code 38 = .ok (.areturn, 1) := by decide +kernel
theorem b148 : decs jdk_52_method_69_code 26 [.istore 4] = true := by decide +kernel
theorem b149 : decs jdk_52_method_69_code 31 [.dup, .aload_n 3, .iload 4] = true := by decide +kernel
theorem d_jdk_52_method_69_code_4 : decode jdk_52_method_69_code 4 = .ok (.ldc_w 295, 3) := by decide +kernel
theorem d_jdk_52_method_69_code_7 : decode jdk_52_method_69_code 7 = .ok (.areturn, 1) := by decide +kernel
set_option maxRecDepth 65536 in
set_option maxHeartbeats 40000000 in
theorem ct_nsu {h0 : Heap} {b : Addr} {cs : List Int32} {o k : Nat} {fm : Value} {zc : Int32} (hw : ∀ d ∈ tables_1, d.before a0 Z = true) (hEL : EW Z a0 EL) (hO : Old Z Z.heap.size h0) (U : US Z zc)(hFM : Sta Z Z.heap "jdk/internal/util/Preconditions" "SIOOBE_FORMATTER" "Ljava/util/function/BiFunction;" fm) (hfm : fm = .null ∨ ∃ a, fm = .ref a) (VB : Ari Z h0 b .byte (u16 cs)) (hR : ∀ c ∈ cs, ¬ c < 0 ∧ ¬ 65535 < c) (g1 : o + k ≤ cs.length) (hcap : cs.length ≤ 4) (hno : ¬ (o = 0 ∧ k = cs.length)) :
    Ct true false Z EL l (⟨"java/lang/StringUTF16", "newString", "([BII)Ljava/lang/String;"⟩ : MethodName) jdk_52_method_69_code 5 (some (.object "java/lang/String")) ({ frames := 5, cells := 3, slots := 16, locals := 120 } : Room) #[(.ref b), (.int (Int32.ofNat o)), (.int (Int32.ofNat k))] h0 [] (QNS Z h0 ((cs.drop o).take k)) := by
  refine ctOf (plainFor_of_name pn_java_lang_StringUTF16) hO hEL ?_
  intro p e s m below meth c s₁ S0 X0 hby hml hret hnm hsf
  refine Go.entry (ef_jdk_52_method_69_code m b (Int32.ofNat o) (Int32.ofNat k)) ?_
  show Go _ _ _ _ (s₁.setTop (mkF m 0 #[r_ b, i_ (Int32.ofNat o), i_ (Int32.ofNat k), u_, u_] []))
  generalize hz : (cs.drop o).take k = zs
  have hzl : zs.length = k := by rw [← hz, dt_len g1]
  have hRz : ∀ c ∈ zs, ¬ c < 0 ∧ ¬ 65535 < c := fun c hc => hR c (dt_mem (hz ▸ hc))
  refine blk X0 hby b143 (pc' := 1) (Ls' := #[r_ b, i_ (Int32.ofNat o), i_ (Int32.ofNat k), u_, u_]) (st' := [(.int (Int32.ofNat k))]) rfl ?_
  refine br0 X0 hby d_jdk_52_method_69_code_1 (pc1 := 8) (by decide) (fun hc => ?_) (fun hc => ?_)
  · replace hc := neT hc
    have hpos : 0 < zs.length := Nat.pos_of_ne_zero (fun z => hc (by rw [← hzl, z]; rfl))
    refine gGetS X0 hby (hw _ (List.mem_of_getElem? (i := 154) rfl)) Via.refl U.cs d_jdk_52_method_69_code_8 (fun T1 X1 => ?_)
    refine br0 X1 hby d_jdk_52_method_69_code_11 (pc1 := 39) (by decide) (fun hz0 => absurd (eqT hz0) (U.nz)) (fun hz0 => ?_)
    refine blk X1 hby b144 (pc' := 17) (Ls' := #[r_ b, i_ (Int32.ofNat o), i_ (Int32.ofNat k), u_, u_]) (st' := [(.int (Int32.ofNat k)), (.int (Int32.ofNat o)), (.ref b)]) rfl ?_
    refine gStatic X1 hby (argsL := [(.ref b), (.int (Int32.ofNat o)), (.int (Int32.ofNat k))]) (st := []) (ct_cmp3b hw hEL X1.old U hFM hfm VB hR g1 hz.symm hcap hno) (hw _ (List.mem_of_getElem? (i := 155) rfl)) (hw _ (List.mem_of_getElem? (i := 156) rfl)) (hw _ (List.mem_of_getElem? (i := 62) rfl)) (hw _ (List.mem_of_getElem? (i := 157) rfl)) pd___BII__B rfl d_jdk_52_method_69_code_17 rfl (by rw [hml]; rfl) all0 (by decide) (Nat.le_of_ble_eq_true rfl) (by decide) (by decide) (fun v2 T2 h2 S2 X2 q2 sS2 sz2 => ?_)
    obtain ⟨b', rfl, q0, q1, q3, q4⟩ := q2
    show Go _ _ _ _ (T2.setTop (mkF m 20 #[r_ b, i_ (Int32.ofNat o), i_ (Int32.ofNat k), u_, u_] [(.ref (b'))]))
    refine blk X2 hby b145 (pc' := 23) (Ls' := #[r_ b, i_ (Int32.ofNat o), i_ (Int32.ofNat k), r_ (b'), u_]) (st' := [(.int (Int32.ofNat k)), (.ref (b'))]) rfl ?_
    rw [← hzl]
    show Go _ _ _ _ (T2.setTop (mkF m 23 #[r_ b, i_ (Int32.ofNat o), i_ (Int32.ofNat zs.length), r_ (b'), u_] [(.int (Int32.ofNat zs.length)), (.ref (b'))]))
    rcases q4 with ⟨q2, hlat⟩ | ⟨q2, hlat⟩
    · skip
      show Go _ _ _ _ (T2.setTop (mkF m 23 #[r_ b, i_ (Int32.ofNat o), i_ (Int32.ofNat zs.length), r_ (b'), u_] [(.int (Int32.ofNat zs.length)), (.ref (b'))]))
      refine gStatic X2 hby (argsL := [(.ref (b')), (.int (Int32.ofNat zs.length))]) (st := []) (ct_cfl hw hEL X2.old q2) (hw _ (List.mem_of_getElem? (i := 171) rfl)) (hw _ (List.mem_of_getElem? (i := 68) rfl)) (hw _ (List.mem_of_getElem? (i := 62) rfl)) (hw _ (List.mem_of_getElem? (i := 69) rfl)) pd___BI_B rfl d_jdk_52_method_69_code_23 rfl (by rw [hml]; rfl) all0 (by decide) (Nat.le_of_ble_eq_true rfl) (by decide) (by decide) (fun v3 T3 h3 S3 X3 q3 sS3 sz3 => ?_)
      obtain ⟨rfl, rfl⟩ := q3
      show Go _ _ _ _ (T3.setTop (mkF m 26 #[r_ b, i_ (Int32.ofNat o), i_ (Int32.ofNat zs.length), r_ (b'), u_] [(.int (lo8 (XT.ushr (Int32.ofNat zs.length - Int32.ofNat (zs.map lo8).length) (31 : Int32))))]))
      rw [show (lo8 (XT.ushr (Int32.ofNat zs.length - Int32.ofNat (zs.map lo8).length) (31 : Int32))) = (0 : Int32) by rw [List.length_map, cfl0]]
      show Go _ _ _ _ (T3.setTop (mkF m 26 #[r_ b, i_ (Int32.ofNat o), i_ (Int32.ofNat zs.length), r_ (b'), u_] [(.int 0)]))
      refine blk X3 hby b146 (pc' := 28) (Ls' := #[r_ b, i_ (Int32.ofNat o), i_ (Int32.ofNat zs.length), r_ (b'), i_ 0]) (st' := []) rfl ?_
      refine gNew X3 hby (hw _ (List.mem_of_getElem? (i := 172) rfl)) (hw _ (List.mem_of_getElem? (i := 10) rfl)) (hw _ (List.mem_of_getElem? (i := 11) rfl)) d_jdk_52_method_69_code_28 (by decide) (by decide) (fun T4 h4 S4 X4 E4 A4 D4 M4 sS4 sn4 => ?_)
      refine blk X4 hby b147 (pc' := 35) (Ls' := #[r_ b, i_ (Int32.ofNat o), i_ (Int32.ofNat zs.length), r_ (b'), i_ 0]) (st' := [(.int 0), (.ref (b')), (.ref (h2.size)), (.ref (h2.size))]) rfl ?_
      refine gInit X4 hby (argsL := [(.ref (b')), (.int 0)]) (st := [(.ref (h2.size))]) (ct_ibb hw hEL X4.old A4 (D4 (O := "java/lang/String") (nm := "value") (d := "[B") (Or.inr (hw _ (List.mem_of_getElem? (i := 24) rfl))) (ty := .array .byte) (by decide)) (D4 (O := "java/lang/String") (nm := "coder") (d := "B") (Or.inr (hw _ (List.mem_of_getElem? (i := 25) rfl))) (ty := .byte) (by decide)) X3.old.2.1 (Or.inl rfl)) rfl (hw _ (List.mem_of_getElem? (i := 173) rfl)) (hw _ (List.mem_of_getElem? (i := 116) rfl)) (hw _ (List.mem_of_getElem? (i := 11) rfl)) (hw _ (List.mem_of_getElem? (i := 117) rfl)) pd___BB_V rfl d_jdk_52_method_69_code_35 rfl (by rw [hml]; rfl) (allS sn4 all0) (by decide) (Nat.le_of_ble_eq_true rfl) (by decide) (by decide) (fun v5 T5 h5 S5 X5 q5 sS5 sz5 => ?_)
      obtain ⟨rfl, u1, u2, u3, u4⟩ := q5
      show Go _ _ _ _ (T5.setTop (mkF m 38 #[r_ b, i_ (Int32.ofNat o), i_ (Int32.ofNat zs.length), r_ (b'), i_ 0] [(.ref (h2.size))]))
      have nb : b' ∉ [h2.size] := fun z => by rw [List.mem_singleton] at z; exact absurd q2.lt (by rw [z]; exact Nat.lt_irrefl _)
      exact retA' X5 hby hret d_jdk_52_method_69_code_38 rfl (fun S' hS' => ⟨_, _, rfl, ⟨u2, u3, hRz, Or.inl ⟨u4, (q2.ext E4).keep u1 nb, hlat⟩⟩, (q1.ext E4).trans u1 (fun x hx => Or.inr (by cases List.mem_singleton.mp hx; exact q1.1))⟩)
    · skip
      show Go _ _ _ _ (T2.setTop (mkF m 23 #[r_ b, i_ (Int32.ofNat o), i_ (Int32.ofNat zs.length), r_ (b'), u_] [(.int (Int32.ofNat zs.length)), (.ref (b'))]))
      refine gStatic X2 hby (argsL := [(.ref (b')), (.int (Int32.ofNat zs.length))]) (st := []) (ct_cfl hw hEL X2.old q2) (hw _ (List.mem_of_getElem? (i := 171) rfl)) (hw _ (List.mem_of_getElem? (i := 68) rfl)) (hw _ (List.mem_of_getElem? (i := 62) rfl)) (hw _ (List.mem_of_getElem? (i := 69) rfl)) pd___BI_B rfl d_jdk_52_method_69_code_23 rfl (by rw [hml]; rfl) all0 (by decide) (Nat.le_of_ble_eq_true rfl) (by decide) (by decide) (fun v3 T3 h3 S3 X3 q3 sS3 sz3 => ?_)
      obtain ⟨rfl, rfl⟩ := q3
      show Go _ _ _ _ (T3.setTop (mkF m 26 #[r_ b, i_ (Int32.ofNat o), i_ (Int32.ofNat zs.length), r_ (b'), u_] [(.int (lo8 (XT.ushr (Int32.ofNat zs.length - Int32.ofNat (u16 zs).length) (31 : Int32))))]))
      rw [show (lo8 (XT.ushr (Int32.ofNat zs.length - Int32.ofNat (u16 zs).length) (31 : Int32))) = (1 : Int32) by rw [u16_length, cfl1 hpos (by have := q2.len; rw [u16_length] at this; omega)]]
      show Go _ _ _ _ (T3.setTop (mkF m 26 #[r_ b, i_ (Int32.ofNat o), i_ (Int32.ofNat zs.length), r_ (b'), u_] [(.int 1)]))
      refine blk X3 hby b148 (pc' := 28) (Ls' := #[r_ b, i_ (Int32.ofNat o), i_ (Int32.ofNat zs.length), r_ (b'), i_ 1]) (st' := []) rfl ?_
      refine gNew X3 hby (hw _ (List.mem_of_getElem? (i := 172) rfl)) (hw _ (List.mem_of_getElem? (i := 10) rfl)) (hw _ (List.mem_of_getElem? (i := 11) rfl)) d_jdk_52_method_69_code_28 (by decide) (by decide) (fun T4 h4 S4 X4 E4 A4 D4 M4 sS4 sn4 => ?_)
      refine blk X4 hby b149 (pc' := 35) (Ls' := #[r_ b, i_ (Int32.ofNat o), i_ (Int32.ofNat zs.length), r_ (b'), i_ 1]) (st' := [(.int 1), (.ref (b')), (.ref (h2.size)), (.ref (h2.size))]) rfl ?_
      refine gInit X4 hby (argsL := [(.ref (b')), (.int 1)]) (st := [(.ref (h2.size))]) (ct_ibb hw hEL X4.old A4 (D4 (O := "java/lang/String") (nm := "value") (d := "[B") (Or.inr (hw _ (List.mem_of_getElem? (i := 24) rfl))) (ty := .array .byte) (by decide)) (D4 (O := "java/lang/String") (nm := "coder") (d := "B") (Or.inr (hw _ (List.mem_of_getElem? (i := 25) rfl))) (ty := .byte) (by decide)) X3.old.2.1 (Or.inr rfl)) rfl (hw _ (List.mem_of_getElem? (i := 173) rfl)) (hw _ (List.mem_of_getElem? (i := 116) rfl)) (hw _ (List.mem_of_getElem? (i := 11) rfl)) (hw _ (List.mem_of_getElem? (i := 117) rfl)) pd___BB_V rfl d_jdk_52_method_69_code_35 rfl (by rw [hml]; rfl) (allS sn4 all0) (by decide) (Nat.le_of_ble_eq_true rfl) (by decide) (by decide) (fun v5 T5 h5 S5 X5 q5 sS5 sz5 => ?_)
      obtain ⟨rfl, u1, u2, u3, u4⟩ := q5
      show Go _ _ _ _ (T5.setTop (mkF m 38 #[r_ b, i_ (Int32.ofNat o), i_ (Int32.ofNat zs.length), r_ (b'), i_ 1] [(.ref (h2.size))]))
      have nb : b' ∉ [h2.size] := fun z => by rw [List.mem_singleton] at z; exact absurd q2.lt (by rw [z]; exact Nat.lt_irrefl _)
      exact retA' X5 hby hret d_jdk_52_method_69_code_38 rfl (fun S' hS' => ⟨_, _, rfl, ⟨u2, u3, hRz, Or.inr ⟨u4, (q2.ext E4).keep u1 nb, hlat⟩⟩, (q1.ext E4).trans u1 (fun x hx => Or.inr (by cases List.mem_singleton.mp hx; exact q1.1))⟩)
  · replace hc := neF hc
    obtain rfl : k = 0 := (eq32 (j := 0) (by omega) (by omega)).mp hc
    obtain rfl : zs = [] := List.length_eq_zero_iff.mp hzl
    show Go _ _ _ _ (s₁.setTop (mkF m 4 #[r_ b, i_ (Int32.ofNat o), i_ (Int32.ofNat 0), u_, u_] []))
    refine gLdcW X0 hby (hw _ (List.mem_of_getElem? (i := 175) rfl)) (fun d hd => hw d (strIn d hd)) (by decide) (xs := []) (by decide) (by decide) (by decide) d_jdk_52_method_69_code_4 (n := 0) (by decide) (by decide) (by decide) (by decide) (fun T1 h1 S1 c1 b1 X1 E1 A1 F1 G1 V1 sS1 sn1 => ?_)
    exact retA' X1 hby hret d_jdk_52_method_69_code_7 rfl (fun S' hS' => ⟨_, _, rfl, ⟨A1, G1, hRz, Or.inl ⟨F1, V1, (fun c hc => nomatch hc)⟩⟩, (Keep.refl h0 []).ext E1⟩)
theorem ef_jdk_42_method_92_code (m : MethodId) (x0 : Addr) (x1 : Int32) (x2 : Int32) : entryFrame m #[(.ref x0), (.int x1), (.int x2)] 5 = mkF m 0 #[r_ x0, i_ x1, i_ x2, u_, u_] [] := by first | (simp [entryFrame, mkF, argsToLocals, Value.category]; done) | rfl
theorem b150 : decs jdk_42_method_92_code 0 [.aload_n 0] = true := by decide +kernel
theorem d_jdk_42_method_92_code_1 : decode jdk_42_method_92_code 1 = .ok (.invokevirtual 505, 3) := by decide +kernel
theorem pd___I : parseMethodDescriptor "()I" = some ⟨[], (some .int)⟩ := by decide +kernel
theorem b151 : decs jdk_42_method_92_code 4 [.istore_n 3, .iload_n 1, .iload_n 2, .iload_n 3] = true := by decide +kernel
theorem d_jdk_42_method_92_code_8 : decode jdk_42_method_92_code 8 = .ok (.invokestatic 521, 3) := by decide +kernel
theorem pd__III_V : parseMethodDescriptor "(III)V" = some ⟨[.int, .int, .int], none⟩ := by decide +kernel
theorem b152 : decs jdk_42_method_92_code 11 [.iload_n 1] = true := by decide +kernel
theorem d_jdk_42_method_92_code_12 : decode jdk_42_method_92_code 12 = .ok (.ifCond .ne 10, 3) := by decide +kernel
theorem b153 : decs jdk_42_method_92_code 22 [.iload_n 2, .iload_n 1, .isub] = true := by decide +kernel
theorem b154 : decs jdk_42_method_92_code 25 [.istore 4, .aload_n 0] = true := by decide +kernel
theorem d_jdk_42_method_92_code_28 : decode jdk_42_method_92_code 28 = .ok (.invokevirtual 492, 3) := by decide +kernel
theorem d_jdk_42_method_92_code_31 : decode jdk_42_method_92_code 31 = .ok (.ifCond .eq 16, 3) := by decide +kernel
theorem b155 : decs jdk_42_method_92_code 34 [.aload_n 0] = true := by decide +kernel
theorem d_jdk_42_method_92_code_35 : decode jdk_42_method_92_code 35 = .ok (.getfield 9, 3) := by decide +kernel
theorem b156 : decs jdk_42_method_92_code 38 [.iload_n 1, .iload 4] = true := by decide +kernel
theorem d_jdk_42_method_92_code_41 : decode jdk_42_method_92_code 41 = .ok (.invokestatic 685, 3) := by decide +kernel
theorem pd___BII_Ljava_lang_String_ : parseMethodDescriptor "([BII)Ljava/lang/String;" = some ⟨[(.array .byte), .int, .int], (some (.object "java/lang/String"))⟩ := by decide +kernel
theorem b157 : decs jdk_42_method_92_code 44 [.goto 13] = true := by decide +kernel
theorem d_jdk_42_method_92_code_57 : decode jdk_42_method_92_code 57 = .ok (.areturn, 1) := by decide +kernel
theorem b158 : decs jdk_42_method_92_code 47 [.aload_n 0] = true := by decide +kernel
theorem d_jdk_42_method_92_code_48 : decode jdk_42_method_92_code 48 = .ok (.getfield 9, 3) := by decide +kernel
theorem b159 : decs jdk_42_method_92_code 51 [.iload_n 1, .iload 4] = true := by decide +kernel
theorem d_jdk_42_method_92_code_54 : decode jdk_42_method_92_code 54 = .ok (.invokestatic 689, 3) := by decide +kernel
theorem b160 : decs jdk_42_method_92_code 15 [.iload_n 2, .iload_n 3] = true := by decide +kernel
theorem d_jdk_42_method_92_code_17 : decode jdk_42_method_92_code 17 = .ok (.if_icmp .ne 5, 3) := by decide +kernel
theorem b161 : decs jdk_42_method_92_code 22 [.iload_n 2, .iload_n 1, .isub] = true := by decide +kernel
theorem b162 : decs jdk_42_method_92_code 25 [.istore 4, .aload_n 0] = true := by decide +kernel
theorem b163 : decs jdk_42_method_92_code 34 [.aload_n 0] = true := by decide +kernel
theorem b164 : decs jdk_42_method_92_code 38 [.iload_n 1, .iload 4] = true := by decide +kernel
theorem b165 : decs jdk_42_method_92_code 44 [.goto 13] = true := by decide +kernel
theorem b166 : decs jdk_42_method_92_code 47 [.aload_n 0] = true := by decide +kernel
theorem b167 : decs jdk_42_method_92_code 51 [.iload_n 1, .iload 4] = true := by decide +kernel
theorem b168 : decs jdk_42_method_92_code 20 [.aload_n 0] = true := by decide +kernel
theorem d_jdk_42_method_92_code_21 : decode jdk_42_method_92_code 21 = .ok (.areturn, 1) := by decide +kernel
set_option maxRecDepth 65536 in
set_option maxHeartbeats 40000000 in
theorem ct_sub {h0 : Heap} {x b : Addr} {cs : List Int32} {i j : Nat} {fm : Value} {zc : Int32} (hw : ∀ d ∈ tables_1, d.before a0 Z = true) (hEL : EW Z a0 EL) (hO : Old Z Z.heap.size h0) (U : US Z zc)(hFM : Sta Z Z.heap "jdk/internal/util/Preconditions" "SIOOBE_FORMATTER" "Ljava/util/function/BiFunction;" fm) (hfm : fm = .null ∨ ∃ a, fm = .ref a)(F : Str Z h0 x b cs) (g1 : i ≤ j) (g2 : j ≤ cs.length) (hcap : cs.length ≤ 4) :
    Ct true false Z EL l (⟨"java/lang/String", "substring", "(II)Ljava/lang/String;"⟩ : MethodName) jdk_42_method_92_code 5 (some (.object "java/lang/String")) ({ frames := 6, cells := 3, slots := 16, locals := 140 } : Room) #[(.ref x), (.int (Int32.ofNat i)), (.int (Int32.ofNat j))] h0 [] (QNS Z h0 ((cs.drop i).take (j - i))) := by
  refine ctOf (plainFor_of_name pn_java_lang_String) hO hEL ?_
  intro p e s m below meth c s₁ S0 X0 hby hml hret hnm hsf
  refine Go.entry (ef_jdk_42_method_92_code m x (Int32.ofNat i) (Int32.ofNat j)) ?_
  show Go _ _ _ _ (s₁.setTop (mkF m 0 #[r_ x, i_ (Int32.ofNat i), i_ (Int32.ofNat j), u_, u_] []))
  refine blk X0 hby b150 (pc' := 1) (Ls' := #[r_ x, i_ (Int32.ofNat i), i_ (Int32.ofNat j), u_, u_]) (st' := [(.ref x)]) rfl ?_
  refine gVirt X0 hby (argsL := []) (st := []) (ct_len hw hEL X0.old U F) F.1 (hw _ (List.mem_of_getElem? (i := 50) rfl)) (hw _ (List.mem_of_getElem? (i := 35) rfl)) (hw _ (List.mem_of_getElem? (i := 37) rfl)) (hw _ (List.mem_of_getElem? (i := 36) rfl)) (hw _ (List.mem_of_getElem? (i := 11) rfl)) (hw _ (List.mem_of_getElem? (i := 38) rfl)) pd___I rfl d_jdk_42_method_92_code_1 rfl (by rw [hml]; rfl) all0 (by decide) (Nat.le_of_ble_eq_true rfl) (by decide) (by decide) (fun v1 T1 h1 S1 X1 q1 sS1 sz1 => ?_)
  obtain ⟨rfl, rfl⟩ := q1
  show Go _ _ _ _ (T1.setTop (mkF m 4 #[r_ x, i_ (Int32.ofNat i), i_ (Int32.ofNat j), u_, u_] [(.int (Int32.ofNat cs.length))]))
  refine blk X1 hby b151 (pc' := 8) (Ls' := #[r_ x, i_ (Int32.ofNat i), i_ (Int32.ofNat j), i_ (Int32.ofNat cs.length), u_]) (st' := [(.int (Int32.ofNat cs.length)), (.int (Int32.ofNat j)), (.int (Int32.ofNat i))]) rfl ?_
  refine gStatic X1 hby (argsL := [(.int (Int32.ofNat i)), (.int (Int32.ofNat j)), (.int (Int32.ofNat cs.length))]) (st := []) (ct_cbe hw hEL X1.old hFM hfm (nn32 (by omega)) (by rw [lt32 (by omega) (by omega)]; omega) (by rw [lt32 (by omega) (by omega)]; omega)) (hw _ (List.mem_of_getElem? (i := 51) rfl)) (hw _ (List.mem_of_getElem? (i := 52) rfl)) (hw _ (List.mem_of_getElem? (i := 11) rfl)) (hw _ (List.mem_of_getElem? (i := 53) rfl)) pd__III_V rfl d_jdk_42_method_92_code_8 rfl (by rw [hml]; rfl) all0 (by decide) (Nat.le_of_ble_eq_true rfl) (by decide) (by decide) (fun v2 T2 h2 S2 X2 q2 sS2 sz2 => ?_)
  obtain ⟨rfl, rfl⟩ := q2
  show Go _ _ _ _ (T2.setTop (mkF m 11 #[r_ x, i_ (Int32.ofNat i), i_ (Int32.ofNat j), i_ (Int32.ofNat cs.length), u_] []))
  refine blk X2 hby b152 (pc' := 12) (Ls' := #[r_ x, i_ (Int32.ofNat i), i_ (Int32.ofNat j), i_ (Int32.ofNat cs.length), u_]) (st' := [(.int (Int32.ofNat i))]) rfl ?_
  refine br0 X2 hby d_jdk_42_method_92_code_12 (pc1 := 22) (by decide) (fun hc => ?_) (fun hc => ?_)
  · replace hc := neT hc
    have hno : ¬ (i = 0 ∧ j - i = cs.length) := fun q => hc (by rw [q.1]; rfl)
    refine blk X2 hby b153 (pc' := 25) (Ls' := #[r_ x, i_ (Int32.ofNat i), i_ (Int32.ofNat j), i_ (Int32.ofNat cs.length), u_]) (st' := [(.int ((Int32.ofNat j) - (Int32.ofNat i)))]) rfl ?_
    rw [sub32 g1 (by omega)]
    show Go _ _ _ _ (T2.setTop (mkF m 25 #[r_ x, i_ (Int32.ofNat i), i_ (Int32.ofNat j), i_ (Int32.ofNat cs.length), u_] [(.int (Int32.ofNat (j - i)))]))
    refine blk X2 hby b154 (pc' := 28) (Ls' := #[r_ x, i_ (Int32.ofNat i), i_ (Int32.ofNat j), i_ (Int32.ofNat cs.length), i_ (Int32.ofNat (j - i))]) (st' := [(.ref x)]) rfl ?_
    obtain ⟨hE, hV, hR, hC⟩ := F
    rcases hC with ⟨FC, VB, hl⟩ | ⟨FC, VB, hl⟩
    · skip
      show Go _ _ _ _ (T2.setTop (mkF m 28 #[r_ x, i_ (Int32.ofNat i), i_ (Int32.ofNat j), i_ (Int32.ofNat cs.length), i_ (Int32.ofNat (j - i))] [(.ref x)]))
      refine gVirt X2 hby (argsL := []) (st := []) (ct_isL hw hEL X2.old U FC) hE (hw _ (List.mem_of_getElem? (i := 75) rfl)) (hw _ (List.mem_of_getElem? (i := 76) rfl)) (hw _ (List.mem_of_getElem? (i := 78) rfl)) (hw _ (List.mem_of_getElem? (i := 77) rfl)) (hw _ (List.mem_of_getElem? (i := 11) rfl)) (hw _ (List.mem_of_getElem? (i := 79) rfl)) pd___Z rfl d_jdk_42_method_92_code_28 rfl (by rw [hml]; rfl) all0 (by decide) (Nat.le_of_ble_eq_true rfl) (by decide) (by decide) (fun v3 T3 h3 S3 X3 q3 sS3 sz3 => ?_)
      obtain ⟨rfl, rfl⟩ := q3
      show Go _ _ _ _ (T3.setTop (mkF m 31 #[r_ x, i_ (Int32.ofNat i), i_ (Int32.ofNat j), i_ (Int32.ofNat cs.length), i_ (Int32.ofNat (j - i))] [(.int (if (0 : Int32) = 0 then 1 else 0))]))
      rw [show (if (0 : Int32) = 0 then (1 : Int32) else 0) = (1 : Int32) from by decide]
      show Go _ _ _ _ (T3.setTop (mkF m 31 #[r_ x, i_ (Int32.ofNat i), i_ (Int32.ofNat j), i_ (Int32.ofNat cs.length), i_ (Int32.ofNat (j - i))] [(.int 1)]))
      refine br0 X3 hby d_jdk_42_method_92_code_31 (pc1 := 47) (by decide) (fun hq => absurd (eqT hq) (by decide)) (fun hq => ?_)
      refine blk X3 hby b155 (pc' := 35) (Ls' := #[r_ x, i_ (Int32.ofNat i), i_ (Int32.ofNat j), i_ (Int32.ofNat cs.length), i_ (Int32.ofNat (j - i))]) (st' := [(.ref x)]) rfl ?_
      refine gGetF X3 hby (hw _ (List.mem_of_getElem? (i := 28) rfl)) Via.refl hV d_jdk_42_method_92_code_35 (fun T4 X4 => ?_)
      refine blk X4 hby b156 (pc' := 41) (Ls' := #[r_ x, i_ (Int32.ofNat i), i_ (Int32.ofNat j), i_ (Int32.ofNat cs.length), i_ (Int32.ofNat (j - i))]) (st' := [(.int (Int32.ofNat (j - i))), (.int (Int32.ofNat i)), (.ref b)]) rfl ?_
      refine gStatic X4 hby (argsL := [(.ref b), (.int (Int32.ofNat i)), (.int (Int32.ofNat (j - i)))]) (st := []) (ct_nsl hw hEL X4.old VB hl hR (by omega) (by omega) hno) (hw _ (List.mem_of_getElem? (i := 93) rfl)) (hw _ (List.mem_of_getElem? (i := 94) rfl)) (hw _ (List.mem_of_getElem? (i := 82) rfl)) (hw _ (List.mem_of_getElem? (i := 95) rfl)) pd___BII_Ljava_lang_String_ rfl d_jdk_42_method_92_code_41 rfl (by rw [hml]; rfl) all0 (by decide) (Nat.le_of_ble_eq_true rfl) (by decide) (by decide) (fun v5 T5 h5 S5 X5 q5 sS5 sz5 => ?_)
      obtain ⟨x', b', rfl, r1, r2⟩ := q5
      show Go _ _ _ _ (T5.setTop (mkF m 44 #[r_ x, i_ (Int32.ofNat i), i_ (Int32.ofNat j), i_ (Int32.ofNat cs.length), i_ (Int32.ofNat (j - i))] [(.ref (x'))]))
      refine blk X5 hby b157 (pc' := 57) (Ls' := #[r_ x, i_ (Int32.ofNat i), i_ (Int32.ofNat j), i_ (Int32.ofNat cs.length), i_ (Int32.ofNat (j - i))]) (st' := [(.ref (x'))]) rfl ?_
      exact retA' X5 hby hret d_jdk_42_method_92_code_57 rfl (fun S' hS' => ⟨_, _, rfl, r1, r2⟩)
    · skip
      show Go _ _ _ _ (T2.setTop (mkF m 28 #[r_ x, i_ (Int32.ofNat i), i_ (Int32.ofNat j), i_ (Int32.ofNat cs.length), i_ (Int32.ofNat (j - i))] [(.ref x)]))
      refine gVirt X2 hby (argsL := []) (st := []) (ct_isL hw hEL X2.old U FC) hE (hw _ (List.mem_of_getElem? (i := 75) rfl)) (hw _ (List.mem_of_getElem? (i := 76) rfl)) (hw _ (List.mem_of_getElem? (i := 78) rfl)) (hw _ (List.mem_of_getElem? (i := 77) rfl)) (hw _ (List.mem_of_getElem? (i := 11) rfl)) (hw _ (List.mem_of_getElem? (i := 79) rfl)) pd___Z rfl d_jdk_42_method_92_code_28 rfl (by rw [hml]; rfl) all0 (by decide) (Nat.le_of_ble_eq_true rfl) (by decide) (by decide) (fun v3 T3 h3 S3 X3 q3 sS3 sz3 => ?_)
      obtain ⟨rfl, rfl⟩ := q3
      show Go _ _ _ _ (T3.setTop (mkF m 31 #[r_ x, i_ (Int32.ofNat i), i_ (Int32.ofNat j), i_ (Int32.ofNat cs.length), i_ (Int32.ofNat (j - i))] [(.int (if (1 : Int32) = 0 then 1 else 0))]))
      rw [show (if (1 : Int32) = 0 then (1 : Int32) else 0) = (0 : Int32) from by decide]
      show Go _ _ _ _ (T3.setTop (mkF m 31 #[r_ x, i_ (Int32.ofNat i), i_ (Int32.ofNat j), i_ (Int32.ofNat cs.length), i_ (Int32.ofNat (j - i))] [(.int 0)]))
      refine br0 X3 hby d_jdk_42_method_92_code_31 (pc1 := 47) (by decide) (fun hq => ?_) (fun hq => absurd (eqF hq) (fun q => q rfl))
      refine blk X3 hby b158 (pc' := 48) (Ls' := #[r_ x, i_ (Int32.ofNat i), i_ (Int32.ofNat j), i_ (Int32.ofNat cs.length), i_ (Int32.ofNat (j - i))]) (st' := [(.ref x)]) rfl ?_
      refine gGetF X3 hby (hw _ (List.mem_of_getElem? (i := 28) rfl)) Via.refl hV d_jdk_42_method_92_code_48 (fun T4 X4 => ?_)
      refine blk X4 hby b159 (pc' := 54) (Ls' := #[r_ x, i_ (Int32.ofNat i), i_ (Int32.ofNat j), i_ (Int32.ofNat cs.length), i_ (Int32.ofNat (j - i))]) (st' := [(.int (Int32.ofNat (j - i))), (.int (Int32.ofNat i)), (.ref b)]) rfl ?_
      refine gStatic X4 hby (argsL := [(.ref b), (.int (Int32.ofNat i)), (.int (Int32.ofNat (j - i)))]) (st := []) (ct_nsu hw hEL X4.old U hFM hfm VB hR (by omega) hcap hno) (hw _ (List.mem_of_getElem? (i := 151) rfl)) (hw _ (List.mem_of_getElem? (i := 152) rfl)) (hw _ (List.mem_of_getElem? (i := 62) rfl)) (hw _ (List.mem_of_getElem? (i := 153) rfl)) pd___BII_Ljava_lang_String_ rfl d_jdk_42_method_92_code_54 rfl (by rw [hml]; rfl) all0 (by decide) (Nat.le_of_ble_eq_true rfl) (by decide) (by decide) (fun v5 T5 h5 S5 X5 q5 sS5 sz5 => ?_)
      obtain ⟨x', b', rfl, r1, r2⟩ := q5
      show Go _ _ _ _ (T5.setTop (mkF m 57 #[r_ x, i_ (Int32.ofNat i), i_ (Int32.ofNat j), i_ (Int32.ofNat cs.length), i_ (Int32.ofNat (j - i))] [(.ref (x'))]))
      exact retA' X5 hby hret d_jdk_42_method_92_code_57 rfl (fun S' hS' => ⟨_, _, rfl, r1, r2⟩)
  · replace hc := neF hc
    have hi0 : i = 0 := (eq32 (j := 0) (by omega) (by omega)).mp hc
    refine blk X2 hby b160 (pc' := 17) (Ls' := #[r_ x, i_ (Int32.ofNat i), i_ (Int32.ofNat j), i_ (Int32.ofNat cs.length), u_]) (st' := [(.int (Int32.ofNat cs.length)), (.int (Int32.ofNat j))]) rfl ?_
    refine brI X2 hby d_jdk_42_method_92_code_17 (pc1 := 22) (by decide) (fun hd => ?_) (fun hd => ?_)
    · replace hd := neT hd
      have hno : ¬ (i = 0 ∧ j - i = cs.length) := fun q => hd (by rw [show j = cs.length by omega])
      refine blk X2 hby b161 (pc' := 25) (Ls' := #[r_ x, i_ (Int32.ofNat i), i_ (Int32.ofNat j), i_ (Int32.ofNat cs.length), u_]) (st' := [(.int ((Int32.ofNat j) - (Int32.ofNat i)))]) rfl ?_
      rw [sub32 g1 (by omega)]
      show Go _ _ _ _ (T2.setTop (mkF m 25 #[r_ x, i_ (Int32.ofNat i), i_ (Int32.ofNat j), i_ (Int32.ofNat cs.length), u_] [(.int (Int32.ofNat (j - i)))]))
      refine blk X2 hby b162 (pc' := 28) (Ls' := #[r_ x, i_ (Int32.ofNat i), i_ (Int32.ofNat j), i_ (Int32.ofNat cs.length), i_ (Int32.ofNat (j - i))]) (st' := [(.ref x)]) rfl ?_
      obtain ⟨hE, hV, hR, hC⟩ := F
      rcases hC with ⟨FC, VB, hl⟩ | ⟨FC, VB, hl⟩
      · skip
        show Go _ _ _ _ (T2.setTop (mkF m 28 #[r_ x, i_ (Int32.ofNat i), i_ (Int32.ofNat j), i_ (Int32.ofNat cs.length), i_ (Int32.ofNat (j - i))] [(.ref x)]))
        refine gVirt X2 hby (argsL := []) (st := []) (ct_isL hw hEL X2.old U FC) hE (hw _ (List.mem_of_getElem? (i := 75) rfl)) (hw _ (List.mem_of_getElem? (i := 76) rfl)) (hw _ (List.mem_of_getElem? (i := 78) rfl)) (hw _ (List.mem_of_getElem? (i := 77) rfl)) (hw _ (List.mem_of_getElem? (i := 11) rfl)) (hw _ (List.mem_of_getElem? (i := 79) rfl)) pd___Z rfl d_jdk_42_method_92_code_28 rfl (by rw [hml]; rfl) all0 (by decide) (Nat.le_of_ble_eq_true rfl) (by decide) (by decide) (fun v3 T3 h3 S3 X3 q3 sS3 sz3 => ?_)
        obtain ⟨rfl, rfl⟩ := q3
        show Go _ _ _ _ (T3.setTop (mkF m 31 #[r_ x, i_ (Int32.ofNat i), i_ (Int32.ofNat j), i_ (Int32.ofNat cs.length), i_ (Int32.ofNat (j - i))] [(.int (if (0 : Int32) = 0 then 1 else 0))]))
        rw [show (if (0 : Int32) = 0 then (1 : Int32) else 0) = (1 : Int32) from by decide]
        show Go _ _ _ _ (T3.setTop (mkF m 31 #[r_ x, i_ (Int32.ofNat i), i_ (Int32.ofNat j), i_ (Int32.ofNat cs.length), i_ (Int32.ofNat (j - i))] [(.int 1)]))
        refine br0 X3 hby d_jdk_42_method_92_code_31 (pc1 := 47) (by decide) (fun hq => absurd (eqT hq) (by decide)) (fun hq => ?_)
        refine blk X3 hby b163 (pc' := 35) (Ls' := #[r_ x, i_ (Int32.ofNat i), i_ (Int32.ofNat j), i_ (Int32.ofNat cs.length), i_ (Int32.ofNat (j - i))]) (st' := [(.ref x)]) rfl ?_
        refine gGetF X3 hby (hw _ (List.mem_of_getElem? (i := 28) rfl)) Via.refl hV d_jdk_42_method_92_code_35 (fun T4 X4 => ?_)
        refine blk X4 hby b164 (pc' := 41) (Ls' := #[r_ x, i_ (Int32.ofNat i), i_ (Int32.ofNat j), i_ (Int32.ofNat cs.length), i_ (Int32.ofNat (j - i))]) (st' := [(.int (Int32.ofNat (j - i))), (.int (Int32.ofNat i)), (.ref b)]) rfl ?_
        refine gStatic X4 hby (argsL := [(.ref b), (.int (Int32.ofNat i)), (.int (Int32.ofNat (j - i)))]) (st := []) (ct_nsl hw hEL X4.old VB hl hR (by omega) (by omega) hno) (hw _ (List.mem_of_getElem? (i := 93) rfl)) (hw _ (List.mem_of_getElem? (i := 94) rfl)) (hw _ (List.mem_of_getElem? (i := 82) rfl)) (hw _ (List.mem_of_getElem? (i := 95) rfl)) pd___BII_Ljava_lang_String_ rfl d_jdk_42_method_92_code_41 rfl (by rw [hml]; rfl) all0 (by decide) (Nat.le_of_ble_eq_true rfl) (by decide) (by decide) (fun v5 T5 h5 S5 X5 q5 sS5 sz5 => ?_)
        obtain ⟨x', b', rfl, r1, r2⟩ := q5
        show Go _ _ _ _ (T5.setTop (mkF m 44 #[r_ x, i_ (Int32.ofNat i), i_ (Int32.ofNat j), i_ (Int32.ofNat cs.length), i_ (Int32.ofNat (j - i))] [(.ref (x'))]))
        refine blk X5 hby b165 (pc' := 57) (Ls' := #[r_ x, i_ (Int32.ofNat i), i_ (Int32.ofNat j), i_ (Int32.ofNat cs.length), i_ (Int32.ofNat (j - i))]) (st' := [(.ref (x'))]) rfl ?_
        exact retA' X5 hby hret d_jdk_42_method_92_code_57 rfl (fun S' hS' => ⟨_, _, rfl, r1, r2⟩)
      · skip
        show Go _ _ _ _ (T2.setTop (mkF m 28 #[r_ x, i_ (Int32.ofNat i), i_ (Int32.ofNat j), i_ (Int32.ofNat cs.length), i_ (Int32.ofNat (j - i))] [(.ref x)]))
        refine gVirt X2 hby (argsL := []) (st := []) (ct_isL hw hEL X2.old U FC) hE (hw _ (List.mem_of_getElem? (i := 75) rfl)) (hw _ (List.mem_of_getElem? (i := 76) rfl)) (hw _ (List.mem_of_getElem? (i := 78) rfl)) (hw _ (List.mem_of_getElem? (i := 77) rfl)) (hw _ (List.mem_of_getElem? (i := 11) rfl)) (hw _ (List.mem_of_getElem? (i := 79) rfl)) pd___Z rfl d_jdk_42_method_92_code_28 rfl (by rw [hml]; rfl) all0 (by decide) (Nat.le_of_ble_eq_true rfl) (by decide) (by decide) (fun v3 T3 h3 S3 X3 q3 sS3 sz3 => ?_)
        obtain ⟨rfl, rfl⟩ := q3
        show Go _ _ _ _ (T3.setTop (mkF m 31 #[r_ x, i_ (Int32.ofNat i), i_ (Int32.ofNat j), i_ (Int32.ofNat cs.length), i_ (Int32.ofNat (j - i))] [(.int (if (1 : Int32) = 0 then 1 else 0))]))
        rw [show (if (1 : Int32) = 0 then (1 : Int32) else 0) = (0 : Int32) from by decide]
        show Go _ _ _ _ (T3.setTop (mkF m 31 #[r_ x, i_ (Int32.ofNat i), i_ (Int32.ofNat j), i_ (Int32.ofNat cs.length), i_ (Int32.ofNat (j - i))] [(.int 0)]))
        refine br0 X3 hby d_jdk_42_method_92_code_31 (pc1 := 47) (by decide) (fun hq => ?_) (fun hq => absurd (eqF hq) (fun q => q rfl))
        refine blk X3 hby b166 (pc' := 48) (Ls' := #[r_ x, i_ (Int32.ofNat i), i_ (Int32.ofNat j), i_ (Int32.ofNat cs.length), i_ (Int32.ofNat (j - i))]) (st' := [(.ref x)]) rfl ?_
        refine gGetF X3 hby (hw _ (List.mem_of_getElem? (i := 28) rfl)) Via.refl hV d_jdk_42_method_92_code_48 (fun T4 X4 => ?_)
        refine blk X4 hby b167 (pc' := 54) (Ls' := #[r_ x, i_ (Int32.ofNat i), i_ (Int32.ofNat j), i_ (Int32.ofNat cs.length), i_ (Int32.ofNat (j - i))]) (st' := [(.int (Int32.ofNat (j - i))), (.int (Int32.ofNat i)), (.ref b)]) rfl ?_
        refine gStatic X4 hby (argsL := [(.ref b), (.int (Int32.ofNat i)), (.int (Int32.ofNat (j - i)))]) (st := []) (ct_nsu hw hEL X4.old U hFM hfm VB hR (by omega) hcap hno) (hw _ (List.mem_of_getElem? (i := 151) rfl)) (hw _ (List.mem_of_getElem? (i := 152) rfl)) (hw _ (List.mem_of_getElem? (i := 62) rfl)) (hw _ (List.mem_of_getElem? (i := 153) rfl)) pd___BII_Ljava_lang_String_ rfl d_jdk_42_method_92_code_54 rfl (by rw [hml]; rfl) all0 (by decide) (Nat.le_of_ble_eq_true rfl) (by decide) (by decide) (fun v5 T5 h5 S5 X5 q5 sS5 sz5 => ?_)
        obtain ⟨x', b', rfl, r1, r2⟩ := q5
        show Go _ _ _ _ (T5.setTop (mkF m 57 #[r_ x, i_ (Int32.ofNat i), i_ (Int32.ofNat j), i_ (Int32.ofNat cs.length), i_ (Int32.ofNat (j - i))] [(.ref (x'))]))
        exact retA' X5 hby hret d_jdk_42_method_92_code_57 rfl (fun S' hS' => ⟨_, _, rfl, r1, r2⟩)
    · replace hd := neF hd
      have hj : j = cs.length := (eq32 (by omega) (by omega)).mp hd
      refine blk X2 hby b168 (pc' := 21) (Ls' := #[r_ x, i_ (Int32.ofNat i), i_ (Int32.ofNat j), i_ (Int32.ofNat cs.length), u_]) (st' := [(.ref x)]) rfl ?_
      exact retA' X2 hby hret d_jdk_42_method_92_code_21 rfl (fun S' hS' => ⟨_, _, rfl, by rw [hi0, hj, Nat.sub_zero, List.drop_zero, List.take_length]; exact F, Keep.refl _ _⟩)
def wsL : List Int32 := [9, 10, 11, 12, 13, 32, 133, 160, 5760, 8192, 8193, 8194, 8195, 8196, 8197, 8198, 8199, 8200, 8201, 8202, 8232, 8233, 8239, 8287, 12288]
def wsB (c : Int32) : Bool := decide (c ∈ wsL)
theorem ws_r1 {y : Int32} (h1 : ¬ y < 9) (h2 : ¬ 13 < y) : wsB y = true := by
  simp only [wsB, wsL, decide_eq_true_eq, List.mem_cons, List.not_mem_nil, or_false, Int32.lt_iff_toInt_lt, ← Int32.toInt_inj] at *
  simp only [show (9 : Int32).toInt = 9 from rfl, show (10 : Int32).toInt = 10 from rfl, show (11 : Int32).toInt = 11 from rfl, show (12 : Int32).toInt = 12 from rfl, show (13 : Int32).toInt = 13 from rfl, show (32 : Int32).toInt = 32 from rfl, show (133 : Int32).toInt = 133 from rfl, show (160 : Int32).toInt = 160 from rfl, show (5760 : Int32).toInt = 5760 from rfl, show (8192 : Int32).toInt = 8192 from rfl, show (8193 : Int32).toInt = 8193 from rfl, show (8194 : Int32).toInt = 8194 from rfl, show (8195 : Int32).toInt = 8195 from rfl, show (8196 : Int32).toInt = 8196 from rfl, show (8197 : Int32).toInt = 8197 from rfl, show (8198 : Int32).toInt = 8198 from rfl, show (8199 : Int32).toInt = 8199 from rfl, show (8200 : Int32).toInt = 8200 from rfl, show (8201 : Int32).toInt = 8201 from rfl, show (8202 : Int32).toInt = 8202 from rfl, show (8232 : Int32).toInt = 8232 from rfl, show (8233 : Int32).toInt = 8233 from rfl, show (8239 : Int32).toInt = 8239 from rfl, show (8287 : Int32).toInt = 8287 from rfl, show (12288 : Int32).toInt = 12288 from rfl] at *; omega
theorem ws_r2 {y : Int32} (h1 : ¬ y < 8192) (h2 : ¬ 8202 < y) : wsB y = true := by
  simp only [wsB, wsL, decide_eq_true_eq, List.mem_cons, List.not_mem_nil, or_false, Int32.lt_iff_toInt_lt, ← Int32.toInt_inj] at *
  simp only [show (9 : Int32).toInt = 9 from rfl, show (10 : Int32).toInt = 10 from rfl, show (11 : Int32).toInt = 11 from rfl, show (12 : Int32).toInt = 12 from rfl, show (13 : Int32).toInt = 13 from rfl, show (32 : Int32).toInt = 32 from rfl, show (133 : Int32).toInt = 133 from rfl, show (160 : Int32).toInt = 160 from rfl, show (5760 : Int32).toInt = 5760 from rfl, show (8192 : Int32).toInt = 8192 from rfl, show (8193 : Int32).toInt = 8193 from rfl, show (8194 : Int32).toInt = 8194 from rfl, show (8195 : Int32).toInt = 8195 from rfl, show (8196 : Int32).toInt = 8196 from rfl, show (8197 : Int32).toInt = 8197 from rfl, show (8198 : Int32).toInt = 8198 from rfl, show (8199 : Int32).toInt = 8199 from rfl, show (8200 : Int32).toInt = 8200 from rfl, show (8201 : Int32).toInt = 8201 from rfl, show (8202 : Int32).toInt = 8202 from rfl, show (8232 : Int32).toInt = 8232 from rfl, show (8233 : Int32).toInt = 8233 from rfl, show (8239 : Int32).toInt = 8239 from rfl, show (8287 : Int32).toInt = 8287 from rfl, show (12288 : Int32).toInt = 12288 from rfl] at *; omega
theorem ws_no {y : Int32} (h1 : y < 9 ∨ 13 < y) (h2 : y < 8192 ∨ 8202 < y) (h3 : ¬ y = 32 ∧ ¬ y = 133 ∧ ¬ y = 160 ∧ ¬ y = 5760 ∧ ¬ y = 8232 ∧ ¬ y = 8233 ∧ ¬ y = 8239 ∧ ¬ y = 8287 ∧ ¬ y = 12288) : wsB y = false := by
  simp only [wsB, wsL, decide_eq_false_iff_not, List.mem_cons, List.not_mem_nil, or_false, not_or, Int32.lt_iff_toInt_lt, ← Int32.toInt_inj] at *
  simp only [show (9 : Int32).toInt = 9 from rfl, show (10 : Int32).toInt = 10 from rfl, show (11 : Int32).toInt = 11 from rfl, show (12 : Int32).toInt = 12 from rfl, show (13 : Int32).toInt = 13 from rfl, show (32 : Int32).toInt = 32 from rfl, show (133 : Int32).toInt = 133 from rfl, show (160 : Int32).toInt = 160 from rfl, show (5760 : Int32).toInt = 5760 from rfl, show (8192 : Int32).toInt = 8192 from rfl, show (8193 : Int32).toInt = 8193 from rfl, show (8194 : Int32).toInt = 8194 from rfl, show (8195 : Int32).toInt = 8195 from rfl, show (8196 : Int32).toInt = 8196 from rfl, show (8197 : Int32).toInt = 8197 from rfl, show (8198 : Int32).toInt = 8198 from rfl, show (8199 : Int32).toInt = 8199 from rfl, show (8200 : Int32).toInt = 8200 from rfl, show (8201 : Int32).toInt = 8201 from rfl, show (8202 : Int32).toInt = 8202 from rfl, show (8232 : Int32).toInt = 8232 from rfl, show (8233 : Int32).toInt = 8233 from rfl, show (8239 : Int32).toInt = 8239 from rfl, show (8287 : Int32).toInt = 8287 from rfl, show (12288 : Int32).toInt = 12288 from rfl] at *; omega
theorem idx25 (x : Int32) : ∃ i : Nat, i < 25 ∧ XT.ushr x (2 : Int32) % (25 : Int32) = Int32.ofNat i := by
  have u := c_iushr x 2 2 (by decide) (by decide)
  have u' : (XT.ushr x (2 : Int32)).toInt = (x.toInt % 4294967296) / 4 := u
  have r := (c_irem (XT.ushr x (2 : Int32)) 25 25 rfl).1 (by omega)
  refine ⟨((XT.ushr x (2 : Int32)).toInt % 25).toNat, by omega, Int32.toInt_inj.mp ?_⟩
  rw [r, n32 (by omega)]; omega
theorem pn_com_example_nay1_nay1_lexicon_LexiconLine : plainName "com/example/nay1/nay1/lexicon/LexiconLine" = true := by first | (simp [plainName, overriddenIn]; done) | decide +kernel
theorem ef_prog_41_method_3_code (m : MethodId) (x0 : Int32) : entryFrame m #[(.int x0)] 1 = mkF m 0 #[i_ x0] [] := by first | (simp [entryFrame, mkF, argsToLocals, Value.category]; done) | rfl
theorem b169 : decs prog_41_method_3_code 12 [.iload_n 0, .bipush 32] = true := by decide +kernel
theorem d_prog_41_method_3_code_15 : decode prog_41_method_3_code 15 = .ok (.if_icmp .eq 73, 3) := by decide +kernel
theorem b170 : decs prog_41_method_3_code 88 [.iconst 1, .goto 4] = true := by decide +kernel
theorem d_prog_41_method_3_code_93 : decode prog_41_method_3_code 93 = .ok (.ireturn, 1) := by decide +kernel
theorem b171 : decs prog_41_method_3_code 18 [.iload_n 0, .sipush 133] = true := by decide +kernel
theorem d_prog_41_method_3_code_22 : decode prog_41_method_3_code 22 = .ok (.if_icmp .eq 66, 3) := by decide +kernel
theorem b172 : decs prog_41_method_3_code 88 [.iconst 1, .goto 4] = true := by decide +kernel
theorem b173 : decs prog_41_method_3_code 25 [.iload_n 0, .sipush 160] = true := by decide +kernel
theorem d_prog_41_method_3_code_29 : decode prog_41_method_3_code 29 = .ok (.if_icmp .eq 59, 3) := by decide +kernel
theorem b174 : decs prog_41_method_3_code 88 [.iconst 1, .goto 4] = true := by decide +kernel
theorem b175 : decs prog_41_method_3_code 32 [.iload_n 0, .sipush 5760] = true := by decide +kernel
theorem d_prog_41_method_3_code_36 : decode prog_41_method_3_code 36 = .ok (.if_icmp .eq 52, 3) := by decide +kernel
theorem b176 : decs prog_41_method_3_code 88 [.iconst 1, .goto 4] = true := by decide +kernel
theorem b177 : decs prog_41_method_3_code 53 [.iload_n 0, .sipush 8232] = true := by decide +kernel
theorem d_prog_41_method_3_code_57 : decode prog_41_method_3_code 57 = .ok (.if_icmp .eq 31, 3) := by decide +kernel
theorem b178 : decs prog_41_method_3_code 88 [.iconst 1, .goto 4] = true := by decide +kernel
theorem b179 : decs prog_41_method_3_code 60 [.iload_n 0, .sipush 8233] = true := by decide +kernel
theorem d_prog_41_method_3_code_64 : decode prog_41_method_3_code 64 = .ok (.if_icmp .eq 24, 3) := by decide +kernel
theorem b180 : decs prog_41_method_3_code 88 [.iconst 1, .goto 4] = true := by decide +kernel
theorem b181 : decs prog_41_method_3_code 67 [.iload_n 0, .sipush 8239] = true := by decide +kernel
theorem d_prog_41_method_3_code_71 : decode prog_41_method_3_code 71 = .ok (.if_icmp .eq 17, 3) := by decide +kernel
theorem b182 : decs prog_41_method_3_code 88 [.iconst 1, .goto 4] = true := by decide +kernel
theorem b183 : decs prog_41_method_3_code 74 [.iload_n 0, .sipush 8287] = true := by decide +kernel
theorem d_prog_41_method_3_code_78 : decode prog_41_method_3_code 78 = .ok (.if_icmp .eq 10, 3) := by decide +kernel
theorem b184 : decs prog_41_method_3_code 88 [.iconst 1, .goto 4] = true := by decide +kernel
theorem b185 : decs prog_41_method_3_code 81 [.iload_n 0, .sipush 12288] = true := by decide +kernel
theorem d_prog_41_method_3_code_85 : decode prog_41_method_3_code 85 = .ok (.if_icmp .ne 7, 3) := by decide +kernel
theorem b186 : decs prog_41_method_3_code 92 [.iconst 0] = true := by decide +kernel
theorem b187 : decs prog_41_method_3_code 88 [.iconst 1, .goto 4] = true := by decide +kernel
theorem b188 : decs prog_41_method_3_code 39 [.iload_n 0, .sipush 8192] = true := by decide +kernel
theorem d_prog_41_method_3_code_43 : decode prog_41_method_3_code 43 = .ok (.if_icmp .lt 10, 3) := by decide +kernel
theorem b189 : decs prog_41_method_3_code 46 [.iload_n 0, .sipush 8202] = true := by decide +kernel
theorem d_prog_41_method_3_code_50 : decode prog_41_method_3_code 50 = .ok (.if_icmp .le 38, 3) := by decide +kernel
theorem b190 : decs prog_41_method_3_code 88 [.iconst 1, .goto 4] = true := by decide +kernel
theorem b191 : decs prog_41_method_3_code 0 [.iload_n 0, .bipush 9] = true := by decide +kernel
theorem d_prog_41_method_3_code_3 : decode prog_41_method_3_code 3 = .ok (.if_icmp .lt 9, 3) := by decide +kernel
theorem b192 : decs prog_41_method_3_code 6 [.iload_n 0, .bipush 13] = true := by decide +kernel
theorem d_prog_41_method_3_code_9 : decode prog_41_method_3_code 9 = .ok (.if_icmp .le 79, 3) := by decide +kernel
theorem b193 : decs prog_41_method_3_code 88 [.iconst 1, .goto 4] = true := by decide +kernel
set_option maxRecDepth 65536 in
set_option maxHeartbeats 40000000 in
theorem ct_iws {h0 : Heap} {y : Int32} (hw : ∀ d ∈ tables_1, d.before a0 Z = true) (hEL : EW Z a0 EL) (hO : Old Z Z.heap.size h0)  :
    Ct true false Z EL l (⟨"com/example/nay1/nay1/lexicon/LexiconLine", "isWhiteSpace", "(C)Z"⟩ : MethodName) prog_41_method_3_code 1 (some .boolean) ({ frames := 0, cells := 0, slots := 0, locals := 0 } : Room) #[(.int y)] h0 [] (QI h0 (if wsB y = true then 1 else 0)) := by
  refine ctOf (plainFor_of_name pn_com_example_nay1_nay1_lexicon_LexiconLine) hO hEL ?_
  intro p e s m below meth c s₁ S0 X0 hby hml hret hnm hsf
  refine Go.entry (ef_prog_41_method_3_code m y) ?_
  show Go _ _ _ _ (s₁.setTop (mkF m 0 #[i_ y] []))
  have at12 : y < 9 ∨ 13 < y → Go p e below (Pst true Z EL ({ frames := 0, cells := 0, slots := 0, locals := 0 } : Room).cells ({ frames := 0, cells := 0, slots := 0, locals := 0 } : Room).slots (QI h0 (if wsB y = true then 1 else 0)) s) (s₁.setTop (mkF m 12 #[.val (.int y)] [])) := by
    intro g1
    show Go _ _ _ _ (s₁.setTop (mkF m 12 #[i_ y] []))
    refine blk X0 hby b169 (pc' := 15) (Ls' := #[i_ y]) (st' := [(.int 32), (.int y)]) rfl ?_
    refine brI X0 hby d_prog_41_method_3_code_15 (pc1 := 88) (by decide) (fun e32 => ?_) (fun e32 => ?_)
    · replace e32 := eqT e32
      refine blk X0 hby b170 (pc' := 93) (Ls' := #[i_ y]) (st' := [(.int 1)]) rfl ?_
      exact retI' X0 hby hret d_prog_41_method_3_code_93 rfl (fun S' hS' => ⟨by rw [if_pos (by rw [e32]; rfl)], rfl⟩)
    · replace e32 := eqF e32
      refine blk X0 hby b171 (pc' := 22) (Ls' := #[i_ y]) (st' := [(.int 133), (.int y)]) rfl ?_
      refine brI X0 hby d_prog_41_method_3_code_22 (pc1 := 88) (by decide) (fun e133 => ?_) (fun e133 => ?_)
      · replace e133 := eqT e133
        refine blk X0 hby b172 (pc' := 93) (Ls' := #[i_ y]) (st' := [(.int 1)]) rfl ?_
        exact retI' X0 hby hret d_prog_41_method_3_code_93 rfl (fun S' hS' => ⟨by rw [if_pos (by rw [e133]; rfl)], rfl⟩)
      · replace e133 := eqF e133
        refine blk X0 hby b173 (pc' := 29) (Ls' := #[i_ y]) (st' := [(.int 160), (.int y)]) rfl ?_
        refine brI X0 hby d_prog_41_method_3_code_29 (pc1 := 88) (by decide) (fun e160 => ?_) (fun e160 => ?_)
        · replace e160 := eqT e160
          refine blk X0 hby b174 (pc' := 93) (Ls' := #[i_ y]) (st' := [(.int 1)]) rfl ?_
          exact retI' X0 hby hret d_prog_41_method_3_code_93 rfl (fun S' hS' => ⟨by rw [if_pos (by rw [e160]; rfl)], rfl⟩)
        · replace e160 := eqF e160
          refine blk X0 hby b175 (pc' := 36) (Ls' := #[i_ y]) (st' := [(.int 5760), (.int y)]) rfl ?_
          refine brI X0 hby d_prog_41_method_3_code_36 (pc1 := 88) (by decide) (fun e5760 => ?_) (fun e5760 => ?_)
          · replace e5760 := eqT e5760
            refine blk X0 hby b176 (pc' := 93) (Ls' := #[i_ y]) (st' := [(.int 1)]) rfl ?_
            exact retI' X0 hby hret d_prog_41_method_3_code_93 rfl (fun S' hS' => ⟨by rw [if_pos (by rw [e5760]; rfl)], rfl⟩)
          · replace e5760 := eqF e5760
            have at53 : y < 8192 ∨ 8202 < y → Go p e below (Pst true Z EL ({ frames := 0, cells := 0, slots := 0, locals := 0 } : Room).cells ({ frames := 0, cells := 0, slots := 0, locals := 0 } : Room).slots (QI h0 (if wsB y = true then 1 else 0)) s) (s₁.setTop (mkF m 53 #[.val (.int y)] [])) := by
              intro g2
              show Go _ _ _ _ (s₁.setTop (mkF m 53 #[i_ y] []))
              refine blk X0 hby b177 (pc' := 57) (Ls' := #[i_ y]) (st' := [(.int 8232), (.int y)]) rfl ?_
              refine brI X0 hby d_prog_41_method_3_code_57 (pc1 := 88) (by decide) (fun e8232 => ?_) (fun e8232 => ?_)
              · replace e8232 := eqT e8232
                refine blk X0 hby b178 (pc' := 93) (Ls' := #[i_ y]) (st' := [(.int 1)]) rfl ?_
                exact retI' X0 hby hret d_prog_41_method_3_code_93 rfl (fun S' hS' => ⟨by rw [if_pos (by rw [e8232]; rfl)], rfl⟩)
              · replace e8232 := eqF e8232
                refine blk X0 hby b179 (pc' := 64) (Ls' := #[i_ y]) (st' := [(.int 8233), (.int y)]) rfl ?_
                refine brI X0 hby d_prog_41_method_3_code_64 (pc1 := 88) (by decide) (fun e8233 => ?_) (fun e8233 => ?_)
                · replace e8233 := eqT e8233
                  refine blk X0 hby b180 (pc' := 93) (Ls' := #[i_ y]) (st' := [(.int 1)]) rfl ?_
                  exact retI' X0 hby hret d_prog_41_method_3_code_93 rfl (fun S' hS' => ⟨by rw [if_pos (by rw [e8233]; rfl)], rfl⟩)
                · replace e8233 := eqF e8233
                  refine blk X0 hby b181 (pc' := 71) (Ls' := #[i_ y]) (st' := [(.int 8239), (.int y)]) rfl ?_
                  refine brI X0 hby d_prog_41_method_3_code_71 (pc1 := 88) (by decide) (fun e8239 => ?_) (fun e8239 => ?_)
                  · replace e8239 := eqT e8239
                    refine blk X0 hby b182 (pc' := 93) (Ls' := #[i_ y]) (st' := [(.int 1)]) rfl ?_
                    exact retI' X0 hby hret d_prog_41_method_3_code_93 rfl (fun S' hS' => ⟨by rw [if_pos (by rw [e8239]; rfl)], rfl⟩)
                  · replace e8239 := eqF e8239
                    refine blk X0 hby b183 (pc' := 78) (Ls' := #[i_ y]) (st' := [(.int 8287), (.int y)]) rfl ?_
                    refine brI X0 hby d_prog_41_method_3_code_78 (pc1 := 88) (by decide) (fun e8287 => ?_) (fun e8287 => ?_)
                    · replace e8287 := eqT e8287
                      refine blk X0 hby b184 (pc' := 93) (Ls' := #[i_ y]) (st' := [(.int 1)]) rfl ?_
                      exact retI' X0 hby hret d_prog_41_method_3_code_93 rfl (fun S' hS' => ⟨by rw [if_pos (by rw [e8287]; rfl)], rfl⟩)
                    · replace e8287 := eqF e8287
                      refine blk X0 hby b185 (pc' := 85) (Ls' := #[i_ y]) (st' := [(.int 12288), (.int y)]) rfl ?_
                      refine brI X0 hby d_prog_41_method_3_code_85 (pc1 := 92) (by decide) (fun e12288 => ?_) (fun e12288 => ?_)
                      · replace e12288 := neT e12288
                        refine blk X0 hby b186 (pc' := 93) (Ls' := #[i_ y]) (st' := [(.int 0)]) rfl ?_
                        exact retI' X0 hby hret d_prog_41_method_3_code_93 rfl (fun S' hS' => ⟨by rw [ws_no g1 g2 ⟨e32, e133, e160, e5760, e8232, e8233, e8239, e8287, e12288⟩]; rfl, rfl⟩)
                      · replace e12288 := neF e12288
                        refine blk X0 hby b187 (pc' := 93) (Ls' := #[i_ y]) (st' := [(.int 1)]) rfl ?_
                        exact retI' X0 hby hret d_prog_41_method_3_code_93 rfl (fun S' hS' => ⟨by rw [if_pos (by rw [e12288]; rfl)], rfl⟩)
            refine blk X0 hby b188 (pc' := 43) (Ls' := #[i_ y]) (st' := [(.int 8192), (.int y)]) rfl ?_
            refine brI X0 hby d_prog_41_method_3_code_43 (pc1 := 53) (by decide) (fun r1 => ?_) (fun r1 => ?_)
            · replace r1 := ltT r1
              exact at53 (Or.inl r1)
            · replace r1 := ltF r1
              refine blk X0 hby b189 (pc' := 50) (Ls' := #[i_ y]) (st' := [(.int 8202), (.int y)]) rfl ?_
              refine brI X0 hby d_prog_41_method_3_code_50 (pc1 := 88) (by decide) (fun r2 => ?_) (fun r2 => ?_)
              · replace r2 := leT r2
                refine blk X0 hby b190 (pc' := 93) (Ls' := #[i_ y]) (st' := [(.int 1)]) rfl ?_
                exact retI' X0 hby hret d_prog_41_method_3_code_93 rfl (fun S' hS' => ⟨by rw [if_pos (ws_r2 r1 r2)], rfl⟩)
              · replace r2 := leF r2
                exact at53 (Or.inr r2)
  refine blk X0 hby b191 (pc' := 3) (Ls' := #[i_ y]) (st' := [(.int 9), (.int y)]) rfl ?_
  refine brI X0 hby d_prog_41_method_3_code_3 (pc1 := 12) (by decide) (fun r1 => ?_) (fun r1 => ?_)
  · replace r1 := ltT r1
    exact at12 (Or.inl r1)
  · replace r1 := ltF r1
    refine blk X0 hby b192 (pc' := 9) (Ls' := #[i_ y]) (st' := [(.int 13), (.int y)]) rfl ?_
    refine brI X0 hby d_prog_41_method_3_code_9 (pc1 := 88) (by decide) (fun r2 => ?_) (fun r2 => ?_)
    · replace r2 := leT r2
      refine blk X0 hby b193 (pc' := 93) (Ls' := #[i_ y]) (st' := [(.int 1)]) rfl ?_
      exact retI' X0 hby hret d_prog_41_method_3_code_93 rfl (fun S' hS' => ⟨by rw [if_pos (ws_r1 r1 r2)], rfl⟩)
    · replace r2 := leF r2
      exact at12 (Or.inr r2)
theorem pn_com_example_nay1_nay1_lexicon_LexiconLineEntryPinLaw : plainName "com/example/nay1/nay1/lexicon/LexiconLineEntryPinLaw" = true := by first | (simp [plainName, overriddenIn]; done) | decide +kernel
theorem ef_method_4_code (m : MethodId) (x0 : Int32) : entryFrame m #[(.int x0)] 1 = mkF m 0 #[i_ x0] [] := by first | (simp [entryFrame, mkF, argsToLocals, Value.category]; done) | rfl
theorem b194 : decs method_4_code 0 [.iload_n 0] = true := by decide +kernel
theorem d_method_4_code_1 : decode method_4_code 1 = .ok (.lookupswitch 213 #[(9, 211), (10, 211), (11, 211), (12, 211), (13, 211), (32, 211), (133, 211), (160, 211), (5760, 211), (8192, 211), (8193, 211), (8194, 211), (8195, 211), (8196, 211), (8197, 211), (8198, 211), (8199, 211), (8200, 211), (8201, 211), (8202, 211), (8232, 211), (8233, 211), (8239, 211), (8287, 211), (12288, 211)], 211) := by decide +kernel
def swP : Array (Int × Int) := #[(9, 211), (10, 211), (11, 211), (12, 211), (13, 211), (32, 211), (133, 211), (160, 211), (5760, 211), (8192, 211), (8193, 211), (8194, 211), (8195, 211), (8196, 211), (8197, 211), (8198, 211), (8199, 211), (8200, 211), (8201, 211), (8202, 211), (8232, 211), (8233, 211), (8239, 211), (8287, 211), (12288, 211)]
theorem sw_hit : ∀ y ∈ wsL, swP.find? (·.1 == y.toInt) = some (y.toInt, 211) := by decide +kernel
theorem sw_all : ∀ x ∈ swP.toList, x.1 ∈ wsL.map Int32.toInt := by decide +kernel
theorem sw_miss {y : Int32} (h : ¬ y ∈ wsL) : swP.find? (·.1 == y.toInt) = none := by
  rw [Array.find?_eq_none]
  intro x hx q
  obtain ⟨z, hz, e⟩ := List.mem_map.mp (sw_all x (Array.mem_toList_iff.mpr hx))
  exact h (Int32.toInt_inj.mp (e.trans (beq_iff_eq.mp q)) ▸ hz)
theorem b195 : decs method_4_code 212 [.iconst 1] = true := by decide +kernel
theorem d_method_4_code_213 : decode method_4_code 213 = .ok (.ireturn, 1) := by decide +kernel
theorem b196 : decs method_4_code 214 [.iconst 0] = true := by decide +kernel
theorem d_method_4_code_215 : decode method_4_code 215 = .ok (.ireturn, 1) := by decide +kernel
set_option maxRecDepth 65536 in
set_option maxHeartbeats 40000000 in
theorem ct_isws {h0 : Heap} {y : Int32} (hw : ∀ d ∈ tables_1, d.before a0 Z = true) (hEL : EW Z a0 EL) (hO : Old Z Z.heap.size h0)  :
    Ct true false Z EL l (⟨"com/example/nay1/nay1/lexicon/LexiconLineEntryPinLaw", "isWs", "(C)Z"⟩ : MethodName) method_4_code 1 (some .boolean) ({ frames := 0, cells := 0, slots := 0, locals := 0 } : Room) #[(.int y)] h0 [] (QI h0 (if wsB y = true then 1 else 0)) := by
  refine ctOf (plainFor_of_name pn_com_example_nay1_nay1_lexicon_LexiconLineEntryPinLaw) hO hEL ?_
  intro p e s m below meth c s₁ S0 X0 hby hml hret hnm hsf
  refine Go.entry (ef_method_4_code m y) ?_
  show Go _ _ _ _ (s₁.setTop (mkF m 0 #[i_ y] []))
  refine blk X0 hby b194 (pc' := 1) (Ls' := #[i_ y]) (st' := [(.int y)]) rfl ?_
  by_cases hc : y ∈ wsL
  · refine gSwH X0 hby (pairs := swP) d_method_4_code_1 (by decide +kernel) (sw_hit y hc) (pc1 := 212) (by decide) ?_
    show Go _ _ _ _ (s₁.setTop (mkF m 212 #[i_ y] []))
    refine blk X0 hby b195 (pc' := 213) (Ls' := #[i_ y]) (st' := [(.int 1)]) rfl ?_
    exact retI' X0 hby hret d_method_4_code_213 rfl (fun S' hS' => ⟨by rw [if_pos (show wsB y = true from decide_eq_true hc)], rfl⟩)
  · refine gSwM X0 hby (pairs := swP) d_method_4_code_1 (by decide +kernel) (sw_miss hc) (pc1 := 214) (by decide) ?_
    show Go _ _ _ _ (s₁.setTop (mkF m 214 #[i_ y] []))
    refine blk X0 hby b196 (pc' := 215) (Ls' := #[i_ y]) (st' := [(.int 0)]) rfl ?_
    exact retI' X0 hby hret d_method_4_code_215 rfl (fun S' hS' => ⟨by rw [show wsB y = false from decide_eq_false hc]; rfl, rfl⟩)
theorem ef_method_3_code (m : MethodId) (x0 : Int32) : entryFrame m #[(.int x0)] 4 = mkF m 0 #[i_ x0, u_, u_, u_] [] := by first | (simp [entryFrame, mkF, argsToLocals, Value.category]; done) | rfl
theorem b197 : decs method_3_code 0 [.iload_n 0, .iconst 3, .iand, .istore_n 1, .iload_n 0, .iconst 2, .iushr, .bipush 25] = true := by decide +kernel
theorem d_method_3_code_9 : decode method_3_code 9 = .ok (.irem, 1) := by decide +kernel
theorem b198 : decs method_3_code 10 [.istore_n 2, .iload_n 1] = true := by decide +kernel
theorem d_method_3_code_12 : decode method_3_code 12 = .ok (.ifCond .ne 176, 3) := by decide +kernel
theorem b199 : decs method_3_code 188 [.iload_n 1, .iconst 1] = true := by decide +kernel
theorem d_method_3_code_190 : decode method_3_code 190 = .ok (.if_icmp .ne 173, 3) := by decide +kernel
theorem b200 : decs method_3_code 363 [.iload_n 0, .bipush 16, .iushr, .i2c] = true := by decide +kernel
theorem d_method_3_code_368 : decode method_3_code 368 = .ok (.ireturn, 1) := by decide +kernel
theorem b201 : decs method_3_code 193 [.bipush 25] = true := by decide +kernel
theorem d_method_3_code_195 : decode method_3_code 195 = .ok (.newarray .int, 2) := by decide +kernel
theorem b202 : decs method_3_code 197 [.dup, .iconst 0, .iconst 0] = true := by decide +kernel
theorem d_method_3_code_200 : decode method_3_code 200 = .ok (.iastore, 1) := by decide +kernel
theorem b203 : decs method_3_code 201 [.dup, .iconst 1, .bipush 8] = true := by decide +kernel
theorem d_method_3_code_205 : decode method_3_code 205 = .ok (.iastore, 1) := by decide +kernel
theorem b204 : decs method_3_code 206 [.dup, .iconst 2, .bipush 14] = true := by decide +kernel
theorem d_method_3_code_210 : decode method_3_code 210 = .ok (.iastore, 1) := by decide +kernel
theorem b205 : decs method_3_code 211 [.dup, .iconst 3, .bipush 31] = true := by decide +kernel
theorem d_method_3_code_215 : decode method_3_code 215 = .ok (.iastore, 1) := by decide +kernel
theorem b206 : decs method_3_code 216 [.dup, .iconst 4, .bipush 33] = true := by decide +kernel
theorem d_method_3_code_220 : decode method_3_code 220 = .ok (.iastore, 1) := by decide +kernel
theorem b207 : decs method_3_code 221 [.dup, .iconst 5, .bipush 65] = true := by decide +kernel
theorem d_method_3_code_225 : decode method_3_code 225 = .ok (.iastore, 1) := by decide +kernel
theorem b208 : decs method_3_code 226 [.dup, .bipush 6, .sipush 132] = true := by decide +kernel
theorem d_method_3_code_232 : decode method_3_code 232 = .ok (.iastore, 1) := by decide +kernel
theorem b209 : decs method_3_code 233 [.dup, .bipush 7, .sipush 134] = true := by decide +kernel
theorem d_method_3_code_239 : decode method_3_code 239 = .ok (.iastore, 1) := by decide +kernel
theorem b210 : decs method_3_code 240 [.dup, .bipush 8, .sipush 159] = true := by decide +kernel
theorem d_method_3_code_246 : decode method_3_code 246 = .ok (.iastore, 1) := by decide +kernel
theorem b211 : decs method_3_code 247 [.dup, .bipush 9, .sipush 161] = true := by decide +kernel
theorem d_method_3_code_253 : decode method_3_code 253 = .ok (.iastore, 1) := by decide +kernel
theorem b212 : decs method_3_code 254 [.dup, .bipush 10, .sipush 5759] = true := by decide +kernel
theorem d_method_3_code_260 : decode method_3_code 260 = .ok (.iastore, 1) := by decide +kernel
theorem b213 : decs method_3_code 261 [.dup, .bipush 11, .sipush 5761] = true := by decide +kernel
theorem d_method_3_code_267 : decode method_3_code 267 = .ok (.iastore, 1) := by decide +kernel
theorem b214 : decs method_3_code 268 [.dup, .bipush 12, .sipush 6158] = true := by decide +kernel
theorem d_method_3_code_274 : decode method_3_code 274 = .ok (.iastore, 1) := by decide +kernel
theorem b215 : decs method_3_code 275 [.dup, .bipush 13, .sipush 8191] = true := by decide +kernel
theorem d_method_3_code_281 : decode method_3_code 281 = .ok (.iastore, 1) := by decide +kernel
theorem b216 : decs method_3_code 282 [.dup, .bipush 14, .sipush 8203] = true := by decide +kernel
theorem d_method_3_code_288 : decode method_3_code 288 = .ok (.iastore, 1) := by decide +kernel
theorem b217 : decs method_3_code 289 [.dup, .bipush 15, .sipush 8231] = true := by decide +kernel
theorem d_method_3_code_295 : decode method_3_code 295 = .ok (.iastore, 1) := by decide +kernel
theorem b218 : decs method_3_code 296 [.dup, .bipush 16, .sipush 8234] = true := by decide +kernel
theorem d_method_3_code_302 : decode method_3_code 302 = .ok (.iastore, 1) := by decide +kernel
theorem b219 : decs method_3_code 303 [.dup, .bipush 17, .sipush 8238] = true := by decide +kernel
theorem d_method_3_code_309 : decode method_3_code 309 = .ok (.iastore, 1) := by decide +kernel
theorem b220 : decs method_3_code 310 [.dup, .bipush 18, .sipush 8240] = true := by decide +kernel
theorem d_method_3_code_316 : decode method_3_code 316 = .ok (.iastore, 1) := by decide +kernel
theorem b221 : decs method_3_code 317 [.dup, .bipush 19, .sipush 8286] = true := by decide +kernel
theorem d_method_3_code_323 : decode method_3_code 323 = .ok (.iastore, 1) := by decide +kernel
theorem b222 : decs method_3_code 324 [.dup, .bipush 20, .sipush 8288] = true := by decide +kernel
theorem d_method_3_code_330 : decode method_3_code 330 = .ok (.iastore, 1) := by decide +kernel
theorem b223 : decs method_3_code 331 [.dup, .bipush 21, .sipush 12287] = true := by decide +kernel
theorem d_method_3_code_337 : decode method_3_code 337 = .ok (.iastore, 1) := by decide +kernel
theorem b224 : decs method_3_code 338 [.dup, .bipush 22, .sipush 12289] = true := by decide +kernel
theorem d_method_3_code_344 : decode method_3_code 344 = .ok (.iastore, 1) := by decide +kernel
theorem b225 : decs method_3_code 345 [.dup, .bipush 23] = true := by decide +kernel
theorem d_method_3_code_348 : decode method_3_code 348 = .ok (.ldc 36, 2) := by decide +kernel
theorem d_method_3_code_350 : decode method_3_code 350 = .ok (.iastore, 1) := by decide +kernel
theorem b226 : decs method_3_code 351 [.dup, .bipush 24] = true := by decide +kernel
theorem d_method_3_code_354 : decode method_3_code 354 = .ok (.ldc 37, 2) := by decide +kernel
theorem d_method_3_code_356 : decode method_3_code 356 = .ok (.iastore, 1) := by decide +kernel
theorem b227 : decs method_3_code 357 [.astore_n 3, .aload_n 3, .iload_n 2] = true := by decide +kernel
theorem d_method_3_code_360 : decode method_3_code 360 = .ok (.iaload, 1) := by decide +kernel
theorem b228 : decs method_3_code 361 [.i2c] = true := by decide +kernel
theorem d_method_3_code_362 : decode method_3_code 362 = .ok (.ireturn, 1) := by decide +kernel
theorem b229 : decs method_3_code 15 [.bipush 25] = true := by decide +kernel
theorem d_method_3_code_17 : decode method_3_code 17 = .ok (.newarray .int, 2) := by decide +kernel
theorem b230 : decs method_3_code 19 [.dup, .iconst 0, .bipush 9] = true := by decide +kernel
theorem d_method_3_code_23 : decode method_3_code 23 = .ok (.iastore, 1) := by decide +kernel
theorem b231 : decs method_3_code 24 [.dup, .iconst 1, .bipush 10] = true := by decide +kernel
theorem d_method_3_code_28 : decode method_3_code 28 = .ok (.iastore, 1) := by decide +kernel
theorem b232 : decs method_3_code 29 [.dup, .iconst 2, .bipush 11] = true := by decide +kernel
theorem d_method_3_code_33 : decode method_3_code 33 = .ok (.iastore, 1) := by decide +kernel
theorem b233 : decs method_3_code 34 [.dup, .iconst 3, .bipush 12] = true := by decide +kernel
theorem d_method_3_code_38 : decode method_3_code 38 = .ok (.iastore, 1) := by decide +kernel
theorem b234 : decs method_3_code 39 [.dup, .iconst 4, .bipush 13] = true := by decide +kernel
theorem d_method_3_code_43 : decode method_3_code 43 = .ok (.iastore, 1) := by decide +kernel
theorem b235 : decs method_3_code 44 [.dup, .iconst 5, .bipush 32] = true := by decide +kernel
theorem d_method_3_code_48 : decode method_3_code 48 = .ok (.iastore, 1) := by decide +kernel
theorem b236 : decs method_3_code 49 [.dup, .bipush 6, .sipush 133] = true := by decide +kernel
theorem d_method_3_code_55 : decode method_3_code 55 = .ok (.iastore, 1) := by decide +kernel
theorem b237 : decs method_3_code 56 [.dup, .bipush 7, .sipush 160] = true := by decide +kernel
theorem d_method_3_code_62 : decode method_3_code 62 = .ok (.iastore, 1) := by decide +kernel
theorem b238 : decs method_3_code 63 [.dup, .bipush 8, .sipush 5760] = true := by decide +kernel
theorem d_method_3_code_69 : decode method_3_code 69 = .ok (.iastore, 1) := by decide +kernel
theorem b239 : decs method_3_code 70 [.dup, .bipush 9, .sipush 8192] = true := by decide +kernel
theorem d_method_3_code_76 : decode method_3_code 76 = .ok (.iastore, 1) := by decide +kernel
theorem b240 : decs method_3_code 77 [.dup, .bipush 10, .sipush 8193] = true := by decide +kernel
theorem d_method_3_code_83 : decode method_3_code 83 = .ok (.iastore, 1) := by decide +kernel
theorem b241 : decs method_3_code 84 [.dup, .bipush 11, .sipush 8194] = true := by decide +kernel
theorem d_method_3_code_90 : decode method_3_code 90 = .ok (.iastore, 1) := by decide +kernel
theorem b242 : decs method_3_code 91 [.dup, .bipush 12, .sipush 8195] = true := by decide +kernel
theorem d_method_3_code_97 : decode method_3_code 97 = .ok (.iastore, 1) := by decide +kernel
theorem b243 : decs method_3_code 98 [.dup, .bipush 13, .sipush 8196] = true := by decide +kernel
theorem d_method_3_code_104 : decode method_3_code 104 = .ok (.iastore, 1) := by decide +kernel
theorem b244 : decs method_3_code 105 [.dup, .bipush 14, .sipush 8197] = true := by decide +kernel
theorem d_method_3_code_111 : decode method_3_code 111 = .ok (.iastore, 1) := by decide +kernel
theorem b245 : decs method_3_code 112 [.dup, .bipush 15, .sipush 8198] = true := by decide +kernel
theorem d_method_3_code_118 : decode method_3_code 118 = .ok (.iastore, 1) := by decide +kernel
theorem b246 : decs method_3_code 119 [.dup, .bipush 16, .sipush 8199] = true := by decide +kernel
theorem d_method_3_code_125 : decode method_3_code 125 = .ok (.iastore, 1) := by decide +kernel
theorem b247 : decs method_3_code 126 [.dup, .bipush 17, .sipush 8200] = true := by decide +kernel
theorem d_method_3_code_132 : decode method_3_code 132 = .ok (.iastore, 1) := by decide +kernel
theorem b248 : decs method_3_code 133 [.dup, .bipush 18, .sipush 8201] = true := by decide +kernel
theorem d_method_3_code_139 : decode method_3_code 139 = .ok (.iastore, 1) := by decide +kernel
theorem b249 : decs method_3_code 140 [.dup, .bipush 19, .sipush 8202] = true := by decide +kernel
theorem d_method_3_code_146 : decode method_3_code 146 = .ok (.iastore, 1) := by decide +kernel
theorem b250 : decs method_3_code 147 [.dup, .bipush 20, .sipush 8232] = true := by decide +kernel
theorem d_method_3_code_153 : decode method_3_code 153 = .ok (.iastore, 1) := by decide +kernel
theorem b251 : decs method_3_code 154 [.dup, .bipush 21, .sipush 8233] = true := by decide +kernel
theorem d_method_3_code_160 : decode method_3_code 160 = .ok (.iastore, 1) := by decide +kernel
theorem b252 : decs method_3_code 161 [.dup, .bipush 22, .sipush 8239] = true := by decide +kernel
theorem d_method_3_code_167 : decode method_3_code 167 = .ok (.iastore, 1) := by decide +kernel
theorem b253 : decs method_3_code 168 [.dup, .bipush 23, .sipush 8287] = true := by decide +kernel
theorem d_method_3_code_174 : decode method_3_code 174 = .ok (.iastore, 1) := by decide +kernel
theorem b254 : decs method_3_code 175 [.dup, .bipush 24, .sipush 12288] = true := by decide +kernel
theorem d_method_3_code_181 : decode method_3_code 181 = .ok (.iastore, 1) := by decide +kernel
theorem b255 : decs method_3_code 182 [.astore_n 3, .aload_n 3, .iload_n 2] = true := by decide +kernel
theorem d_method_3_code_185 : decode method_3_code 185 = .ok (.iaload, 1) := by decide +kernel
theorem b256 : decs method_3_code 186 [.i2c] = true := by decide +kernel
theorem d_method_3_code_187 : decode method_3_code 187 = .ok (.ireturn, 1) := by decide +kernel
def QPK (h0 : Heap) (v : Option Value) (h : Heap) (S : Addr → Prop) : Prop := ∃ c, v = some (.int c) ∧ (¬ c < 0 ∧ ¬ 65535 < c) ∧ Keep h0 h []
set_option maxRecDepth 65536 in
set_option maxHeartbeats 40000000 in
theorem ct_pick {h0 : Heap} {pp : Int32} (hw : ∀ d ∈ tables_1, d.before a0 Z = true) (hEL : EW Z a0 EL) (hO : Old Z Z.heap.size h0)  :
    Ct true false Z EL l (⟨"com/example/nay1/nay1/lexicon/LexiconLineEntryPinLaw", "pick", "(I)C"⟩ : MethodName) method_3_code 4 (some .char) ({ frames := 0, cells := 1, slots := 25, locals := 0 } : Room) #[(.int pp)] h0 [] (QPK h0) := by
  refine ctOf (plainFor_of_name pn_com_example_nay1_nay1_lexicon_LexiconLineEntryPinLaw) hO hEL ?_
  intro p e s m below meth c s₁ S0 X0 hby hml hret hnm hsf
  refine Go.entry (ef_method_3_code m pp) ?_
  show Go _ _ _ _ (s₁.setTop (mkF m 0 #[i_ pp, u_, u_, u_] []))
  refine blk X0 hby b197 (pc' := 9) (Ls' := #[i_ pp, i_ (pp &&& (3 : Int32)), u_, u_]) (st' := [(.int 25), (.int (XT.ushr pp (2 : Int32)))]) rfl ?_
  refine gRem X0 hby d_method_3_code_9 (by decide) ?_
  obtain ⟨i, hi, ei⟩ := idx25 pp
  rw [ei]
  show Go _ _ _ _ (s₁.setTop (mkF m 10 #[i_ pp, i_ (pp &&& (3 : Int32)), u_, u_] [(.int (Int32.ofNat i))]))
  refine blk X0 hby b198 (pc' := 12) (Ls' := #[i_ pp, i_ (pp &&& (3 : Int32)), i_ (Int32.ofNat i), u_]) (st' := [(.int (pp &&& (3 : Int32)))]) rfl ?_
  refine br0 X0 hby d_method_3_code_12 (pc1 := 188) (by decide) (fun hc => ?_) (fun hc => ?_)
  · replace hc := neT hc
    refine blk X0 hby b199 (pc' := 190) (Ls' := #[i_ pp, i_ (pp &&& (3 : Int32)), i_ (Int32.ofNat i), u_]) (st' := [(.int 1), (.int (pp &&& (3 : Int32)))]) rfl ?_
    refine brI X0 hby d_method_3_code_190 (pc1 := 363) (by decide) (fun hd => ?_) (fun hd => ?_)
    · replace hd := neT hd
      refine blk X0 hby b200 (pc' := 368) (Ls' := #[i_ pp, i_ (pp &&& (3 : Int32)), i_ (Int32.ofNat i), u_]) (st' := [(.int (chr16 (XT.ushr pp (16 : Int32))))]) rfl ?_
      exact retI' X0 hby hret d_method_3_code_368 (XT.narrow_c _) (fun S' hS' => ⟨_, rfl, chr_rng _, Keep.refl _ _⟩)
    · replace hd := neF hd
      refine blk X0 hby b201 (pc' := 195) (Ls' := #[i_ pp, i_ (pp &&& (3 : Int32)), i_ (Int32.ofNat i), u_]) (st' := [(.int 25)]) rfl ?_
      refine gNewA X0 hby (aty := .int) (hw _ (List.mem_of_getElem? (i := 5) rfl)) d_method_3_code_195 rfl (N := 25) (cap := 25) rfl (by decide) (by decide) (by decide) (by decide) (fun T1 h1 S1 X1 E1 V1 sS1 sn1 => ?_)
      obtain ⟨ys, hV, hl⟩ : ∃ ys, Ari Z h1 h0.size .int ys ∧ ys.length = 25 := ⟨_, V1, rfl⟩
      have hs := sn1
      have hK : Keep h0 h1 [] := (Keep.refl h0 []).ext E1
      refine blk X1 hby b202 (pc' := 200) (Ls' := #[i_ pp, i_ (pp &&& (3 : Int32)), i_ (Int32.ofNat i), u_]) (st' := [(.int 0), (.int 0), (.ref (h0.size)), (.ref (h0.size))]) rfl ?_
      refine gSt X1 hby hV (Or.inl ⟨rfl, rfl⟩) d_method_3_code_200 (i := 0) rfl (by omega) rfl hO.2.1 hs (fun T2 h2 S2 X2 W2 V2 sS2 => ?_)
      replace hs := sS2 _ hs; replace hK := hK.wr W2 (Or.inr (Nat.le_refl _))
      obtain ⟨ys, hV, hl⟩ : ∃ ys, Ari Z h2 h0.size .int ys ∧ ys.length = 25 := ⟨_, V2, by rw [List.length_set]; exact hl⟩
      refine blk X2 hby b203 (pc' := 205) (Ls' := #[i_ pp, i_ (pp &&& (3 : Int32)), i_ (Int32.ofNat i), u_]) (st' := [(.int 8), (.int 1), (.ref (h0.size)), (.ref (h0.size))]) rfl ?_
      refine gSt X2 hby hV (Or.inl ⟨rfl, rfl⟩) d_method_3_code_205 (i := 1) rfl (by omega) rfl hO.2.1 hs (fun T3 h3 S3 X3 W3 V3 sS3 => ?_)
      replace hs := sS3 _ hs; replace hK := hK.wr W3 (Or.inr (Nat.le_refl _))
      obtain ⟨ys, hV, hl⟩ : ∃ ys, Ari Z h3 h0.size .int ys ∧ ys.length = 25 := ⟨_, V3, by rw [List.length_set]; exact hl⟩
      refine blk X3 hby b204 (pc' := 210) (Ls' := #[i_ pp, i_ (pp &&& (3 : Int32)), i_ (Int32.ofNat i), u_]) (st' := [(.int 14), (.int 2), (.ref (h0.size)), (.ref (h0.size))]) rfl ?_
      refine gSt X3 hby hV (Or.inl ⟨rfl, rfl⟩) d_method_3_code_210 (i := 2) rfl (by omega) rfl hO.2.1 hs (fun T4 h4 S4 X4 W4 V4 sS4 => ?_)
      replace hs := sS4 _ hs; replace hK := hK.wr W4 (Or.inr (Nat.le_refl _))
      obtain ⟨ys, hV, hl⟩ : ∃ ys, Ari Z h4 h0.size .int ys ∧ ys.length = 25 := ⟨_, V4, by rw [List.length_set]; exact hl⟩
      refine blk X4 hby b205 (pc' := 215) (Ls' := #[i_ pp, i_ (pp &&& (3 : Int32)), i_ (Int32.ofNat i), u_]) (st' := [(.int 31), (.int 3), (.ref (h0.size)), (.ref (h0.size))]) rfl ?_
      refine gSt X4 hby hV (Or.inl ⟨rfl, rfl⟩) d_method_3_code_215 (i := 3) rfl (by omega) rfl hO.2.1 hs (fun T5 h5 S5 X5 W5 V5 sS5 => ?_)
      replace hs := sS5 _ hs; replace hK := hK.wr W5 (Or.inr (Nat.le_refl _))
      obtain ⟨ys, hV, hl⟩ : ∃ ys, Ari Z h5 h0.size .int ys ∧ ys.length = 25 := ⟨_, V5, by rw [List.length_set]; exact hl⟩
      refine blk X5 hby b206 (pc' := 220) (Ls' := #[i_ pp, i_ (pp &&& (3 : Int32)), i_ (Int32.ofNat i), u_]) (st' := [(.int 33), (.int 4), (.ref (h0.size)), (.ref (h0.size))]) rfl ?_
      refine gSt X5 hby hV (Or.inl ⟨rfl, rfl⟩) d_method_3_code_220 (i := 4) rfl (by omega) rfl hO.2.1 hs (fun T6 h6 S6 X6 W6 V6 sS6 => ?_)
      replace hs := sS6 _ hs; replace hK := hK.wr W6 (Or.inr (Nat.le_refl _))
      obtain ⟨ys, hV, hl⟩ : ∃ ys, Ari Z h6 h0.size .int ys ∧ ys.length = 25 := ⟨_, V6, by rw [List.length_set]; exact hl⟩
      refine blk X6 hby b207 (pc' := 225) (Ls' := #[i_ pp, i_ (pp &&& (3 : Int32)), i_ (Int32.ofNat i), u_]) (st' := [(.int 65), (.int 5), (.ref (h0.size)), (.ref (h0.size))]) rfl ?_
      refine gSt X6 hby hV (Or.inl ⟨rfl, rfl⟩) d_method_3_code_225 (i := 5) rfl (by omega) rfl hO.2.1 hs (fun T7 h7 S7 X7 W7 V7 sS7 => ?_)
      replace hs := sS7 _ hs; replace hK := hK.wr W7 (Or.inr (Nat.le_refl _))
      obtain ⟨ys, hV, hl⟩ : ∃ ys, Ari Z h7 h0.size .int ys ∧ ys.length = 25 := ⟨_, V7, by rw [List.length_set]; exact hl⟩
      refine blk X7 hby b208 (pc' := 232) (Ls' := #[i_ pp, i_ (pp &&& (3 : Int32)), i_ (Int32.ofNat i), u_]) (st' := [(.int 132), (.int 6), (.ref (h0.size)), (.ref (h0.size))]) rfl ?_
      refine gSt X7 hby hV (Or.inl ⟨rfl, rfl⟩) d_method_3_code_232 (i := 6) rfl (by omega) rfl hO.2.1 hs (fun T8 h8 S8 X8 W8 V8 sS8 => ?_)
      replace hs := sS8 _ hs; replace hK := hK.wr W8 (Or.inr (Nat.le_refl _))
      obtain ⟨ys, hV, hl⟩ : ∃ ys, Ari Z h8 h0.size .int ys ∧ ys.length = 25 := ⟨_, V8, by rw [List.length_set]; exact hl⟩
      refine blk X8 hby b209 (pc' := 239) (Ls' := #[i_ pp, i_ (pp &&& (3 : Int32)), i_ (Int32.ofNat i), u_]) (st' := [(.int 134), (.int 7), (.ref (h0.size)), (.ref (h0.size))]) rfl ?_
      refine gSt X8 hby hV (Or.inl ⟨rfl, rfl⟩) d_method_3_code_239 (i := 7) rfl (by omega) rfl hO.2.1 hs (fun T9 h9 S9 X9 W9 V9 sS9 => ?_)
      replace hs := sS9 _ hs; replace hK := hK.wr W9 (Or.inr (Nat.le_refl _))
      obtain ⟨ys, hV, hl⟩ : ∃ ys, Ari Z h9 h0.size .int ys ∧ ys.length = 25 := ⟨_, V9, by rw [List.length_set]; exact hl⟩
      refine blk X9 hby b210 (pc' := 246) (Ls' := #[i_ pp, i_ (pp &&& (3 : Int32)), i_ (Int32.ofNat i), u_]) (st' := [(.int 159), (.int 8), (.ref (h0.size)), (.ref (h0.size))]) rfl ?_
      refine gSt X9 hby hV (Or.inl ⟨rfl, rfl⟩) d_method_3_code_246 (i := 8) rfl (by omega) rfl hO.2.1 hs (fun T10 h10 S10 X10 W10 V10 sS10 => ?_)
      replace hs := sS10 _ hs; replace hK := hK.wr W10 (Or.inr (Nat.le_refl _))
      obtain ⟨ys, hV, hl⟩ : ∃ ys, Ari Z h10 h0.size .int ys ∧ ys.length = 25 := ⟨_, V10, by rw [List.length_set]; exact hl⟩
      refine blk X10 hby b211 (pc' := 253) (Ls' := #[i_ pp, i_ (pp &&& (3 : Int32)), i_ (Int32.ofNat i), u_]) (st' := [(.int 161), (.int 9), (.ref (h0.size)), (.ref (h0.size))]) rfl ?_
      refine gSt X10 hby hV (Or.inl ⟨rfl, rfl⟩) d_method_3_code_253 (i := 9) rfl (by omega) rfl hO.2.1 hs (fun T11 h11 S11 X11 W11 V11 sS11 => ?_)
      replace hs := sS11 _ hs; replace hK := hK.wr W11 (Or.inr (Nat.le_refl _))
      obtain ⟨ys, hV, hl⟩ : ∃ ys, Ari Z h11 h0.size .int ys ∧ ys.length = 25 := ⟨_, V11, by rw [List.length_set]; exact hl⟩
      refine blk X11 hby b212 (pc' := 260) (Ls' := #[i_ pp, i_ (pp &&& (3 : Int32)), i_ (Int32.ofNat i), u_]) (st' := [(.int 5759), (.int 10), (.ref (h0.size)), (.ref (h0.size))]) rfl ?_
      refine gSt X11 hby hV (Or.inl ⟨rfl, rfl⟩) d_method_3_code_260 (i := 10) rfl (by omega) rfl hO.2.1 hs (fun T12 h12 S12 X12 W12 V12 sS12 => ?_)
      replace hs := sS12 _ hs; replace hK := hK.wr W12 (Or.inr (Nat.le_refl _))
      obtain ⟨ys, hV, hl⟩ : ∃ ys, Ari Z h12 h0.size .int ys ∧ ys.length = 25 := ⟨_, V12, by rw [List.length_set]; exact hl⟩
      refine blk X12 hby b213 (pc' := 267) (Ls' := #[i_ pp, i_ (pp &&& (3 : Int32)), i_ (Int32.ofNat i), u_]) (st' := [(.int 5761), (.int 11), (.ref (h0.size)), (.ref (h0.size))]) rfl ?_
      refine gSt X12 hby hV (Or.inl ⟨rfl, rfl⟩) d_method_3_code_267 (i := 11) rfl (by omega) rfl hO.2.1 hs (fun T13 h13 S13 X13 W13 V13 sS13 => ?_)
      replace hs := sS13 _ hs; replace hK := hK.wr W13 (Or.inr (Nat.le_refl _))
      obtain ⟨ys, hV, hl⟩ : ∃ ys, Ari Z h13 h0.size .int ys ∧ ys.length = 25 := ⟨_, V13, by rw [List.length_set]; exact hl⟩
      refine blk X13 hby b214 (pc' := 274) (Ls' := #[i_ pp, i_ (pp &&& (3 : Int32)), i_ (Int32.ofNat i), u_]) (st' := [(.int 6158), (.int 12), (.ref (h0.size)), (.ref (h0.size))]) rfl ?_
      refine gSt X13 hby hV (Or.inl ⟨rfl, rfl⟩) d_method_3_code_274 (i := 12) rfl (by omega) rfl hO.2.1 hs (fun T14 h14 S14 X14 W14 V14 sS14 => ?_)
      replace hs := sS14 _ hs; replace hK := hK.wr W14 (Or.inr (Nat.le_refl _))
      obtain ⟨ys, hV, hl⟩ : ∃ ys, Ari Z h14 h0.size .int ys ∧ ys.length = 25 := ⟨_, V14, by rw [List.length_set]; exact hl⟩
      refine blk X14 hby b215 (pc' := 281) (Ls' := #[i_ pp, i_ (pp &&& (3 : Int32)), i_ (Int32.ofNat i), u_]) (st' := [(.int 8191), (.int 13), (.ref (h0.size)), (.ref (h0.size))]) rfl ?_
      refine gSt X14 hby hV (Or.inl ⟨rfl, rfl⟩) d_method_3_code_281 (i := 13) rfl (by omega) rfl hO.2.1 hs (fun T15 h15 S15 X15 W15 V15 sS15 => ?_)
      replace hs := sS15 _ hs; replace hK := hK.wr W15 (Or.inr (Nat.le_refl _))
      obtain ⟨ys, hV, hl⟩ : ∃ ys, Ari Z h15 h0.size .int ys ∧ ys.length = 25 := ⟨_, V15, by rw [List.length_set]; exact hl⟩
      refine blk X15 hby b216 (pc' := 288) (Ls' := #[i_ pp, i_ (pp &&& (3 : Int32)), i_ (Int32.ofNat i), u_]) (st' := [(.int 8203), (.int 14), (.ref (h0.size)), (.ref (h0.size))]) rfl ?_
      refine gSt X15 hby hV (Or.inl ⟨rfl, rfl⟩) d_method_3_code_288 (i := 14) rfl (by omega) rfl hO.2.1 hs (fun T16 h16 S16 X16 W16 V16 sS16 => ?_)
      replace hs := sS16 _ hs; replace hK := hK.wr W16 (Or.inr (Nat.le_refl _))
      obtain ⟨ys, hV, hl⟩ : ∃ ys, Ari Z h16 h0.size .int ys ∧ ys.length = 25 := ⟨_, V16, by rw [List.length_set]; exact hl⟩
      refine blk X16 hby b217 (pc' := 295) (Ls' := #[i_ pp, i_ (pp &&& (3 : Int32)), i_ (Int32.ofNat i), u_]) (st' := [(.int 8231), (.int 15), (.ref (h0.size)), (.ref (h0.size))]) rfl ?_
      refine gSt X16 hby hV (Or.inl ⟨rfl, rfl⟩) d_method_3_code_295 (i := 15) rfl (by omega) rfl hO.2.1 hs (fun T17 h17 S17 X17 W17 V17 sS17 => ?_)
      replace hs := sS17 _ hs; replace hK := hK.wr W17 (Or.inr (Nat.le_refl _))
      obtain ⟨ys, hV, hl⟩ : ∃ ys, Ari Z h17 h0.size .int ys ∧ ys.length = 25 := ⟨_, V17, by rw [List.length_set]; exact hl⟩
      refine blk X17 hby b218 (pc' := 302) (Ls' := #[i_ pp, i_ (pp &&& (3 : Int32)), i_ (Int32.ofNat i), u_]) (st' := [(.int 8234), (.int 16), (.ref (h0.size)), (.ref (h0.size))]) rfl ?_
      refine gSt X17 hby hV (Or.inl ⟨rfl, rfl⟩) d_method_3_code_302 (i := 16) rfl (by omega) rfl hO.2.1 hs (fun T18 h18 S18 X18 W18 V18 sS18 => ?_)
      replace hs := sS18 _ hs; replace hK := hK.wr W18 (Or.inr (Nat.le_refl _))
      obtain ⟨ys, hV, hl⟩ : ∃ ys, Ari Z h18 h0.size .int ys ∧ ys.length = 25 := ⟨_, V18, by rw [List.length_set]; exact hl⟩
      refine blk X18 hby b219 (pc' := 309) (Ls' := #[i_ pp, i_ (pp &&& (3 : Int32)), i_ (Int32.ofNat i), u_]) (st' := [(.int 8238), (.int 17), (.ref (h0.size)), (.ref (h0.size))]) rfl ?_
      refine gSt X18 hby hV (Or.inl ⟨rfl, rfl⟩) d_method_3_code_309 (i := 17) rfl (by omega) rfl hO.2.1 hs (fun T19 h19 S19 X19 W19 V19 sS19 => ?_)
      replace hs := sS19 _ hs; replace hK := hK.wr W19 (Or.inr (Nat.le_refl _))
      obtain ⟨ys, hV, hl⟩ : ∃ ys, Ari Z h19 h0.size .int ys ∧ ys.length = 25 := ⟨_, V19, by rw [List.length_set]; exact hl⟩
      refine blk X19 hby b220 (pc' := 316) (Ls' := #[i_ pp, i_ (pp &&& (3 : Int32)), i_ (Int32.ofNat i), u_]) (st' := [(.int 8240), (.int 18), (.ref (h0.size)), (.ref (h0.size))]) rfl ?_
      refine gSt X19 hby hV (Or.inl ⟨rfl, rfl⟩) d_method_3_code_316 (i := 18) rfl (by omega) rfl hO.2.1 hs (fun T20 h20 S20 X20 W20 V20 sS20 => ?_)
      replace hs := sS20 _ hs; replace hK := hK.wr W20 (Or.inr (Nat.le_refl _))
      obtain ⟨ys, hV, hl⟩ : ∃ ys, Ari Z h20 h0.size .int ys ∧ ys.length = 25 := ⟨_, V20, by rw [List.length_set]; exact hl⟩
      refine blk X20 hby b221 (pc' := 323) (Ls' := #[i_ pp, i_ (pp &&& (3 : Int32)), i_ (Int32.ofNat i), u_]) (st' := [(.int 8286), (.int 19), (.ref (h0.size)), (.ref (h0.size))]) rfl ?_
      refine gSt X20 hby hV (Or.inl ⟨rfl, rfl⟩) d_method_3_code_323 (i := 19) rfl (by omega) rfl hO.2.1 hs (fun T21 h21 S21 X21 W21 V21 sS21 => ?_)
      replace hs := sS21 _ hs; replace hK := hK.wr W21 (Or.inr (Nat.le_refl _))
      obtain ⟨ys, hV, hl⟩ : ∃ ys, Ari Z h21 h0.size .int ys ∧ ys.length = 25 := ⟨_, V21, by rw [List.length_set]; exact hl⟩
      refine blk X21 hby b222 (pc' := 330) (Ls' := #[i_ pp, i_ (pp &&& (3 : Int32)), i_ (Int32.ofNat i), u_]) (st' := [(.int 8288), (.int 20), (.ref (h0.size)), (.ref (h0.size))]) rfl ?_
      refine gSt X21 hby hV (Or.inl ⟨rfl, rfl⟩) d_method_3_code_330 (i := 20) rfl (by omega) rfl hO.2.1 hs (fun T22 h22 S22 X22 W22 V22 sS22 => ?_)
      replace hs := sS22 _ hs; replace hK := hK.wr W22 (Or.inr (Nat.le_refl _))
      obtain ⟨ys, hV, hl⟩ : ∃ ys, Ari Z h22 h0.size .int ys ∧ ys.length = 25 := ⟨_, V22, by rw [List.length_set]; exact hl⟩
      refine blk X22 hby b223 (pc' := 337) (Ls' := #[i_ pp, i_ (pp &&& (3 : Int32)), i_ (Int32.ofNat i), u_]) (st' := [(.int 12287), (.int 21), (.ref (h0.size)), (.ref (h0.size))]) rfl ?_
      refine gSt X22 hby hV (Or.inl ⟨rfl, rfl⟩) d_method_3_code_337 (i := 21) rfl (by omega) rfl hO.2.1 hs (fun T23 h23 S23 X23 W23 V23 sS23 => ?_)
      replace hs := sS23 _ hs; replace hK := hK.wr W23 (Or.inr (Nat.le_refl _))
      obtain ⟨ys, hV, hl⟩ : ∃ ys, Ari Z h23 h0.size .int ys ∧ ys.length = 25 := ⟨_, V23, by rw [List.length_set]; exact hl⟩
      refine blk X23 hby b224 (pc' := 344) (Ls' := #[i_ pp, i_ (pp &&& (3 : Int32)), i_ (Int32.ofNat i), u_]) (st' := [(.int 12289), (.int 22), (.ref (h0.size)), (.ref (h0.size))]) rfl ?_
      refine gSt X23 hby hV (Or.inl ⟨rfl, rfl⟩) d_method_3_code_344 (i := 22) rfl (by omega) rfl hO.2.1 hs (fun T24 h24 S24 X24 W24 V24 sS24 => ?_)
      replace hs := sS24 _ hs; replace hK := hK.wr W24 (Or.inr (Nat.le_refl _))
      obtain ⟨ys, hV, hl⟩ : ∃ ys, Ari Z h24 h0.size .int ys ∧ ys.length = 25 := ⟨_, V24, by rw [List.length_set]; exact hl⟩
      refine blk X24 hby b225 (pc' := 348) (Ls' := #[i_ pp, i_ (pp &&& (3 : Int32)), i_ (Int32.ofNat i), u_]) (st' := [(.int 23), (.ref (h0.size)), (.ref (h0.size))]) rfl ?_
      refine gLdcI X24 hby (hw _ (List.mem_of_getElem? (i := 6) rfl)) d_method_3_code_348 ?_
      refine gSt X24 hby hV (Or.inl ⟨rfl, rfl⟩) d_method_3_code_350 (i := 23) rfl (by omega) rfl hO.2.1 hs (fun T25 h25 S25 X25 W25 V25 sS25 => ?_)
      replace hs := sS25 _ hs; replace hK := hK.wr W25 (Or.inr (Nat.le_refl _))
      obtain ⟨ys, hV, hl⟩ : ∃ ys, Ari Z h25 h0.size .int ys ∧ ys.length = 25 := ⟨_, V25, by rw [List.length_set]; exact hl⟩
      refine blk X25 hby b226 (pc' := 354) (Ls' := #[i_ pp, i_ (pp &&& (3 : Int32)), i_ (Int32.ofNat i), u_]) (st' := [(.int 24), (.ref (h0.size)), (.ref (h0.size))]) rfl ?_
      refine gLdcI X25 hby (hw _ (List.mem_of_getElem? (i := 7) rfl)) d_method_3_code_354 ?_
      refine gSt X25 hby hV (Or.inl ⟨rfl, rfl⟩) d_method_3_code_356 (i := 24) rfl (by omega) rfl hO.2.1 hs (fun T26 h26 S26 X26 W26 V26 sS26 => ?_)
      replace hs := sS26 _ hs; replace hK := hK.wr W26 (Or.inr (Nat.le_refl _))
      obtain ⟨ys, hV, hl⟩ : ∃ ys, Ari Z h26 h0.size .int ys ∧ ys.length = 25 := ⟨_, V26, by rw [List.length_set]; exact hl⟩
      refine blk X26 hby b227 (pc' := 360) (Ls' := #[i_ pp, i_ (pp &&& (3 : Int32)), i_ (Int32.ofNat i), r_ (h0.size)]) (st' := [(.int (Int32.ofNat i)), (.ref (h0.size))]) rfl ?_
      refine gLd X26 hby hV (Or.inl ⟨rfl, rfl⟩) d_method_3_code_360 (i := i) rfl (by omega) ?_
      refine blk X26 hby b228 (pc' := 362) (Ls' := #[i_ pp, i_ (pp &&& (3 : Int32)), i_ (Int32.ofNat i), r_ (h0.size)]) (st' := [(.int (chr16 (ys.getD i 0)))]) rfl ?_
      exact retI' X26 hby hret d_method_3_code_362 (XT.narrow_c _) (fun S' hS' => ⟨_, rfl, chr_rng _, hK⟩)
  · replace hc := neF hc
    refine blk X0 hby b229 (pc' := 17) (Ls' := #[i_ pp, i_ (pp &&& (3 : Int32)), i_ (Int32.ofNat i), u_]) (st' := [(.int 25)]) rfl ?_
    refine gNewA X0 hby (aty := .int) (hw _ (List.mem_of_getElem? (i := 5) rfl)) d_method_3_code_17 rfl (N := 25) (cap := 25) rfl (by decide) (by decide) (by decide) (by decide) (fun T1 h1 S1 X1 E1 V1 sS1 sn1 => ?_)
    obtain ⟨ys, hV, hl⟩ : ∃ ys, Ari Z h1 h0.size .int ys ∧ ys.length = 25 := ⟨_, V1, rfl⟩
    have hs := sn1
    have hK : Keep h0 h1 [] := (Keep.refl h0 []).ext E1
    refine blk X1 hby b230 (pc' := 23) (Ls' := #[i_ pp, i_ (pp &&& (3 : Int32)), i_ (Int32.ofNat i), u_]) (st' := [(.int 9), (.int 0), (.ref (h0.size)), (.ref (h0.size))]) rfl ?_
    refine gSt X1 hby hV (Or.inl ⟨rfl, rfl⟩) d_method_3_code_23 (i := 0) rfl (by omega) rfl hO.2.1 hs (fun T2 h2 S2 X2 W2 V2 sS2 => ?_)
    replace hs := sS2 _ hs; replace hK := hK.wr W2 (Or.inr (Nat.le_refl _))
    obtain ⟨ys, hV, hl⟩ : ∃ ys, Ari Z h2 h0.size .int ys ∧ ys.length = 25 := ⟨_, V2, by rw [List.length_set]; exact hl⟩
    refine blk X2 hby b231 (pc' := 28) (Ls' := #[i_ pp, i_ (pp &&& (3 : Int32)), i_ (Int32.ofNat i), u_]) (st' := [(.int 10), (.int 1), (.ref (h0.size)), (.ref (h0.size))]) rfl ?_
    refine gSt X2 hby hV (Or.inl ⟨rfl, rfl⟩) d_method_3_code_28 (i := 1) rfl (by omega) rfl hO.2.1 hs (fun T3 h3 S3 X3 W3 V3 sS3 => ?_)
    replace hs := sS3 _ hs; replace hK := hK.wr W3 (Or.inr (Nat.le_refl _))
    obtain ⟨ys, hV, hl⟩ : ∃ ys, Ari Z h3 h0.size .int ys ∧ ys.length = 25 := ⟨_, V3, by rw [List.length_set]; exact hl⟩
    refine blk X3 hby b232 (pc' := 33) (Ls' := #[i_ pp, i_ (pp &&& (3 : Int32)), i_ (Int32.ofNat i), u_]) (st' := [(.int 11), (.int 2), (.ref (h0.size)), (.ref (h0.size))]) rfl ?_
    refine gSt X3 hby hV (Or.inl ⟨rfl, rfl⟩) d_method_3_code_33 (i := 2) rfl (by omega) rfl hO.2.1 hs (fun T4 h4 S4 X4 W4 V4 sS4 => ?_)
    replace hs := sS4 _ hs; replace hK := hK.wr W4 (Or.inr (Nat.le_refl _))
    obtain ⟨ys, hV, hl⟩ : ∃ ys, Ari Z h4 h0.size .int ys ∧ ys.length = 25 := ⟨_, V4, by rw [List.length_set]; exact hl⟩
    refine blk X4 hby b233 (pc' := 38) (Ls' := #[i_ pp, i_ (pp &&& (3 : Int32)), i_ (Int32.ofNat i), u_]) (st' := [(.int 12), (.int 3), (.ref (h0.size)), (.ref (h0.size))]) rfl ?_
    refine gSt X4 hby hV (Or.inl ⟨rfl, rfl⟩) d_method_3_code_38 (i := 3) rfl (by omega) rfl hO.2.1 hs (fun T5 h5 S5 X5 W5 V5 sS5 => ?_)
    replace hs := sS5 _ hs; replace hK := hK.wr W5 (Or.inr (Nat.le_refl _))
    obtain ⟨ys, hV, hl⟩ : ∃ ys, Ari Z h5 h0.size .int ys ∧ ys.length = 25 := ⟨_, V5, by rw [List.length_set]; exact hl⟩
    refine blk X5 hby b234 (pc' := 43) (Ls' := #[i_ pp, i_ (pp &&& (3 : Int32)), i_ (Int32.ofNat i), u_]) (st' := [(.int 13), (.int 4), (.ref (h0.size)), (.ref (h0.size))]) rfl ?_
    refine gSt X5 hby hV (Or.inl ⟨rfl, rfl⟩) d_method_3_code_43 (i := 4) rfl (by omega) rfl hO.2.1 hs (fun T6 h6 S6 X6 W6 V6 sS6 => ?_)
    replace hs := sS6 _ hs; replace hK := hK.wr W6 (Or.inr (Nat.le_refl _))
    obtain ⟨ys, hV, hl⟩ : ∃ ys, Ari Z h6 h0.size .int ys ∧ ys.length = 25 := ⟨_, V6, by rw [List.length_set]; exact hl⟩
    refine blk X6 hby b235 (pc' := 48) (Ls' := #[i_ pp, i_ (pp &&& (3 : Int32)), i_ (Int32.ofNat i), u_]) (st' := [(.int 32), (.int 5), (.ref (h0.size)), (.ref (h0.size))]) rfl ?_
    refine gSt X6 hby hV (Or.inl ⟨rfl, rfl⟩) d_method_3_code_48 (i := 5) rfl (by omega) rfl hO.2.1 hs (fun T7 h7 S7 X7 W7 V7 sS7 => ?_)
    replace hs := sS7 _ hs; replace hK := hK.wr W7 (Or.inr (Nat.le_refl _))
    obtain ⟨ys, hV, hl⟩ : ∃ ys, Ari Z h7 h0.size .int ys ∧ ys.length = 25 := ⟨_, V7, by rw [List.length_set]; exact hl⟩
    refine blk X7 hby b236 (pc' := 55) (Ls' := #[i_ pp, i_ (pp &&& (3 : Int32)), i_ (Int32.ofNat i), u_]) (st' := [(.int 133), (.int 6), (.ref (h0.size)), (.ref (h0.size))]) rfl ?_
    refine gSt X7 hby hV (Or.inl ⟨rfl, rfl⟩) d_method_3_code_55 (i := 6) rfl (by omega) rfl hO.2.1 hs (fun T8 h8 S8 X8 W8 V8 sS8 => ?_)
    replace hs := sS8 _ hs; replace hK := hK.wr W8 (Or.inr (Nat.le_refl _))
    obtain ⟨ys, hV, hl⟩ : ∃ ys, Ari Z h8 h0.size .int ys ∧ ys.length = 25 := ⟨_, V8, by rw [List.length_set]; exact hl⟩
    refine blk X8 hby b237 (pc' := 62) (Ls' := #[i_ pp, i_ (pp &&& (3 : Int32)), i_ (Int32.ofNat i), u_]) (st' := [(.int 160), (.int 7), (.ref (h0.size)), (.ref (h0.size))]) rfl ?_
    refine gSt X8 hby hV (Or.inl ⟨rfl, rfl⟩) d_method_3_code_62 (i := 7) rfl (by omega) rfl hO.2.1 hs (fun T9 h9 S9 X9 W9 V9 sS9 => ?_)
    replace hs := sS9 _ hs; replace hK := hK.wr W9 (Or.inr (Nat.le_refl _))
    obtain ⟨ys, hV, hl⟩ : ∃ ys, Ari Z h9 h0.size .int ys ∧ ys.length = 25 := ⟨_, V9, by rw [List.length_set]; exact hl⟩
    refine blk X9 hby b238 (pc' := 69) (Ls' := #[i_ pp, i_ (pp &&& (3 : Int32)), i_ (Int32.ofNat i), u_]) (st' := [(.int 5760), (.int 8), (.ref (h0.size)), (.ref (h0.size))]) rfl ?_
    refine gSt X9 hby hV (Or.inl ⟨rfl, rfl⟩) d_method_3_code_69 (i := 8) rfl (by omega) rfl hO.2.1 hs (fun T10 h10 S10 X10 W10 V10 sS10 => ?_)
    replace hs := sS10 _ hs; replace hK := hK.wr W10 (Or.inr (Nat.le_refl _))
    obtain ⟨ys, hV, hl⟩ : ∃ ys, Ari Z h10 h0.size .int ys ∧ ys.length = 25 := ⟨_, V10, by rw [List.length_set]; exact hl⟩
    refine blk X10 hby b239 (pc' := 76) (Ls' := #[i_ pp, i_ (pp &&& (3 : Int32)), i_ (Int32.ofNat i), u_]) (st' := [(.int 8192), (.int 9), (.ref (h0.size)), (.ref (h0.size))]) rfl ?_
    refine gSt X10 hby hV (Or.inl ⟨rfl, rfl⟩) d_method_3_code_76 (i := 9) rfl (by omega) rfl hO.2.1 hs (fun T11 h11 S11 X11 W11 V11 sS11 => ?_)
    replace hs := sS11 _ hs; replace hK := hK.wr W11 (Or.inr (Nat.le_refl _))
    obtain ⟨ys, hV, hl⟩ : ∃ ys, Ari Z h11 h0.size .int ys ∧ ys.length = 25 := ⟨_, V11, by rw [List.length_set]; exact hl⟩
    refine blk X11 hby b240 (pc' := 83) (Ls' := #[i_ pp, i_ (pp &&& (3 : Int32)), i_ (Int32.ofNat i), u_]) (st' := [(.int 8193), (.int 10), (.ref (h0.size)), (.ref (h0.size))]) rfl ?_
    refine gSt X11 hby hV (Or.inl ⟨rfl, rfl⟩) d_method_3_code_83 (i := 10) rfl (by omega) rfl hO.2.1 hs (fun T12 h12 S12 X12 W12 V12 sS12 => ?_)
    replace hs := sS12 _ hs; replace hK := hK.wr W12 (Or.inr (Nat.le_refl _))
    obtain ⟨ys, hV, hl⟩ : ∃ ys, Ari Z h12 h0.size .int ys ∧ ys.length = 25 := ⟨_, V12, by rw [List.length_set]; exact hl⟩
    refine blk X12 hby b241 (pc' := 90) (Ls' := #[i_ pp, i_ (pp &&& (3 : Int32)), i_ (Int32.ofNat i), u_]) (st' := [(.int 8194), (.int 11), (.ref (h0.size)), (.ref (h0.size))]) rfl ?_
    refine gSt X12 hby hV (Or.inl ⟨rfl, rfl⟩) d_method_3_code_90 (i := 11) rfl (by omega) rfl hO.2.1 hs (fun T13 h13 S13 X13 W13 V13 sS13 => ?_)
    replace hs := sS13 _ hs; replace hK := hK.wr W13 (Or.inr (Nat.le_refl _))
    obtain ⟨ys, hV, hl⟩ : ∃ ys, Ari Z h13 h0.size .int ys ∧ ys.length = 25 := ⟨_, V13, by rw [List.length_set]; exact hl⟩
    refine blk X13 hby b242 (pc' := 97) (Ls' := #[i_ pp, i_ (pp &&& (3 : Int32)), i_ (Int32.ofNat i), u_]) (st' := [(.int 8195), (.int 12), (.ref (h0.size)), (.ref (h0.size))]) rfl ?_
    refine gSt X13 hby hV (Or.inl ⟨rfl, rfl⟩) d_method_3_code_97 (i := 12) rfl (by omega) rfl hO.2.1 hs (fun T14 h14 S14 X14 W14 V14 sS14 => ?_)
    replace hs := sS14 _ hs; replace hK := hK.wr W14 (Or.inr (Nat.le_refl _))
    obtain ⟨ys, hV, hl⟩ : ∃ ys, Ari Z h14 h0.size .int ys ∧ ys.length = 25 := ⟨_, V14, by rw [List.length_set]; exact hl⟩
    refine blk X14 hby b243 (pc' := 104) (Ls' := #[i_ pp, i_ (pp &&& (3 : Int32)), i_ (Int32.ofNat i), u_]) (st' := [(.int 8196), (.int 13), (.ref (h0.size)), (.ref (h0.size))]) rfl ?_
    refine gSt X14 hby hV (Or.inl ⟨rfl, rfl⟩) d_method_3_code_104 (i := 13) rfl (by omega) rfl hO.2.1 hs (fun T15 h15 S15 X15 W15 V15 sS15 => ?_)
    replace hs := sS15 _ hs; replace hK := hK.wr W15 (Or.inr (Nat.le_refl _))
    obtain ⟨ys, hV, hl⟩ : ∃ ys, Ari Z h15 h0.size .int ys ∧ ys.length = 25 := ⟨_, V15, by rw [List.length_set]; exact hl⟩
    refine blk X15 hby b244 (pc' := 111) (Ls' := #[i_ pp, i_ (pp &&& (3 : Int32)), i_ (Int32.ofNat i), u_]) (st' := [(.int 8197), (.int 14), (.ref (h0.size)), (.ref (h0.size))]) rfl ?_
    refine gSt X15 hby hV (Or.inl ⟨rfl, rfl⟩) d_method_3_code_111 (i := 14) rfl (by omega) rfl hO.2.1 hs (fun T16 h16 S16 X16 W16 V16 sS16 => ?_)
    replace hs := sS16 _ hs; replace hK := hK.wr W16 (Or.inr (Nat.le_refl _))
    obtain ⟨ys, hV, hl⟩ : ∃ ys, Ari Z h16 h0.size .int ys ∧ ys.length = 25 := ⟨_, V16, by rw [List.length_set]; exact hl⟩
    refine blk X16 hby b245 (pc' := 118) (Ls' := #[i_ pp, i_ (pp &&& (3 : Int32)), i_ (Int32.ofNat i), u_]) (st' := [(.int 8198), (.int 15), (.ref (h0.size)), (.ref (h0.size))]) rfl ?_
    refine gSt X16 hby hV (Or.inl ⟨rfl, rfl⟩) d_method_3_code_118 (i := 15) rfl (by omega) rfl hO.2.1 hs (fun T17 h17 S17 X17 W17 V17 sS17 => ?_)
    replace hs := sS17 _ hs; replace hK := hK.wr W17 (Or.inr (Nat.le_refl _))
    obtain ⟨ys, hV, hl⟩ : ∃ ys, Ari Z h17 h0.size .int ys ∧ ys.length = 25 := ⟨_, V17, by rw [List.length_set]; exact hl⟩
    refine blk X17 hby b246 (pc' := 125) (Ls' := #[i_ pp, i_ (pp &&& (3 : Int32)), i_ (Int32.ofNat i), u_]) (st' := [(.int 8199), (.int 16), (.ref (h0.size)), (.ref (h0.size))]) rfl ?_
    refine gSt X17 hby hV (Or.inl ⟨rfl, rfl⟩) d_method_3_code_125 (i := 16) rfl (by omega) rfl hO.2.1 hs (fun T18 h18 S18 X18 W18 V18 sS18 => ?_)
    replace hs := sS18 _ hs; replace hK := hK.wr W18 (Or.inr (Nat.le_refl _))
    obtain ⟨ys, hV, hl⟩ : ∃ ys, Ari Z h18 h0.size .int ys ∧ ys.length = 25 := ⟨_, V18, by rw [List.length_set]; exact hl⟩
    refine blk X18 hby b247 (pc' := 132) (Ls' := #[i_ pp, i_ (pp &&& (3 : Int32)), i_ (Int32.ofNat i), u_]) (st' := [(.int 8200), (.int 17), (.ref (h0.size)), (.ref (h0.size))]) rfl ?_
    refine gSt X18 hby hV (Or.inl ⟨rfl, rfl⟩) d_method_3_code_132 (i := 17) rfl (by omega) rfl hO.2.1 hs (fun T19 h19 S19 X19 W19 V19 sS19 => ?_)
    replace hs := sS19 _ hs; replace hK := hK.wr W19 (Or.inr (Nat.le_refl _))
    obtain ⟨ys, hV, hl⟩ : ∃ ys, Ari Z h19 h0.size .int ys ∧ ys.length = 25 := ⟨_, V19, by rw [List.length_set]; exact hl⟩
    refine blk X19 hby b248 (pc' := 139) (Ls' := #[i_ pp, i_ (pp &&& (3 : Int32)), i_ (Int32.ofNat i), u_]) (st' := [(.int 8201), (.int 18), (.ref (h0.size)), (.ref (h0.size))]) rfl ?_
    refine gSt X19 hby hV (Or.inl ⟨rfl, rfl⟩) d_method_3_code_139 (i := 18) rfl (by omega) rfl hO.2.1 hs (fun T20 h20 S20 X20 W20 V20 sS20 => ?_)
    replace hs := sS20 _ hs; replace hK := hK.wr W20 (Or.inr (Nat.le_refl _))
    obtain ⟨ys, hV, hl⟩ : ∃ ys, Ari Z h20 h0.size .int ys ∧ ys.length = 25 := ⟨_, V20, by rw [List.length_set]; exact hl⟩
    refine blk X20 hby b249 (pc' := 146) (Ls' := #[i_ pp, i_ (pp &&& (3 : Int32)), i_ (Int32.ofNat i), u_]) (st' := [(.int 8202), (.int 19), (.ref (h0.size)), (.ref (h0.size))]) rfl ?_
    refine gSt X20 hby hV (Or.inl ⟨rfl, rfl⟩) d_method_3_code_146 (i := 19) rfl (by omega) rfl hO.2.1 hs (fun T21 h21 S21 X21 W21 V21 sS21 => ?_)
    replace hs := sS21 _ hs; replace hK := hK.wr W21 (Or.inr (Nat.le_refl _))
    obtain ⟨ys, hV, hl⟩ : ∃ ys, Ari Z h21 h0.size .int ys ∧ ys.length = 25 := ⟨_, V21, by rw [List.length_set]; exact hl⟩
    refine blk X21 hby b250 (pc' := 153) (Ls' := #[i_ pp, i_ (pp &&& (3 : Int32)), i_ (Int32.ofNat i), u_]) (st' := [(.int 8232), (.int 20), (.ref (h0.size)), (.ref (h0.size))]) rfl ?_
    refine gSt X21 hby hV (Or.inl ⟨rfl, rfl⟩) d_method_3_code_153 (i := 20) rfl (by omega) rfl hO.2.1 hs (fun T22 h22 S22 X22 W22 V22 sS22 => ?_)
    replace hs := sS22 _ hs; replace hK := hK.wr W22 (Or.inr (Nat.le_refl _))
    obtain ⟨ys, hV, hl⟩ : ∃ ys, Ari Z h22 h0.size .int ys ∧ ys.length = 25 := ⟨_, V22, by rw [List.length_set]; exact hl⟩
    refine blk X22 hby b251 (pc' := 160) (Ls' := #[i_ pp, i_ (pp &&& (3 : Int32)), i_ (Int32.ofNat i), u_]) (st' := [(.int 8233), (.int 21), (.ref (h0.size)), (.ref (h0.size))]) rfl ?_
    refine gSt X22 hby hV (Or.inl ⟨rfl, rfl⟩) d_method_3_code_160 (i := 21) rfl (by omega) rfl hO.2.1 hs (fun T23 h23 S23 X23 W23 V23 sS23 => ?_)
    replace hs := sS23 _ hs; replace hK := hK.wr W23 (Or.inr (Nat.le_refl _))
    obtain ⟨ys, hV, hl⟩ : ∃ ys, Ari Z h23 h0.size .int ys ∧ ys.length = 25 := ⟨_, V23, by rw [List.length_set]; exact hl⟩
    refine blk X23 hby b252 (pc' := 167) (Ls' := #[i_ pp, i_ (pp &&& (3 : Int32)), i_ (Int32.ofNat i), u_]) (st' := [(.int 8239), (.int 22), (.ref (h0.size)), (.ref (h0.size))]) rfl ?_
    refine gSt X23 hby hV (Or.inl ⟨rfl, rfl⟩) d_method_3_code_167 (i := 22) rfl (by omega) rfl hO.2.1 hs (fun T24 h24 S24 X24 W24 V24 sS24 => ?_)
    replace hs := sS24 _ hs; replace hK := hK.wr W24 (Or.inr (Nat.le_refl _))
    obtain ⟨ys, hV, hl⟩ : ∃ ys, Ari Z h24 h0.size .int ys ∧ ys.length = 25 := ⟨_, V24, by rw [List.length_set]; exact hl⟩
    refine blk X24 hby b253 (pc' := 174) (Ls' := #[i_ pp, i_ (pp &&& (3 : Int32)), i_ (Int32.ofNat i), u_]) (st' := [(.int 8287), (.int 23), (.ref (h0.size)), (.ref (h0.size))]) rfl ?_
    refine gSt X24 hby hV (Or.inl ⟨rfl, rfl⟩) d_method_3_code_174 (i := 23) rfl (by omega) rfl hO.2.1 hs (fun T25 h25 S25 X25 W25 V25 sS25 => ?_)
    replace hs := sS25 _ hs; replace hK := hK.wr W25 (Or.inr (Nat.le_refl _))
    obtain ⟨ys, hV, hl⟩ : ∃ ys, Ari Z h25 h0.size .int ys ∧ ys.length = 25 := ⟨_, V25, by rw [List.length_set]; exact hl⟩
    refine blk X25 hby b254 (pc' := 181) (Ls' := #[i_ pp, i_ (pp &&& (3 : Int32)), i_ (Int32.ofNat i), u_]) (st' := [(.int 12288), (.int 24), (.ref (h0.size)), (.ref (h0.size))]) rfl ?_
    refine gSt X25 hby hV (Or.inl ⟨rfl, rfl⟩) d_method_3_code_181 (i := 24) rfl (by omega) rfl hO.2.1 hs (fun T26 h26 S26 X26 W26 V26 sS26 => ?_)
    replace hs := sS26 _ hs; replace hK := hK.wr W26 (Or.inr (Nat.le_refl _))
    obtain ⟨ys, hV, hl⟩ : ∃ ys, Ari Z h26 h0.size .int ys ∧ ys.length = 25 := ⟨_, V26, by rw [List.length_set]; exact hl⟩
    refine blk X26 hby b255 (pc' := 185) (Ls' := #[i_ pp, i_ (pp &&& (3 : Int32)), i_ (Int32.ofNat i), r_ (h0.size)]) (st' := [(.int (Int32.ofNat i)), (.ref (h0.size))]) rfl ?_
    refine gLd X26 hby hV (Or.inl ⟨rfl, rfl⟩) d_method_3_code_185 (i := i) rfl (by omega) ?_
    refine blk X26 hby b256 (pc' := 187) (Ls' := #[i_ pp, i_ (pp &&& (3 : Int32)), i_ (Int32.ofNat i), r_ (h0.size)]) (st' := [(.int (chr16 (ys.getD i 0)))]) rfl ?_
    exact retI' X26 hby hret d_method_3_code_187 (XT.narrow_c _) (fun S' hS' => ⟨_, rfl, chr_rng _, hK⟩)
theorem ef_prog_41_method_2_code (m : MethodId) (x0 : Addr) : entryFrame m #[(.ref x0)] 3 = mkF m 0 #[r_ x0, u_, u_] [] := by first | (simp [entryFrame, mkF, argsToLocals, Value.category]; done) | rfl
theorem b257 : decs prog_41_method_2_code 0 [.iconst 0, .istore_n 1, .aload_n 0] = true := by decide +kernel
theorem d_prog_41_method_2_code_3 : decode prog_41_method_2_code 3 = .ok (.invokevirtual 7, 3) := by decide +kernel
theorem b258 : decs prog_41_method_2_code 6 [.istore_n 2] = true := by decide +kernel
theorem b259 : decs prog_41_method_2_code 29 [.iload_n 2, .iload_n 1] = true := by decide +kernel
theorem d_prog_41_method_2_code_31 : decode prog_41_method_2_code 31 = .ok (.if_icmp .le 22, 3) := by decide +kernel
theorem b260 : decs prog_41_method_2_code 53 [.aload_n 0, .iload_n 1, .iload_n 2] = true := by decide +kernel
theorem d_prog_41_method_2_code_56 : decode prog_41_method_2_code 56 = .ok (.invokevirtual 23, 3) := by decide +kernel
theorem pd__II_Ljava_lang_String_ : parseMethodDescriptor "(II)Ljava/lang/String;" = some ⟨[.int, .int], (some (.object "java/lang/String"))⟩ := by decide +kernel
theorem d_prog_41_method_2_code_59 : decode prog_41_method_2_code 59 = .ok (.areturn, 1) := by decide +kernel
theorem b261 : decs prog_41_method_2_code 29 [.iload_n 2, .iload_n 1] = true := by decide +kernel
theorem b262 : decs prog_41_method_2_code 34 [.aload_n 0, .iload_n 2, .iconst 1, .isub] = true := by decide +kernel
theorem d_prog_41_method_2_code_38 : decode prog_41_method_2_code 38 = .ok (.invokevirtual 13, 3) := by decide +kernel
theorem pd__I_C : parseMethodDescriptor "(I)C" = some ⟨[.int], (some .char)⟩ := by decide +kernel
theorem d_prog_41_method_2_code_41 : decode prog_41_method_2_code 41 = .ok (.invokestatic 17, 3) := by decide +kernel
theorem pd__C_Z : parseMethodDescriptor "(C)Z" = some ⟨[.char], (some .boolean)⟩ := by decide +kernel
theorem d_prog_41_method_2_code_44 : decode prog_41_method_2_code 44 = .ok (.ifCond .eq 9, 3) := by decide +kernel
theorem b263 : decs prog_41_method_2_code 53 [.aload_n 0, .iload_n 1, .iload_n 2] = true := by decide +kernel
theorem b264 : decs prog_41_method_2_code 47 [.iinc 2 (-1), .goto (-21)] = true := by decide +kernel
theorem b265 : decs prog_41_method_2_code 7 [.iload_n 1, .iload_n 2] = true := by decide +kernel
theorem d_prog_41_method_2_code_9 : decode prog_41_method_2_code 9 = .ok (.if_icmp .ge 20, 3) := by decide +kernel
theorem b266 : decs prog_41_method_2_code 7 [.iload_n 1, .iload_n 2] = true := by decide +kernel
theorem b267 : decs prog_41_method_2_code 12 [.aload_n 0, .iload_n 1] = true := by decide +kernel
theorem d_prog_41_method_2_code_14 : decode prog_41_method_2_code 14 = .ok (.invokevirtual 13, 3) := by decide +kernel
theorem d_prog_41_method_2_code_17 : decode prog_41_method_2_code 17 = .ok (.invokestatic 17, 3) := by decide +kernel
theorem d_prog_41_method_2_code_20 : decode prog_41_method_2_code 20 = .ok (.ifCond .eq 9, 3) := by decide +kernel
theorem b268 : decs prog_41_method_2_code 23 [.iinc 1 1, .goto (-19)] = true := by decide +kernel
def QE (Z : State) (h0 : Heap) (cs : List Int32) (v : Option Value) (h : Heap) (S : Addr → Prop) : Prop := ∃ i k x b, v = some (.ref x) ∧ i ≤ k ∧ k ≤ cs.length ∧ (i < cs.length → i < k) ∧ (∀ j, j < i → wsB (cs.getD j 0) = true) ∧ (i < cs.length → wsB (cs.getD i 0) = false) ∧ (∀ j, k ≤ j → j < cs.length → wsB (cs.getD j 0) = true) ∧ (i < k → wsB (cs.getD (k - 1) 0) = false) ∧ Str Z h x b ((cs.drop i).take (k - i)) ∧ Keep h0 h []
set_option maxRecDepth 65536 in
set_option maxHeartbeats 40000000 in
theorem ct_ent {h0 : Heap} {x b : Addr} {cs : List Int32} {fm : Value} {zc : Int32} (hw : ∀ d ∈ tables_1, d.before a0 Z = true) (hEL : EW Z a0 EL) (hO : Old Z Z.heap.size h0) (U : US Z zc)(hFM : Sta Z Z.heap "jdk/internal/util/Preconditions" "SIOOBE_FORMATTER" "Ljava/util/function/BiFunction;" fm) (hfm : fm = .null ∨ ∃ a, fm = .ref a)(F : Str Z h0 x b cs) (hcap : cs.length ≤ 4) :
    Ct true false Z EL l (⟨"com/example/nay1/nay1/lexicon/LexiconLine", "entry", "(Ljava/lang/String;)Ljava/lang/String;"⟩ : MethodName) prog_41_method_2_code 3 (some (.object "java/lang/String")) ({ frames := 7, cells := 3, slots := 16, locals := 160 } : Room) #[(.ref x)] h0 [] (QE Z h0 cs) := by
  refine ctOf (plainFor_of_name pn_com_example_nay1_nay1_lexicon_LexiconLine) hO hEL ?_
  intro p e s m below meth c s₁ S0 X0 hby hml hret hnm hsf
  refine Go.entry (ef_prog_41_method_2_code m x) ?_
  show Go _ _ _ _ (s₁.setTop (mkF m 0 #[r_ x, u_, u_] []))
  refine blk X0 hby b257 (pc' := 3) (Ls' := #[r_ x, i_ 0, u_]) (st' := [(.ref x)]) rfl ?_
  refine gVirt X0 hby (argsL := []) (st := []) (ct_len hw hEL X0.old U F) F.1 (hw _ (List.mem_of_getElem? (i := 34) rfl)) (hw _ (List.mem_of_getElem? (i := 35) rfl)) (hw _ (List.mem_of_getElem? (i := 37) rfl)) (hw _ (List.mem_of_getElem? (i := 36) rfl)) (hw _ (List.mem_of_getElem? (i := 11) rfl)) (hw _ (List.mem_of_getElem? (i := 38) rfl)) pd___I rfl d_prog_41_method_2_code_3 rfl (by rw [hml]; rfl) all0 (by decide) (Nat.le_of_ble_eq_true rfl) (by decide) (by decide) (fun v1 T1 h1 S1 X1 q1 sS1 sz1 => ?_)
  obtain ⟨rfl, rfl⟩ := q1
  show Go _ _ _ _ (T1.setTop (mkF m 6 #[r_ x, i_ 0, u_] [(.int (Int32.ofNat cs.length))]))
  refine blk X1 hby b258 (pc' := 7) (Ls' := #[r_ x, i_ 0, i_ (Int32.ofNat cs.length)]) (st' := []) rfl ?_
  have hL : cs.length < 2147483648 := by omega
  have back : ∀ (i : Nat), i ≤ cs.length → (∀ j, j < i → wsB (cs.getD j 0) = true) → (i < cs.length → wsB (cs.getD i 0) = false) → ∀ (n k : Nat) (T : State) (S : Addr → Prop), n + i = k → k ≤ cs.length → (i < cs.length → i < k) → Sd true false Z a0 EL p l e ({ frames := 7, cells := 3, slots := 16, locals := 160 } : Room) s m #[(.ref x)] below meth c "com/example/nay1/nay1/lexicon/LexiconLine" T h0 S 0 0 → (∀ j, k ≤ j → j < cs.length → wsB (cs.getD j 0) = true) → Go p e below (Pst true Z EL ({ frames := 7, cells := 3, slots := 16, locals := 160 } : Room).cells ({ frames := 7, cells := 3, slots := 16, locals := 160 } : Room).slots (QE Z h0 cs) s) (T.setTop (mkF m 29 #[.val (.ref x), .val (.int (Int32.ofNat i)), .val (.int (Int32.ofNat k))] [])) := by
    intro i hi0 hy hn0 n
    induction n with
    | zero =>
      intro k T S hn hk hik X hz
      refine blk X hby b259 (pc' := 31) (Ls' := #[r_ x, i_ (Int32.ofNat i), i_ (Int32.ofNat k)]) (st' := [(.int (Int32.ofNat i)), (.int (Int32.ofNat k))]) rfl ?_
      refine brI X hby d_prog_41_method_2_code_31 (pc1 := 53) (by decide) (fun hc => ?_) (fun hc => absurd (leF hc) (by rw [lt32 (by omega) (by omega)]; omega))
      refine blk X hby b260 (pc' := 56) (Ls' := #[r_ x, i_ (Int32.ofNat i), i_ (Int32.ofNat k)]) (st' := [(.int (Int32.ofNat k)), (.int (Int32.ofNat i)), (.ref x)]) rfl ?_
      refine gVirt X hby (argsL := [(.int (Int32.ofNat i)), (.int (Int32.ofNat k))]) (st := []) (ct_sub hw hEL X.old U hFM hfm F (show i ≤ k by omega) hk hcap) F.1 (hw _ (List.mem_of_getElem? (i := 45) rfl)) (hw _ (List.mem_of_getElem? (i := 46) rfl)) (hw _ (List.mem_of_getElem? (i := 48) rfl)) (hw _ (List.mem_of_getElem? (i := 47) rfl)) (hw _ (List.mem_of_getElem? (i := 11) rfl)) (hw _ (List.mem_of_getElem? (i := 49) rfl)) pd__II_Ljava_lang_String_ rfl d_prog_41_method_2_code_56 rfl (by rw [hml]; rfl) all0 (by decide) (Nat.le_of_ble_eq_true rfl) (by decide) (by decide) (fun v1 T1 h1 S1 X1 q1 sS1 sz1 => ?_)
      obtain ⟨x', b', rfl, r1, r2⟩ := q1
      show Go _ _ _ _ (T1.setTop (mkF m 59 #[r_ x, i_ (Int32.ofNat i), i_ (Int32.ofNat k)] [(.ref (x'))]))
      exact retA' X1 hby hret d_prog_41_method_2_code_59 rfl (fun S' hS' => ⟨i, k, _, _, rfl, by omega, hk, hik, hy, hn0, hz, fun q => absurd q (by omega), r1, r2⟩)
    | succ n ih =>
      intro k T S hn hk hik X hz
      refine blk X hby b261 (pc' := 31) (Ls' := #[r_ x, i_ (Int32.ofNat i), i_ (Int32.ofNat k)]) (st' := [(.int (Int32.ofNat i)), (.int (Int32.ofNat k))]) rfl ?_
      refine brI X hby d_prog_41_method_2_code_31 (pc1 := 53) (by decide) (fun hc => absurd (leT hc) (fun q => q (by rw [lt32 (by omega) (by omega)]; omega))) (fun hc => ?_)
      refine blk X hby b262 (pc' := 38) (Ls' := #[r_ x, i_ (Int32.ofNat i), i_ (Int32.ofNat k)]) (st' := [(.int ((Int32.ofNat k) - (1 : Int32))), (.ref x)]) rfl ?_
      rw [show (1 : Int32) = Int32.ofNat 1 from rfl, sub32 (show 1 ≤ k by omega) (by omega)]
      show Go _ _ _ _ (T.setTop (mkF m 38 #[r_ x, i_ (Int32.ofNat i), i_ (Int32.ofNat k)] [(.int (Int32.ofNat (k - 1))), (.ref x)]))
      refine gVirt X hby (argsL := [(.int (Int32.ofNat (k - 1)))]) (st := []) (ct_chr hw hEL X.old U hFM hfm F (show k - 1 < cs.length by omega)) F.1 (hw _ (List.mem_of_getElem? (i := 70) rfl)) (hw _ (List.mem_of_getElem? (i := 71) rfl)) (hw _ (List.mem_of_getElem? (i := 73) rfl)) (hw _ (List.mem_of_getElem? (i := 72) rfl)) (hw _ (List.mem_of_getElem? (i := 11) rfl)) (hw _ (List.mem_of_getElem? (i := 74) rfl)) pd__I_C rfl d_prog_41_method_2_code_38 rfl (by rw [hml]; rfl) all0 (by decide) (Nat.le_of_ble_eq_true rfl) (by decide) (by decide) (fun v1 T1 h1 S1 X1 q1 sS1 sz1 => ?_)
      obtain ⟨rfl, rfl⟩ := q1
      show Go _ _ _ _ (T1.setTop (mkF m 41 #[r_ x, i_ (Int32.ofNat i), i_ (Int32.ofNat k)] [(.int (cs.getD (k - 1) 0))]))
      refine gStatic X1 hby (argsL := [(.int (cs.getD (k - 1) 0))]) (st := []) (ct_iws hw hEL X1.old) (hw _ (List.mem_of_getElem? (i := 90) rfl)) (hw _ (List.mem_of_getElem? (i := 91) rfl)) (hw _ (List.mem_of_getElem? (i := 32) rfl)) (hw _ (List.mem_of_getElem? (i := 92) rfl)) pd__C_Z rfl d_prog_41_method_2_code_41 rfl (by rw [hml]; rfl) all0 (by decide) (Nat.le_of_ble_eq_true rfl) (by decide) (by decide) (fun v2 T2 h2 S2 X2 q2 sS2 sz2 => ?_)
      obtain ⟨rfl, rfl⟩ := q2
      show Go _ _ _ _ (T2.setTop (mkF m 44 #[r_ x, i_ (Int32.ofNat i), i_ (Int32.ofNat k)] [(.int (if wsB (cs.getD (k - 1) 0) = true then 1 else 0))]))
      refine br0 X2 hby d_prog_41_method_2_code_44 (pc1 := 53) (by decide) (fun hd => ?_) (fun hd => ?_)
      · replace hd := eqT hd
        have hd' := ite10.mp hd
        refine blk X2 hby b263 (pc' := 56) (Ls' := #[r_ x, i_ (Int32.ofNat i), i_ (Int32.ofNat k)]) (st' := [(.int (Int32.ofNat k)), (.int (Int32.ofNat i)), (.ref x)]) rfl ?_
        refine gVirt X2 hby (argsL := [(.int (Int32.ofNat i)), (.int (Int32.ofNat k))]) (st := []) (ct_sub hw hEL X2.old U hFM hfm F (show i ≤ k by omega) hk hcap) F.1 (hw _ (List.mem_of_getElem? (i := 45) rfl)) (hw _ (List.mem_of_getElem? (i := 46) rfl)) (hw _ (List.mem_of_getElem? (i := 48) rfl)) (hw _ (List.mem_of_getElem? (i := 47) rfl)) (hw _ (List.mem_of_getElem? (i := 11) rfl)) (hw _ (List.mem_of_getElem? (i := 49) rfl)) pd__II_Ljava_lang_String_ rfl d_prog_41_method_2_code_56 rfl (by rw [hml]; rfl) all0 (by decide) (Nat.le_of_ble_eq_true rfl) (by decide) (by decide) (fun v3 T3 h3 S3 X3 q3 sS3 sz3 => ?_)
        obtain ⟨x', b', rfl, r1, r2⟩ := q3
        show Go _ _ _ _ (T3.setTop (mkF m 59 #[r_ x, i_ (Int32.ofNat i), i_ (Int32.ofNat k)] [(.ref (x'))]))
        exact retA' X3 hby hret d_prog_41_method_2_code_59 rfl (fun S' hS' => ⟨i, k, _, _, rfl, by omega, hk, hik, hy, hn0, hz, fun _ => hd', r1, r2⟩)
      · replace hd := eqF hd
        have hd' : wsB (cs.getD (k - 1) 0) = true := by simpa using fun q => hd (ite10.mpr q)
        refine blk X2 hby b264 (pc' := 29) (Ls' := #[r_ x, i_ (Int32.ofNat i), i_ ((Int32.ofNat k) + (-1 : Int32))]) (st' := []) rfl ?_
        rw [show Int32.ofNat k + (-1 : Int32) = Int32.ofNat (k - 1) from by rw [show (k : Nat) = (k - 1) + 1 by omega, ← succ32, Int32.add_assoc]; simp]
        refine ih (k - 1) T2 S2 (by omega) (by omega) (fun q => ?_) X2 (fun j h1 h2 => ?_)
        · rcases Nat.lt_or_ge i (k - 1) with r | r
          · exact r
          · have e : k - 1 = i := by omega
            rw [e, hn0 q] at hd'; exact absurd hd' (by decide)
        · by_cases q : j = k - 1
          · rw [q]; exact hd'
          · exact hz j (by omega) h2
  have front : ∀ (n i : Nat) (T : State) (S : Addr → Prop), n + i = cs.length → Sd true false Z a0 EL p l e ({ frames := 7, cells := 3, slots := 16, locals := 160 } : Room) s m #[(.ref x)] below meth c "com/example/nay1/nay1/lexicon/LexiconLine" T h0 S 0 0 → (∀ j, j < i → wsB (cs.getD j 0) = true) → Go p e below (Pst true Z EL ({ frames := 7, cells := 3, slots := 16, locals := 160 } : Room).cells ({ frames := 7, cells := 3, slots := 16, locals := 160 } : Room).slots (QE Z h0 cs) s) (T.setTop (mkF m 7 #[.val (.ref x), .val (.int (Int32.ofNat i)), .val (.int (Int32.ofNat cs.length))] [])) := by
    intro n
    induction n with
    | zero =>
      intro i T S hn X hy
      refine blk X hby b265 (pc' := 9) (Ls' := #[r_ x, i_ (Int32.ofNat i), i_ (Int32.ofNat cs.length)]) (st' := [(.int (Int32.ofNat cs.length)), (.int (Int32.ofNat i))]) rfl ?_
      refine brI X hby d_prog_41_method_2_code_9 (pc1 := 29) (by decide) (fun hc => ?_) (fun hc => absurd (geF hc) (by rw [lt32 (by omega) hL]; omega))
      exact back i (by omega) hy (fun q => absurd q (by omega)) 0 cs.length T S (by omega) (Nat.le_refl _) (fun q => q) X (fun j h1 h2 => absurd h2 (by omega))
    | succ n ih =>
      intro i T S hn X hy
      refine blk X hby b266 (pc' := 9) (Ls' := #[r_ x, i_ (Int32.ofNat i), i_ (Int32.ofNat cs.length)]) (st' := [(.int (Int32.ofNat cs.length)), (.int (Int32.ofNat i))]) rfl ?_
      have hil : i < cs.length := by omega
      refine brI X hby d_prog_41_method_2_code_9 (pc1 := 29) (by decide) (fun hc => absurd (geT hc) (fun q => q (by rw [lt32 (by omega) hL]; omega))) (fun hc => ?_)
      refine blk X hby b267 (pc' := 14) (Ls' := #[r_ x, i_ (Int32.ofNat i), i_ (Int32.ofNat cs.length)]) (st' := [(.int (Int32.ofNat i)), (.ref x)]) rfl ?_
      refine gVirt X hby (argsL := [(.int (Int32.ofNat i))]) (st := []) (ct_chr hw hEL X.old U hFM hfm F hil) F.1 (hw _ (List.mem_of_getElem? (i := 70) rfl)) (hw _ (List.mem_of_getElem? (i := 71) rfl)) (hw _ (List.mem_of_getElem? (i := 73) rfl)) (hw _ (List.mem_of_getElem? (i := 72) rfl)) (hw _ (List.mem_of_getElem? (i := 11) rfl)) (hw _ (List.mem_of_getElem? (i := 74) rfl)) pd__I_C rfl d_prog_41_method_2_code_14 rfl (by rw [hml]; rfl) all0 (by decide) (Nat.le_of_ble_eq_true rfl) (by decide) (by decide) (fun v1 T1 h1 S1 X1 q1 sS1 sz1 => ?_)
      obtain ⟨rfl, rfl⟩ := q1
      show Go _ _ _ _ (T1.setTop (mkF m 17 #[r_ x, i_ (Int32.ofNat i), i_ (Int32.ofNat cs.length)] [(.int (cs.getD i 0))]))
      refine gStatic X1 hby (argsL := [(.int (cs.getD i 0))]) (st := []) (ct_iws hw hEL X1.old) (hw _ (List.mem_of_getElem? (i := 90) rfl)) (hw _ (List.mem_of_getElem? (i := 91) rfl)) (hw _ (List.mem_of_getElem? (i := 32) rfl)) (hw _ (List.mem_of_getElem? (i := 92) rfl)) pd__C_Z rfl d_prog_41_method_2_code_17 rfl (by rw [hml]; rfl) all0 (by decide) (Nat.le_of_ble_eq_true rfl) (by decide) (by decide) (fun v2 T2 h2 S2 X2 q2 sS2 sz2 => ?_)
      obtain ⟨rfl, rfl⟩ := q2
      show Go _ _ _ _ (T2.setTop (mkF m 20 #[r_ x, i_ (Int32.ofNat i), i_ (Int32.ofNat cs.length)] [(.int (if wsB (cs.getD i 0) = true then 1 else 0))]))
      refine br0 X2 hby d_prog_41_method_2_code_20 (pc1 := 29) (by decide) (fun hd => ?_) (fun hd => ?_)
      · replace hd := eqT hd
        exact back i (by omega) hy (fun _ => ite10.mp hd) (n + 1) cs.length T2 S2 (by omega) (Nat.le_refl _) (fun q => q) X2 (fun j h1 h2 => absurd h2 (by omega))
      · replace hd := eqF hd
        have hd' : wsB (cs.getD i 0) = true := by simpa using fun q => hd (ite10.mpr q)
        refine blk X2 hby b268 (pc' := 7) (Ls' := #[r_ x, i_ ((Int32.ofNat i) + (1 : Int32)), i_ (Int32.ofNat cs.length)]) (st' := []) rfl ?_
        rw [succ32]
        refine ih (i + 1) T2 S2 (by omega) X2 (fun j hj => ?_)
        by_cases q : j = i
        · rw [q]; exact hd'
        · exact hy j (by omega)
  exact front cs.length 0 T1 S1 (by omega) X1 (fun j hj => absurd hj (Nat.not_lt_zero _))
theorem rem5 (x : Int32) : (x &&& (2147483647 : Int32)) % (5 : Int32) = (0 : Int32) ∨ (x &&& (2147483647 : Int32)) % (5 : Int32) = (1 : Int32) ∨ (x &&& (2147483647 : Int32)) % (5 : Int32) = (2 : Int32) ∨ (x &&& (2147483647 : Int32)) % (5 : Int32) = (3 : Int32) ∨ (x &&& (2147483647 : Int32)) % (5 : Int32) = (4 : Int32) := by
  have h := c_and x 2147483647 (by decide)
  have r := (c_irem (x &&& (2147483647 : Int32)) 5 5 rfl).1 h.1
  have e4 : (4 : Int32).toInt = 4 := rfl
  have e3 : (3 : Int32).toInt = 3 := rfl
  have e2 : (2 : Int32).toInt = 2 := rfl
  have e1 : (1 : Int32).toInt = 1 := rfl
  have e0 : (0 : Int32).toInt = 0 := rfl
  simp only [← Int32.toInt_inj]
  omega
theorem ef_code (m : MethodId) (x0 : Int32) (x1 : Int32) (x2 : Int32) (x3 : Int32) (x4 : Int32) : entryFrame m #[(.int x0), (.int x1), (.int x2), (.int x3), (.int x4)] maxLocals = mkF m 0 #[i_ x0, i_ x1, i_ x2, i_ x3, i_ x4, u_, u_, u_, u_, u_, u_, u_, u_, u_, u_, u_, u_, u_, u_, u_, u_] [] := by first | (simp [entryFrame, mkF, argsToLocals, Value.category, maxLocals]; done) | rfl
theorem b269 : decs code 0 [.iload_n 0] = true := by decide +kernel
theorem d_code_1 : decode code 1 = .ok (.ldc 7, 2) := by decide +kernel
theorem b270 : decs code 3 [.iand, .iconst 5] = true := by decide +kernel
theorem d_code_5 : decode code 5 = .ok (.irem, 1) := by decide +kernel
theorem b271 : decs code 6 [.istore 5, .iload_n 1] = true := by decide +kernel
theorem d_code_9 : decode code 9 = .ok (.invokestatic 8, 3) := by decide +kernel
theorem b272 : decs code 12 [.istore 6, .iload_n 2] = true := by decide +kernel
theorem d_code_15 : decode code 15 = .ok (.invokestatic 8, 3) := by decide +kernel
theorem b273 : decs code 18 [.istore 7, .iload_n 3] = true := by decide +kernel
theorem d_code_21 : decode code 21 = .ok (.invokestatic 8, 3) := by decide +kernel
theorem b274 : decs code 24 [.istore 8, .iload 4] = true := by decide +kernel
theorem d_code_28 : decode code 28 = .ok (.invokestatic 8, 3) := by decide +kernel
theorem b275 : decs code 31 [.istore 9] = true := by decide +kernel
theorem b276 : decs code 33 [.iconst 4] = true := by decide +kernel
theorem d_code_34 : decode code 34 = .ok (.newarray .char, 2) := by decide +kernel
theorem b277 : decs code 36 [.dup, .iconst 0, .iload 6] = true := by decide +kernel
theorem d_code_40 : decode code 40 = .ok (.castore, 1) := by decide +kernel
theorem b278 : decs code 41 [.dup, .iconst 1, .iload 7] = true := by decide +kernel
theorem d_code_45 : decode code 45 = .ok (.castore, 1) := by decide +kernel
theorem b279 : decs code 46 [.dup, .iconst 2, .iload 8] = true := by decide +kernel
theorem d_code_50 : decode code 50 = .ok (.castore, 1) := by decide +kernel
theorem b280 : decs code 51 [.dup, .iconst 3, .iload 9] = true := by decide +kernel
theorem d_code_55 : decode code 55 = .ok (.castore, 1) := by decide +kernel
theorem b281 : decs code 56 [.astore 10] = true := by decide +kernel
theorem b282 : decs code 58 [.iload 5] = true := by decide +kernel
theorem d_code_60 : decode code 60 = .ok (.ifCond .ne 11, 3) := by decide +kernel
theorem b283 : decs code 63 [.iconst 0] = true := by decide +kernel
theorem d_code_64 : decode code 64 = .ok (.newarray .char, 2) := by decide +kernel
theorem b284 : decs code 66 [.astore 11, .goto 100] = true := by decide +kernel
theorem d_code_168 : decode code 168 = .ok (.new 14, 3) := by decide +kernel
theorem b285 : decs code 171 [.dup, .aload 11] = true := by decide +kernel
theorem d_code_174 : decode code 174 = .ok (.invokespecial 16, 3) := by decide +kernel
theorem pd___C_V : parseMethodDescriptor "([C)V" = some ⟨[(.array .char)], none⟩ := by decide +kernel
theorem b286 : decs code 177 [.astore 12, .aload 12] = true := by decide +kernel
theorem d_code_181 : decode code 181 = .ok (.invokestatic 19, 3) := by decide +kernel
theorem pd__Ljava_lang_String__Ljava_lang_String_ : parseMethodDescriptor "(Ljava/lang/String;)Ljava/lang/String;" = some ⟨[(.object "java/lang/String")], (some (.object "java/lang/String"))⟩ := by decide +kernel
theorem b287 : decs code 184 [.astore 13, .iconst 0, .iload 5] = true := by decide +kernel
theorem d_code_189 : decode code 189 = .ok (.if_icmp .ge 15, 3) := by decide +kernel
theorem b288 : decs code 204 [.iconst 0, .istore 14] = true := by decide +kernel
theorem b289 : decs code 207 [.iconst 1, .iload 5] = true := by decide +kernel
theorem d_code_210 : decode code 210 = .ok (.if_icmp .ge 15, 3) := by decide +kernel
theorem b290 : decs code 225 [.iconst 0, .istore 15] = true := by decide +kernel
theorem b291 : decs code 228 [.iconst 2, .iload 5] = true := by decide +kernel
theorem d_code_231 : decode code 231 = .ok (.if_icmp .ge 15, 3) := by decide +kernel
theorem b292 : decs code 246 [.iconst 0, .istore 16] = true := by decide +kernel
theorem b293 : decs code 249 [.iconst 3, .iload 5] = true := by decide +kernel
theorem d_code_252 : decode code 252 = .ok (.if_icmp .ge 15, 3) := by decide +kernel
theorem b294 : decs code 267 [.iconst 0, .istore 17] = true := by decide +kernel
theorem b295 : decs code 270 [.iload 14] = true := by decide +kernel
theorem d_code_272 : decode code 272 = .ok (.ifCond .eq 7, 3) := by decide +kernel
theorem b296 : decs code 279 [.iload 15] = true := by decide +kernel
theorem d_code_281 : decode code 281 = .ok (.ifCond .eq 7, 3) := by decide +kernel
theorem b297 : decs code 288 [.iload 16] = true := by decide +kernel
theorem d_code_290 : decode code 290 = .ok (.ifCond .eq 7, 3) := by decide +kernel
theorem b298 : decs code 297 [.iload 17] = true := by decide +kernel
theorem d_code_299 : decode code 299 = .ok (.ifCond .eq 7, 3) := by decide +kernel
theorem b299 : decs code 306 [.iload 5, .istore 18, .iload 17] = true := by decide +kernel
theorem d_code_312 : decode code 312 = .ok (.ifCond .eq 7, 3) := by decide +kernel
theorem b300 : decs code 319 [.iload 16] = true := by decide +kernel
theorem d_code_321 : decode code 321 = .ok (.ifCond .eq 7, 3) := by decide +kernel
theorem b301 : decs code 328 [.iload 15] = true := by decide +kernel
theorem d_code_330 : decode code 330 = .ok (.ifCond .eq 7, 3) := by decide +kernel
theorem b302 : decs code 337 [.iload 14] = true := by decide +kernel
theorem d_code_339 : decode code 339 = .ok (.ifCond .eq 7, 3) := by decide +kernel
theorem b303 : decs code 346 [.iload 5, .istore 19, .iload 19, .iload 18, .isub, .istore 20, .aload 13] = true := by decide +kernel
theorem d_code_359 : decode code 359 = .ok (.invokevirtual 29, 3) := by decide +kernel
theorem b304 : decs code 362 [.iload 20] = true := by decide +kernel
theorem d_code_364 : decode code 364 = .ok (.if_icmp .eq 5, 3) := by decide +kernel
theorem b305 : decs code 369 [.iload 20] = true := by decide +kernel
theorem d_code_371 : decode code 371 = .ok (.ifCond .le 17, 3) := by decide +kernel
theorem b306 : decs code 388 [.iload 20, .iconst 1] = true := by decide +kernel
theorem d_code_391 : decode code 391 = .ok (.if_icmp .le 19, 3) := by decide +kernel
theorem b307 : decs code 410 [.iload 20, .iconst 2] = true := by decide +kernel
theorem d_code_413 : decode code 413 = .ok (.if_icmp .le 19, 3) := by decide +kernel
theorem b308 : decs code 432 [.iload 20, .iconst 3] = true := by decide +kernel
theorem d_code_435 : decode code 435 = .ok (.if_icmp .le 19, 3) := by decide +kernel
theorem b309 : decs code 454 [.iconst 1, .goto 4] = true := by decide +kernel
theorem d_code_459 : decode code 459 = .ok (.ireturn, 1) := by decide +kernel
theorem b310 : decs code 58 [.iload 5] = true := by decide +kernel
theorem b311 : decs code 71 [.iload 5, .iconst 1] = true := by decide +kernel
theorem d_code_74 : decode code 74 = .ok (.if_icmp .ne 16, 3) := by decide +kernel
theorem b312 : decs code 77 [.iconst 1] = true := by decide +kernel
theorem d_code_78 : decode code 78 = .ok (.newarray .char, 2) := by decide +kernel
theorem b313 : decs code 80 [.dup, .iconst 0, .iload 6] = true := by decide +kernel
theorem d_code_84 : decode code 84 = .ok (.castore, 1) := by decide +kernel
theorem b314 : decs code 85 [.astore 11, .goto 81] = true := by decide +kernel
theorem b315 : decs code 171 [.dup, .aload 11] = true := by decide +kernel
theorem b316 : decs code 177 [.astore 12, .aload 12] = true := by decide +kernel
theorem b317 : decs code 184 [.astore 13, .iconst 0, .iload 5] = true := by decide +kernel
theorem b318 : decs code 192 [.iload 6] = true := by decide +kernel
theorem d_code_194 : decode code 194 = .ok (.invokestatic 25, 3) := by decide +kernel
theorem b319 : decs code 205 [.istore 14] = true := by decide +kernel
theorem b320 : decs code 207 [.iconst 1, .iload 5] = true := by decide +kernel
theorem b321 : decs code 225 [.iconst 0, .istore 15] = true := by decide +kernel
theorem b322 : decs code 228 [.iconst 2, .iload 5] = true := by decide +kernel
theorem b323 : decs code 246 [.iconst 0, .istore 16] = true := by decide +kernel
theorem b324 : decs code 249 [.iconst 3, .iload 5] = true := by decide +kernel
theorem b325 : decs code 267 [.iconst 0, .istore 17] = true := by decide +kernel
theorem b326 : decs code 270 [.iload 14] = true := by decide +kernel
theorem b327 : decs code 275 [.iconst 0, .goto 32, .istore 18] = true := by decide +kernel
theorem b328 : decs code 310 [.iload 17] = true := by decide +kernel
theorem b329 : decs code 319 [.iload 16] = true := by decide +kernel
theorem b330 : decs code 328 [.iload 15] = true := by decide +kernel
theorem b331 : decs code 337 [.iload 14] = true := by decide +kernel
theorem b332 : decs code 342 [.iconst 1, .goto 5, .istore 19, .iload 19, .iload 18, .isub, .istore 20, .aload 13] = true := by decide +kernel
theorem b333 : decs code 362 [.iload 20] = true := by decide +kernel
theorem b334 : decs code 369 [.iload 20] = true := by decide +kernel
theorem b335 : decs code 374 [.aload 13, .iconst 0] = true := by decide +kernel
theorem d_code_377 : decode code 377 = .ok (.invokevirtual 33, 3) := by decide +kernel
theorem b336 : decs code 380 [.aload 10, .iload 18] = true := by decide +kernel
theorem d_code_384 : decode code 384 = .ok (.caload, 1) := by decide +kernel
theorem d_code_385 : decode code 385 = .ok (.if_icmp .ne 73, 3) := by decide +kernel
theorem b337 : decs code 388 [.iload 20, .iconst 1] = true := by decide +kernel
theorem b338 : decs code 410 [.iload 20, .iconst 2] = true := by decide +kernel
theorem b339 : decs code 432 [.iload 20, .iconst 3] = true := by decide +kernel
theorem b340 : decs code 454 [.iconst 1, .goto 4] = true := by decide +kernel
theorem b341 : decs code 270 [.iload 14] = true := by decide +kernel
theorem b342 : decs code 279 [.iload 15] = true := by decide +kernel
theorem b343 : decs code 288 [.iload 16] = true := by decide +kernel
theorem b344 : decs code 297 [.iload 17] = true := by decide +kernel
theorem b345 : decs code 306 [.iload 5, .istore 18, .iload 17] = true := by decide +kernel
theorem b346 : decs code 319 [.iload 16] = true := by decide +kernel
theorem b347 : decs code 328 [.iload 15] = true := by decide +kernel
theorem b348 : decs code 337 [.iload 14] = true := by decide +kernel
theorem b349 : decs code 346 [.iload 5, .istore 19, .iload 19, .iload 18, .isub, .istore 20, .aload 13] = true := by decide +kernel
theorem b350 : decs code 362 [.iload 20] = true := by decide +kernel
theorem b351 : decs code 369 [.iload 20] = true := by decide +kernel
theorem b352 : decs code 388 [.iload 20, .iconst 1] = true := by decide +kernel
theorem b353 : decs code 410 [.iload 20, .iconst 2] = true := by decide +kernel
theorem b354 : decs code 432 [.iload 20, .iconst 3] = true := by decide +kernel
theorem b355 : decs code 454 [.iconst 1, .goto 4] = true := by decide +kernel
theorem d_code_197 : decode code 197 = .ok (.ifCond .ne 7, 3) := by decide +kernel
theorem b356 : decs code 204 [.iconst 0] = true := by decide +kernel
theorem b357 : decs code 200 [.iconst 1, .goto 4] = true := by decide +kernel
theorem b358 : decs code 58 [.iload 5] = true := by decide +kernel
theorem b359 : decs code 71 [.iload 5, .iconst 1] = true := by decide +kernel
theorem b360 : decs code 90 [.iload 5, .iconst 2] = true := by decide +kernel
theorem d_code_93 : decode code 93 = .ok (.if_icmp .ne 21, 3) := by decide +kernel
theorem b361 : decs code 96 [.iconst 2] = true := by decide +kernel
theorem d_code_97 : decode code 97 = .ok (.newarray .char, 2) := by decide +kernel
theorem b362 : decs code 99 [.dup, .iconst 0, .iload 6] = true := by decide +kernel
theorem d_code_103 : decode code 103 = .ok (.castore, 1) := by decide +kernel
theorem b363 : decs code 104 [.dup, .iconst 1, .iload 7] = true := by decide +kernel
theorem d_code_108 : decode code 108 = .ok (.castore, 1) := by decide +kernel
theorem b364 : decs code 109 [.astore 11, .goto 57] = true := by decide +kernel
theorem b365 : decs code 171 [.dup, .aload 11] = true := by decide +kernel
theorem b366 : decs code 177 [.astore 12, .aload 12] = true := by decide +kernel
theorem b367 : decs code 184 [.astore 13, .iconst 0, .iload 5] = true := by decide +kernel
theorem b368 : decs code 192 [.iload 6] = true := by decide +kernel
theorem b369 : decs code 205 [.istore 14] = true := by decide +kernel
theorem b370 : decs code 207 [.iconst 1, .iload 5] = true := by decide +kernel
theorem b371 : decs code 213 [.iload 7] = true := by decide +kernel
theorem d_code_215 : decode code 215 = .ok (.invokestatic 25, 3) := by decide +kernel
theorem b372 : decs code 226 [.istore 15] = true := by decide +kernel
theorem b373 : decs code 228 [.iconst 2, .iload 5] = true := by decide +kernel
theorem b374 : decs code 246 [.iconst 0, .istore 16] = true := by decide +kernel
theorem b375 : decs code 249 [.iconst 3, .iload 5] = true := by decide +kernel
theorem b376 : decs code 267 [.iconst 0, .istore 17] = true := by decide +kernel
theorem b377 : decs code 270 [.iload 14] = true := by decide +kernel
theorem b378 : decs code 275 [.iconst 0, .goto 32, .istore 18] = true := by decide +kernel
theorem b379 : decs code 310 [.iload 17] = true := by decide +kernel
theorem b380 : decs code 319 [.iload 16] = true := by decide +kernel
theorem b381 : decs code 328 [.iload 15] = true := by decide +kernel
theorem b382 : decs code 337 [.iload 14] = true := by decide +kernel
theorem b383 : decs code 342 [.iconst 1, .goto 5, .istore 19, .iload 19, .iload 18, .isub, .istore 20, .aload 13] = true := by decide +kernel
theorem b384 : decs code 362 [.iload 20] = true := by decide +kernel
theorem b385 : decs code 369 [.iload 20] = true := by decide +kernel
theorem b386 : decs code 374 [.aload 13, .iconst 0] = true := by decide +kernel
theorem b387 : decs code 380 [.aload 10, .iload 18] = true := by decide +kernel
theorem b388 : decs code 388 [.iload 20, .iconst 1] = true := by decide +kernel
theorem b389 : decs code 410 [.iload 20, .iconst 2] = true := by decide +kernel
theorem b390 : decs code 432 [.iload 20, .iconst 3] = true := by decide +kernel
theorem b391 : decs code 454 [.iconst 1, .goto 4] = true := by decide +kernel
theorem b392 : decs code 270 [.iload 14] = true := by decide +kernel
theorem b393 : decs code 275 [.iconst 0, .goto 32, .istore 18] = true := by decide +kernel
theorem b394 : decs code 310 [.iload 17] = true := by decide +kernel
theorem b395 : decs code 319 [.iload 16] = true := by decide +kernel
theorem b396 : decs code 328 [.iload 15] = true := by decide +kernel
theorem b397 : decs code 333 [.iconst 2, .goto 14, .istore 19, .iload 19, .iload 18, .isub, .istore 20, .aload 13] = true := by decide +kernel
theorem b398 : decs code 362 [.iload 20] = true := by decide +kernel
theorem b399 : decs code 369 [.iload 20] = true := by decide +kernel
theorem b400 : decs code 374 [.aload 13, .iconst 0] = true := by decide +kernel
theorem b401 : decs code 380 [.aload 10, .iload 18] = true := by decide +kernel
theorem b402 : decs code 388 [.iload 20, .iconst 1] = true := by decide +kernel
theorem b403 : decs code 394 [.aload 13, .iconst 1] = true := by decide +kernel
theorem d_code_397 : decode code 397 = .ok (.invokevirtual 33, 3) := by decide +kernel
theorem b404 : decs code 400 [.aload 10, .iload 18, .iconst 1, .iadd] = true := by decide +kernel
theorem d_code_406 : decode code 406 = .ok (.caload, 1) := by decide +kernel
theorem d_code_407 : decode code 407 = .ok (.if_icmp .ne 51, 3) := by decide +kernel
theorem b405 : decs code 410 [.iload 20, .iconst 2] = true := by decide +kernel
theorem b406 : decs code 432 [.iload 20, .iconst 3] = true := by decide +kernel
theorem b407 : decs code 454 [.iconst 1, .goto 4] = true := by decide +kernel
theorem b408 : decs code 270 [.iload 14] = true := by decide +kernel
theorem b409 : decs code 279 [.iload 15] = true := by decide +kernel
theorem b410 : decs code 284 [.iconst 1, .goto 23, .istore 18] = true := by decide +kernel
theorem b411 : decs code 310 [.iload 17] = true := by decide +kernel
theorem b412 : decs code 319 [.iload 16] = true := by decide +kernel
theorem b413 : decs code 328 [.iload 15] = true := by decide +kernel
theorem b414 : decs code 333 [.iconst 2, .goto 14, .istore 19, .iload 19, .iload 18, .isub, .istore 20, .aload 13] = true := by decide +kernel
theorem b415 : decs code 362 [.iload 20] = true := by decide +kernel
theorem b416 : decs code 369 [.iload 20] = true := by decide +kernel
theorem b417 : decs code 374 [.aload 13, .iconst 0] = true := by decide +kernel
theorem b418 : decs code 380 [.aload 10, .iload 18] = true := by decide +kernel
theorem b419 : decs code 388 [.iload 20, .iconst 1] = true := by decide +kernel
theorem b420 : decs code 410 [.iload 20, .iconst 2] = true := by decide +kernel
theorem b421 : decs code 432 [.iload 20, .iconst 3] = true := by decide +kernel
theorem b422 : decs code 454 [.iconst 1, .goto 4] = true := by decide +kernel
theorem b423 : decs code 270 [.iload 14] = true := by decide +kernel
theorem b424 : decs code 279 [.iload 15] = true := by decide +kernel
theorem b425 : decs code 288 [.iload 16] = true := by decide +kernel
theorem b426 : decs code 297 [.iload 17] = true := by decide +kernel
theorem b427 : decs code 306 [.iload 5, .istore 18, .iload 17] = true := by decide +kernel
theorem b428 : decs code 319 [.iload 16] = true := by decide +kernel
theorem b429 : decs code 328 [.iload 15] = true := by decide +kernel
theorem b430 : decs code 337 [.iload 14] = true := by decide +kernel
theorem b431 : decs code 346 [.iload 5, .istore 19, .iload 19, .iload 18, .isub, .istore 20, .aload 13] = true := by decide +kernel
theorem b432 : decs code 362 [.iload 20] = true := by decide +kernel
theorem b433 : decs code 369 [.iload 20] = true := by decide +kernel
theorem b434 : decs code 388 [.iload 20, .iconst 1] = true := by decide +kernel
theorem b435 : decs code 410 [.iload 20, .iconst 2] = true := by decide +kernel
theorem b436 : decs code 432 [.iload 20, .iconst 3] = true := by decide +kernel
theorem b437 : decs code 454 [.iconst 1, .goto 4] = true := by decide +kernel
theorem d_code_218 : decode code 218 = .ok (.ifCond .ne 7, 3) := by decide +kernel
theorem b438 : decs code 225 [.iconst 0] = true := by decide +kernel
theorem b439 : decs code 221 [.iconst 1, .goto 4] = true := by decide +kernel
theorem b440 : decs code 204 [.iconst 0] = true := by decide +kernel
theorem b441 : decs code 200 [.iconst 1, .goto 4] = true := by decide +kernel
theorem b442 : decs code 58 [.iload 5] = true := by decide +kernel
theorem b443 : decs code 71 [.iload 5, .iconst 1] = true := by decide +kernel
theorem b444 : decs code 90 [.iload 5, .iconst 2] = true := by decide +kernel
theorem b445 : decs code 114 [.iload 5, .iconst 3] = true := by decide +kernel
theorem d_code_117 : decode code 117 = .ok (.if_icmp .ne 26, 3) := by decide +kernel
theorem b446 : decs code 120 [.iconst 3] = true := by decide +kernel
theorem d_code_121 : decode code 121 = .ok (.newarray .char, 2) := by decide +kernel
theorem b447 : decs code 123 [.dup, .iconst 0, .iload 6] = true := by decide +kernel
theorem d_code_127 : decode code 127 = .ok (.castore, 1) := by decide +kernel
theorem b448 : decs code 128 [.dup, .iconst 1, .iload 7] = true := by decide +kernel
theorem d_code_132 : decode code 132 = .ok (.castore, 1) := by decide +kernel
theorem b449 : decs code 133 [.dup, .iconst 2, .iload 8] = true := by decide +kernel
theorem d_code_137 : decode code 137 = .ok (.castore, 1) := by decide +kernel
theorem b450 : decs code 138 [.astore 11, .goto 28] = true := by decide +kernel
theorem b451 : decs code 171 [.dup, .aload 11] = true := by decide +kernel
theorem b452 : decs code 177 [.astore 12, .aload 12] = true := by decide +kernel
theorem b453 : decs code 184 [.astore 13, .iconst 0, .iload 5] = true := by decide +kernel
theorem b454 : decs code 192 [.iload 6] = true := by decide +kernel
theorem b455 : decs code 205 [.istore 14] = true := by decide +kernel
theorem b456 : decs code 207 [.iconst 1, .iload 5] = true := by decide +kernel
theorem b457 : decs code 213 [.iload 7] = true := by decide +kernel
theorem b458 : decs code 226 [.istore 15] = true := by decide +kernel
theorem b459 : decs code 228 [.iconst 2, .iload 5] = true := by decide +kernel
theorem b460 : decs code 234 [.iload 8] = true := by decide +kernel
theorem d_code_236 : decode code 236 = .ok (.invokestatic 25, 3) := by decide +kernel
theorem b461 : decs code 247 [.istore 16] = true := by decide +kernel
theorem b462 : decs code 249 [.iconst 3, .iload 5] = true := by decide +kernel
theorem b463 : decs code 267 [.iconst 0, .istore 17] = true := by decide +kernel
theorem b464 : decs code 270 [.iload 14] = true := by decide +kernel
theorem b465 : decs code 275 [.iconst 0, .goto 32, .istore 18] = true := by decide +kernel
theorem b466 : decs code 310 [.iload 17] = true := by decide +kernel
theorem b467 : decs code 319 [.iload 16] = true := by decide +kernel
theorem b468 : decs code 328 [.iload 15] = true := by decide +kernel
theorem b469 : decs code 337 [.iload 14] = true := by decide +kernel
theorem b470 : decs code 342 [.iconst 1, .goto 5, .istore 19, .iload 19, .iload 18, .isub, .istore 20, .aload 13] = true := by decide +kernel
theorem b471 : decs code 362 [.iload 20] = true := by decide +kernel
theorem b472 : decs code 369 [.iload 20] = true := by decide +kernel
theorem b473 : decs code 374 [.aload 13, .iconst 0] = true := by decide +kernel
theorem b474 : decs code 380 [.aload 10, .iload 18] = true := by decide +kernel
theorem b475 : decs code 388 [.iload 20, .iconst 1] = true := by decide +kernel
theorem b476 : decs code 410 [.iload 20, .iconst 2] = true := by decide +kernel
theorem b477 : decs code 432 [.iload 20, .iconst 3] = true := by decide +kernel
theorem b478 : decs code 454 [.iconst 1, .goto 4] = true := by decide +kernel
theorem b479 : decs code 270 [.iload 14] = true := by decide +kernel
theorem b480 : decs code 275 [.iconst 0, .goto 32, .istore 18] = true := by decide +kernel
theorem b481 : decs code 310 [.iload 17] = true := by decide +kernel
theorem b482 : decs code 319 [.iload 16] = true := by decide +kernel
theorem b483 : decs code 328 [.iload 15] = true := by decide +kernel
theorem b484 : decs code 333 [.iconst 2, .goto 14, .istore 19, .iload 19, .iload 18, .isub, .istore 20, .aload 13] = true := by decide +kernel
theorem b485 : decs code 362 [.iload 20] = true := by decide +kernel
theorem b486 : decs code 369 [.iload 20] = true := by decide +kernel
theorem b487 : decs code 374 [.aload 13, .iconst 0] = true := by decide +kernel
theorem b488 : decs code 380 [.aload 10, .iload 18] = true := by decide +kernel
theorem b489 : decs code 388 [.iload 20, .iconst 1] = true := by decide +kernel
theorem b490 : decs code 394 [.aload 13, .iconst 1] = true := by decide +kernel
theorem b491 : decs code 400 [.aload 10, .iload 18, .iconst 1, .iadd] = true := by decide +kernel
theorem b492 : decs code 410 [.iload 20, .iconst 2] = true := by decide +kernel
theorem b493 : decs code 432 [.iload 20, .iconst 3] = true := by decide +kernel
theorem b494 : decs code 454 [.iconst 1, .goto 4] = true := by decide +kernel
theorem b495 : decs code 270 [.iload 14] = true := by decide +kernel
theorem b496 : decs code 275 [.iconst 0, .goto 32, .istore 18] = true := by decide +kernel
theorem b497 : decs code 310 [.iload 17] = true := by decide +kernel
theorem b498 : decs code 319 [.iload 16] = true := by decide +kernel
theorem b499 : decs code 324 [.iconst 3, .goto 23, .istore 19, .iload 19, .iload 18, .isub, .istore 20, .aload 13] = true := by decide +kernel
theorem b500 : decs code 362 [.iload 20] = true := by decide +kernel
theorem b501 : decs code 369 [.iload 20] = true := by decide +kernel
theorem b502 : decs code 374 [.aload 13, .iconst 0] = true := by decide +kernel
theorem b503 : decs code 380 [.aload 10, .iload 18] = true := by decide +kernel
theorem b504 : decs code 388 [.iload 20, .iconst 1] = true := by decide +kernel
theorem b505 : decs code 394 [.aload 13, .iconst 1] = true := by decide +kernel
theorem b506 : decs code 400 [.aload 10, .iload 18, .iconst 1, .iadd] = true := by decide +kernel
theorem b507 : decs code 410 [.iload 20, .iconst 2] = true := by decide +kernel
theorem b508 : decs code 416 [.aload 13, .iconst 2] = true := by decide +kernel
theorem d_code_419 : decode code 419 = .ok (.invokevirtual 33, 3) := by decide +kernel
theorem b509 : decs code 422 [.aload 10, .iload 18, .iconst 2, .iadd] = true := by decide +kernel
theorem d_code_428 : decode code 428 = .ok (.caload, 1) := by decide +kernel
theorem d_code_429 : decode code 429 = .ok (.if_icmp .ne 29, 3) := by decide +kernel
theorem b510 : decs code 432 [.iload 20, .iconst 3] = true := by decide +kernel
theorem b511 : decs code 454 [.iconst 1, .goto 4] = true := by decide +kernel
theorem b512 : decs code 270 [.iload 14] = true := by decide +kernel
theorem b513 : decs code 279 [.iload 15] = true := by decide +kernel
theorem b514 : decs code 284 [.iconst 1, .goto 23, .istore 18] = true := by decide +kernel
theorem b515 : decs code 310 [.iload 17] = true := by decide +kernel
theorem b516 : decs code 319 [.iload 16] = true := by decide +kernel
theorem b517 : decs code 328 [.iload 15] = true := by decide +kernel
theorem b518 : decs code 333 [.iconst 2, .goto 14, .istore 19, .iload 19, .iload 18, .isub, .istore 20, .aload 13] = true := by decide +kernel
theorem b519 : decs code 362 [.iload 20] = true := by decide +kernel
theorem b520 : decs code 369 [.iload 20] = true := by decide +kernel
theorem b521 : decs code 374 [.aload 13, .iconst 0] = true := by decide +kernel
theorem b522 : decs code 380 [.aload 10, .iload 18] = true := by decide +kernel
theorem b523 : decs code 388 [.iload 20, .iconst 1] = true := by decide +kernel
theorem b524 : decs code 410 [.iload 20, .iconst 2] = true := by decide +kernel
theorem b525 : decs code 432 [.iload 20, .iconst 3] = true := by decide +kernel
theorem b526 : decs code 454 [.iconst 1, .goto 4] = true := by decide +kernel
theorem b527 : decs code 270 [.iload 14] = true := by decide +kernel
theorem b528 : decs code 279 [.iload 15] = true := by decide +kernel
theorem b529 : decs code 284 [.iconst 1, .goto 23, .istore 18] = true := by decide +kernel
theorem b530 : decs code 310 [.iload 17] = true := by decide +kernel
theorem b531 : decs code 319 [.iload 16] = true := by decide +kernel
theorem b532 : decs code 324 [.iconst 3, .goto 23, .istore 19, .iload 19, .iload 18, .isub, .istore 20, .aload 13] = true := by decide +kernel
theorem b533 : decs code 362 [.iload 20] = true := by decide +kernel
theorem b534 : decs code 369 [.iload 20] = true := by decide +kernel
theorem b535 : decs code 374 [.aload 13, .iconst 0] = true := by decide +kernel
theorem b536 : decs code 380 [.aload 10, .iload 18] = true := by decide +kernel
theorem b537 : decs code 388 [.iload 20, .iconst 1] = true := by decide +kernel
theorem b538 : decs code 394 [.aload 13, .iconst 1] = true := by decide +kernel
theorem b539 : decs code 400 [.aload 10, .iload 18, .iconst 1, .iadd] = true := by decide +kernel
theorem b540 : decs code 410 [.iload 20, .iconst 2] = true := by decide +kernel
theorem b541 : decs code 432 [.iload 20, .iconst 3] = true := by decide +kernel
theorem b542 : decs code 454 [.iconst 1, .goto 4] = true := by decide +kernel
theorem b543 : decs code 270 [.iload 14] = true := by decide +kernel
theorem b544 : decs code 279 [.iload 15] = true := by decide +kernel
theorem b545 : decs code 288 [.iload 16] = true := by decide +kernel
theorem b546 : decs code 293 [.iconst 2, .goto 14, .istore 18] = true := by decide +kernel
theorem b547 : decs code 310 [.iload 17] = true := by decide +kernel
theorem b548 : decs code 319 [.iload 16] = true := by decide +kernel
theorem b549 : decs code 324 [.iconst 3, .goto 23, .istore 19, .iload 19, .iload 18, .isub, .istore 20, .aload 13] = true := by decide +kernel
theorem b550 : decs code 362 [.iload 20] = true := by decide +kernel
theorem b551 : decs code 369 [.iload 20] = true := by decide +kernel
theorem b552 : decs code 374 [.aload 13, .iconst 0] = true := by decide +kernel
theorem b553 : decs code 380 [.aload 10, .iload 18] = true := by decide +kernel
theorem b554 : decs code 388 [.iload 20, .iconst 1] = true := by decide +kernel
theorem b555 : decs code 410 [.iload 20, .iconst 2] = true := by decide +kernel
theorem b556 : decs code 432 [.iload 20, .iconst 3] = true := by decide +kernel
theorem b557 : decs code 454 [.iconst 1, .goto 4] = true := by decide +kernel
theorem b558 : decs code 270 [.iload 14] = true := by decide +kernel
theorem b559 : decs code 279 [.iload 15] = true := by decide +kernel
theorem b560 : decs code 288 [.iload 16] = true := by decide +kernel
theorem b561 : decs code 297 [.iload 17] = true := by decide +kernel
theorem b562 : decs code 306 [.iload 5, .istore 18, .iload 17] = true := by decide +kernel
theorem b563 : decs code 319 [.iload 16] = true := by decide +kernel
theorem b564 : decs code 328 [.iload 15] = true := by decide +kernel
theorem b565 : decs code 337 [.iload 14] = true := by decide +kernel
theorem b566 : decs code 346 [.iload 5, .istore 19, .iload 19, .iload 18, .isub, .istore 20, .aload 13] = true := by decide +kernel
theorem b567 : decs code 362 [.iload 20] = true := by decide +kernel
theorem b568 : decs code 369 [.iload 20] = true := by decide +kernel
theorem b569 : decs code 388 [.iload 20, .iconst 1] = true := by decide +kernel
theorem b570 : decs code 410 [.iload 20, .iconst 2] = true := by decide +kernel
theorem b571 : decs code 432 [.iload 20, .iconst 3] = true := by decide +kernel
theorem b572 : decs code 454 [.iconst 1, .goto 4] = true := by decide +kernel
theorem d_code_239 : decode code 239 = .ok (.ifCond .ne 7, 3) := by decide +kernel
theorem b573 : decs code 246 [.iconst 0] = true := by decide +kernel
theorem b574 : decs code 242 [.iconst 1, .goto 4] = true := by decide +kernel
theorem b575 : decs code 225 [.iconst 0] = true := by decide +kernel
theorem b576 : decs code 221 [.iconst 1, .goto 4] = true := by decide +kernel
theorem b577 : decs code 204 [.iconst 0] = true := by decide +kernel
theorem b578 : decs code 200 [.iconst 1, .goto 4] = true := by decide +kernel
theorem b579 : decs code 58 [.iload 5] = true := by decide +kernel
theorem b580 : decs code 71 [.iload 5, .iconst 1] = true := by decide +kernel
theorem b581 : decs code 90 [.iload 5, .iconst 2] = true := by decide +kernel
theorem b582 : decs code 114 [.iload 5, .iconst 3] = true := by decide +kernel
theorem b583 : decs code 143 [.iconst 4] = true := by decide +kernel
theorem d_code_144 : decode code 144 = .ok (.newarray .char, 2) := by decide +kernel
theorem b584 : decs code 146 [.dup, .iconst 0, .iload 6] = true := by decide +kernel
theorem d_code_150 : decode code 150 = .ok (.castore, 1) := by decide +kernel
theorem b585 : decs code 151 [.dup, .iconst 1, .iload 7] = true := by decide +kernel
theorem d_code_155 : decode code 155 = .ok (.castore, 1) := by decide +kernel
theorem b586 : decs code 156 [.dup, .iconst 2, .iload 8] = true := by decide +kernel
theorem d_code_160 : decode code 160 = .ok (.castore, 1) := by decide +kernel
theorem b587 : decs code 161 [.dup, .iconst 3, .iload 9] = true := by decide +kernel
theorem d_code_165 : decode code 165 = .ok (.castore, 1) := by decide +kernel
theorem b588 : decs code 166 [.astore 11] = true := by decide +kernel
theorem b589 : decs code 171 [.dup, .aload 11] = true := by decide +kernel
theorem b590 : decs code 177 [.astore 12, .aload 12] = true := by decide +kernel
theorem b591 : decs code 184 [.astore 13, .iconst 0, .iload 5] = true := by decide +kernel
theorem b592 : decs code 192 [.iload 6] = true := by decide +kernel
theorem b593 : decs code 205 [.istore 14] = true := by decide +kernel
theorem b594 : decs code 207 [.iconst 1, .iload 5] = true := by decide +kernel
theorem b595 : decs code 213 [.iload 7] = true := by decide +kernel
theorem b596 : decs code 226 [.istore 15] = true := by decide +kernel
theorem b597 : decs code 228 [.iconst 2, .iload 5] = true := by decide +kernel
theorem b598 : decs code 234 [.iload 8] = true := by decide +kernel
theorem b599 : decs code 247 [.istore 16] = true := by decide +kernel
theorem b600 : decs code 249 [.iconst 3, .iload 5] = true := by decide +kernel
theorem b601 : decs code 255 [.iload 9] = true := by decide +kernel
theorem d_code_257 : decode code 257 = .ok (.invokestatic 25, 3) := by decide +kernel
theorem b602 : decs code 268 [.istore 17] = true := by decide +kernel
theorem b603 : decs code 270 [.iload 14] = true := by decide +kernel
theorem b604 : decs code 275 [.iconst 0, .goto 32, .istore 18] = true := by decide +kernel
theorem b605 : decs code 310 [.iload 17] = true := by decide +kernel
theorem b606 : decs code 319 [.iload 16] = true := by decide +kernel
theorem b607 : decs code 328 [.iload 15] = true := by decide +kernel
theorem b608 : decs code 337 [.iload 14] = true := by decide +kernel
theorem b609 : decs code 342 [.iconst 1, .goto 5, .istore 19, .iload 19, .iload 18, .isub, .istore 20, .aload 13] = true := by decide +kernel
theorem b610 : decs code 362 [.iload 20] = true := by decide +kernel
theorem b611 : decs code 369 [.iload 20] = true := by decide +kernel
theorem b612 : decs code 374 [.aload 13, .iconst 0] = true := by decide +kernel
theorem b613 : decs code 380 [.aload 10, .iload 18] = true := by decide +kernel
theorem b614 : decs code 388 [.iload 20, .iconst 1] = true := by decide +kernel
theorem b615 : decs code 410 [.iload 20, .iconst 2] = true := by decide +kernel
theorem b616 : decs code 432 [.iload 20, .iconst 3] = true := by decide +kernel
theorem b617 : decs code 454 [.iconst 1, .goto 4] = true := by decide +kernel
theorem b618 : decs code 270 [.iload 14] = true := by decide +kernel
theorem b619 : decs code 275 [.iconst 0, .goto 32, .istore 18] = true := by decide +kernel
theorem b620 : decs code 310 [.iload 17] = true := by decide +kernel
theorem b621 : decs code 319 [.iload 16] = true := by decide +kernel
theorem b622 : decs code 328 [.iload 15] = true := by decide +kernel
theorem b623 : decs code 333 [.iconst 2, .goto 14, .istore 19, .iload 19, .iload 18, .isub, .istore 20, .aload 13] = true := by decide +kernel
theorem b624 : decs code 362 [.iload 20] = true := by decide +kernel
theorem b625 : decs code 369 [.iload 20] = true := by decide +kernel
theorem b626 : decs code 374 [.aload 13, .iconst 0] = true := by decide +kernel
theorem b627 : decs code 380 [.aload 10, .iload 18] = true := by decide +kernel
theorem b628 : decs code 388 [.iload 20, .iconst 1] = true := by decide +kernel
theorem b629 : decs code 394 [.aload 13, .iconst 1] = true := by decide +kernel
theorem b630 : decs code 400 [.aload 10, .iload 18, .iconst 1, .iadd] = true := by decide +kernel
theorem b631 : decs code 410 [.iload 20, .iconst 2] = true := by decide +kernel
theorem b632 : decs code 432 [.iload 20, .iconst 3] = true := by decide +kernel
theorem b633 : decs code 454 [.iconst 1, .goto 4] = true := by decide +kernel
theorem b634 : decs code 270 [.iload 14] = true := by decide +kernel
theorem b635 : decs code 275 [.iconst 0, .goto 32, .istore 18] = true := by decide +kernel
theorem b636 : decs code 310 [.iload 17] = true := by decide +kernel
theorem b637 : decs code 319 [.iload 16] = true := by decide +kernel
theorem b638 : decs code 324 [.iconst 3, .goto 23, .istore 19, .iload 19, .iload 18, .isub, .istore 20, .aload 13] = true := by decide +kernel
theorem b639 : decs code 362 [.iload 20] = true := by decide +kernel
theorem b640 : decs code 369 [.iload 20] = true := by decide +kernel
theorem b641 : decs code 374 [.aload 13, .iconst 0] = true := by decide +kernel
theorem b642 : decs code 380 [.aload 10, .iload 18] = true := by decide +kernel
theorem b643 : decs code 388 [.iload 20, .iconst 1] = true := by decide +kernel
theorem b644 : decs code 394 [.aload 13, .iconst 1] = true := by decide +kernel
theorem b645 : decs code 400 [.aload 10, .iload 18, .iconst 1, .iadd] = true := by decide +kernel
theorem b646 : decs code 410 [.iload 20, .iconst 2] = true := by decide +kernel
theorem b647 : decs code 416 [.aload 13, .iconst 2] = true := by decide +kernel
theorem b648 : decs code 422 [.aload 10, .iload 18, .iconst 2, .iadd] = true := by decide +kernel
theorem b649 : decs code 432 [.iload 20, .iconst 3] = true := by decide +kernel
theorem b650 : decs code 454 [.iconst 1, .goto 4] = true := by decide +kernel
theorem b651 : decs code 270 [.iload 14] = true := by decide +kernel
theorem b652 : decs code 275 [.iconst 0, .goto 32, .istore 18] = true := by decide +kernel
theorem b653 : decs code 310 [.iload 17] = true := by decide +kernel
theorem b654 : decs code 315 [.iconst 4, .goto 32, .istore 19, .iload 19, .iload 18, .isub, .istore 20, .aload 13] = true := by decide +kernel
theorem b655 : decs code 362 [.iload 20] = true := by decide +kernel
theorem b656 : decs code 369 [.iload 20] = true := by decide +kernel
theorem b657 : decs code 374 [.aload 13, .iconst 0] = true := by decide +kernel
theorem b658 : decs code 380 [.aload 10, .iload 18] = true := by decide +kernel
theorem b659 : decs code 388 [.iload 20, .iconst 1] = true := by decide +kernel
theorem b660 : decs code 394 [.aload 13, .iconst 1] = true := by decide +kernel
theorem b661 : decs code 400 [.aload 10, .iload 18, .iconst 1, .iadd] = true := by decide +kernel
theorem b662 : decs code 410 [.iload 20, .iconst 2] = true := by decide +kernel
theorem b663 : decs code 416 [.aload 13, .iconst 2] = true := by decide +kernel
theorem b664 : decs code 422 [.aload 10, .iload 18, .iconst 2, .iadd] = true := by decide +kernel
theorem b665 : decs code 432 [.iload 20, .iconst 3] = true := by decide +kernel
theorem b666 : decs code 438 [.aload 13, .iconst 3] = true := by decide +kernel
theorem d_code_441 : decode code 441 = .ok (.invokevirtual 33, 3) := by decide +kernel
theorem b667 : decs code 444 [.aload 10, .iload 18, .iconst 3, .iadd] = true := by decide +kernel
theorem d_code_450 : decode code 450 = .ok (.caload, 1) := by decide +kernel
theorem d_code_451 : decode code 451 = .ok (.if_icmp .ne 7, 3) := by decide +kernel
theorem b668 : decs code 454 [.iconst 1, .goto 4] = true := by decide +kernel
theorem b669 : decs code 270 [.iload 14] = true := by decide +kernel
theorem b670 : decs code 279 [.iload 15] = true := by decide +kernel
theorem b671 : decs code 284 [.iconst 1, .goto 23, .istore 18] = true := by decide +kernel
theorem b672 : decs code 310 [.iload 17] = true := by decide +kernel
theorem b673 : decs code 319 [.iload 16] = true := by decide +kernel
theorem b674 : decs code 328 [.iload 15] = true := by decide +kernel
theorem b675 : decs code 333 [.iconst 2, .goto 14, .istore 19, .iload 19, .iload 18, .isub, .istore 20, .aload 13] = true := by decide +kernel
theorem b676 : decs code 362 [.iload 20] = true := by decide +kernel
theorem b677 : decs code 369 [.iload 20] = true := by decide +kernel
theorem b678 : decs code 374 [.aload 13, .iconst 0] = true := by decide +kernel
theorem b679 : decs code 380 [.aload 10, .iload 18] = true := by decide +kernel
theorem b680 : decs code 388 [.iload 20, .iconst 1] = true := by decide +kernel
theorem b681 : decs code 410 [.iload 20, .iconst 2] = true := by decide +kernel
theorem b682 : decs code 432 [.iload 20, .iconst 3] = true := by decide +kernel
theorem b683 : decs code 454 [.iconst 1, .goto 4] = true := by decide +kernel
theorem b684 : decs code 270 [.iload 14] = true := by decide +kernel
theorem b685 : decs code 279 [.iload 15] = true := by decide +kernel
theorem b686 : decs code 284 [.iconst 1, .goto 23, .istore 18] = true := by decide +kernel
theorem b687 : decs code 310 [.iload 17] = true := by decide +kernel
theorem b688 : decs code 319 [.iload 16] = true := by decide +kernel
theorem b689 : decs code 324 [.iconst 3, .goto 23, .istore 19, .iload 19, .iload 18, .isub, .istore 20, .aload 13] = true := by decide +kernel
theorem b690 : decs code 362 [.iload 20] = true := by decide +kernel
theorem b691 : decs code 369 [.iload 20] = true := by decide +kernel
theorem b692 : decs code 374 [.aload 13, .iconst 0] = true := by decide +kernel
theorem b693 : decs code 380 [.aload 10, .iload 18] = true := by decide +kernel
theorem b694 : decs code 388 [.iload 20, .iconst 1] = true := by decide +kernel
theorem b695 : decs code 394 [.aload 13, .iconst 1] = true := by decide +kernel
theorem b696 : decs code 400 [.aload 10, .iload 18, .iconst 1, .iadd] = true := by decide +kernel
theorem b697 : decs code 410 [.iload 20, .iconst 2] = true := by decide +kernel
theorem b698 : decs code 432 [.iload 20, .iconst 3] = true := by decide +kernel
theorem b699 : decs code 454 [.iconst 1, .goto 4] = true := by decide +kernel
theorem b700 : decs code 270 [.iload 14] = true := by decide +kernel
theorem b701 : decs code 279 [.iload 15] = true := by decide +kernel
theorem b702 : decs code 284 [.iconst 1, .goto 23, .istore 18] = true := by decide +kernel
theorem b703 : decs code 310 [.iload 17] = true := by decide +kernel
theorem b704 : decs code 315 [.iconst 4, .goto 32, .istore 19, .iload 19, .iload 18, .isub, .istore 20, .aload 13] = true := by decide +kernel
theorem b705 : decs code 362 [.iload 20] = true := by decide +kernel
theorem b706 : decs code 369 [.iload 20] = true := by decide +kernel
theorem b707 : decs code 374 [.aload 13, .iconst 0] = true := by decide +kernel
theorem b708 : decs code 380 [.aload 10, .iload 18] = true := by decide +kernel
theorem b709 : decs code 388 [.iload 20, .iconst 1] = true := by decide +kernel
theorem b710 : decs code 394 [.aload 13, .iconst 1] = true := by decide +kernel
theorem b711 : decs code 400 [.aload 10, .iload 18, .iconst 1, .iadd] = true := by decide +kernel
theorem b712 : decs code 410 [.iload 20, .iconst 2] = true := by decide +kernel
theorem b713 : decs code 416 [.aload 13, .iconst 2] = true := by decide +kernel
theorem b714 : decs code 422 [.aload 10, .iload 18, .iconst 2, .iadd] = true := by decide +kernel
theorem b715 : decs code 432 [.iload 20, .iconst 3] = true := by decide +kernel
theorem b716 : decs code 454 [.iconst 1, .goto 4] = true := by decide +kernel
theorem b717 : decs code 270 [.iload 14] = true := by decide +kernel
theorem b718 : decs code 279 [.iload 15] = true := by decide +kernel
theorem b719 : decs code 288 [.iload 16] = true := by decide +kernel
theorem b720 : decs code 293 [.iconst 2, .goto 14, .istore 18] = true := by decide +kernel
theorem b721 : decs code 310 [.iload 17] = true := by decide +kernel
theorem b722 : decs code 319 [.iload 16] = true := by decide +kernel
theorem b723 : decs code 324 [.iconst 3, .goto 23, .istore 19, .iload 19, .iload 18, .isub, .istore 20, .aload 13] = true := by decide +kernel
theorem b724 : decs code 362 [.iload 20] = true := by decide +kernel
theorem b725 : decs code 369 [.iload 20] = true := by decide +kernel
theorem b726 : decs code 374 [.aload 13, .iconst 0] = true := by decide +kernel
theorem b727 : decs code 380 [.aload 10, .iload 18] = true := by decide +kernel
theorem b728 : decs code 388 [.iload 20, .iconst 1] = true := by decide +kernel
theorem b729 : decs code 410 [.iload 20, .iconst 2] = true := by decide +kernel
theorem b730 : decs code 432 [.iload 20, .iconst 3] = true := by decide +kernel
theorem b731 : decs code 454 [.iconst 1, .goto 4] = true := by decide +kernel
theorem b732 : decs code 270 [.iload 14] = true := by decide +kernel
theorem b733 : decs code 279 [.iload 15] = true := by decide +kernel
theorem b734 : decs code 288 [.iload 16] = true := by decide +kernel
theorem b735 : decs code 293 [.iconst 2, .goto 14, .istore 18] = true := by decide +kernel
theorem b736 : decs code 310 [.iload 17] = true := by decide +kernel
theorem b737 : decs code 315 [.iconst 4, .goto 32, .istore 19, .iload 19, .iload 18, .isub, .istore 20, .aload 13] = true := by decide +kernel
theorem b738 : decs code 362 [.iload 20] = true := by decide +kernel
theorem b739 : decs code 369 [.iload 20] = true := by decide +kernel
theorem b740 : decs code 374 [.aload 13, .iconst 0] = true := by decide +kernel
theorem b741 : decs code 380 [.aload 10, .iload 18] = true := by decide +kernel
theorem b742 : decs code 388 [.iload 20, .iconst 1] = true := by decide +kernel
theorem b743 : decs code 394 [.aload 13, .iconst 1] = true := by decide +kernel
theorem b744 : decs code 400 [.aload 10, .iload 18, .iconst 1, .iadd] = true := by decide +kernel
theorem b745 : decs code 410 [.iload 20, .iconst 2] = true := by decide +kernel
theorem b746 : decs code 432 [.iload 20, .iconst 3] = true := by decide +kernel
theorem b747 : decs code 454 [.iconst 1, .goto 4] = true := by decide +kernel
theorem b748 : decs code 270 [.iload 14] = true := by decide +kernel
theorem b749 : decs code 279 [.iload 15] = true := by decide +kernel
theorem b750 : decs code 288 [.iload 16] = true := by decide +kernel
theorem b751 : decs code 297 [.iload 17] = true := by decide +kernel
theorem b752 : decs code 302 [.iconst 3, .goto 5, .istore 18] = true := by decide +kernel
theorem b753 : decs code 310 [.iload 17] = true := by decide +kernel
theorem b754 : decs code 315 [.iconst 4, .goto 32, .istore 19, .iload 19, .iload 18, .isub, .istore 20, .aload 13] = true := by decide +kernel
theorem b755 : decs code 362 [.iload 20] = true := by decide +kernel
theorem b756 : decs code 369 [.iload 20] = true := by decide +kernel
theorem b757 : decs code 374 [.aload 13, .iconst 0] = true := by decide +kernel
theorem b758 : decs code 380 [.aload 10, .iload 18] = true := by decide +kernel
theorem b759 : decs code 388 [.iload 20, .iconst 1] = true := by decide +kernel
theorem b760 : decs code 410 [.iload 20, .iconst 2] = true := by decide +kernel
theorem b761 : decs code 432 [.iload 20, .iconst 3] = true := by decide +kernel
theorem b762 : decs code 454 [.iconst 1, .goto 4] = true := by decide +kernel
theorem b763 : decs code 270 [.iload 14] = true := by decide +kernel
theorem b764 : decs code 279 [.iload 15] = true := by decide +kernel
theorem b765 : decs code 288 [.iload 16] = true := by decide +kernel
theorem b766 : decs code 297 [.iload 17] = true := by decide +kernel
theorem b767 : decs code 306 [.iload 5, .istore 18, .iload 17] = true := by decide +kernel
theorem b768 : decs code 319 [.iload 16] = true := by decide +kernel
theorem b769 : decs code 328 [.iload 15] = true := by decide +kernel
theorem b770 : decs code 337 [.iload 14] = true := by decide +kernel
theorem b771 : decs code 346 [.iload 5, .istore 19, .iload 19, .iload 18, .isub, .istore 20, .aload 13] = true := by decide +kernel
theorem b772 : decs code 362 [.iload 20] = true := by decide +kernel
theorem b773 : decs code 369 [.iload 20] = true := by decide +kernel
theorem b774 : decs code 388 [.iload 20, .iconst 1] = true := by decide +kernel
theorem b775 : decs code 410 [.iload 20, .iconst 2] = true := by decide +kernel
theorem b776 : decs code 432 [.iload 20, .iconst 3] = true := by decide +kernel
theorem b777 : decs code 454 [.iconst 1, .goto 4] = true := by decide +kernel
theorem d_code_260 : decode code 260 = .ok (.ifCond .ne 7, 3) := by decide +kernel
theorem b778 : decs code 267 [.iconst 0] = true := by decide +kernel
theorem b779 : decs code 263 [.iconst 1, .goto 4] = true := by decide +kernel
theorem b780 : decs code 246 [.iconst 0] = true := by decide +kernel
theorem b781 : decs code 242 [.iconst 1, .goto 4] = true := by decide +kernel
theorem b782 : decs code 225 [.iconst 0] = true := by decide +kernel
theorem b783 : decs code 221 [.iconst 1, .goto 4] = true := by decide +kernel
theorem b784 : decs code 204 [.iconst 0] = true := by decide +kernel
theorem b785 : decs code 200 [.iconst 1, .goto 4] = true := by decide +kernel
def QL (v : Option Value) (h : Heap) (S : Addr → Prop) : Prop := v = some (.int 1)
set_option maxRecDepth 65536 in
set_option maxHeartbeats 40000000 in
theorem ct_law {h0 : Heap} {p1 p2 p3 p4 p5 zc : Int32} {fm : Value} (hw : ∀ d ∈ tables_1, d.before a0 Z = true) (hEL : EW Z a0 EL) (hO : Old Z Z.heap.size h0) (U : US Z zc)(hFM : Sta Z Z.heap "jdk/internal/util/Preconditions" "SIOOBE_FORMATTER" "Ljava/util/function/BiFunction;" fm) (hfm : fm = .null ∨ ∃ a, fm = .ref a) :
    Ct true false Z EL l x code maxLocals ret room_1 #[(.int p1), (.int p2), (.int p3), (.int p4), (.int p5)] h0 [] (QL) tables_1 := by
  refine ctOf (plainFor_of_name pn_com_example_nay1_nay1_lexicon_LexiconLineEntryPinLaw) hO hEL ?_
  intro p e s m below meth c s₁ S0 X0 hby hml hret hnm hsf
  refine Go.entry (ef_code m p1 p2 p3 p4 p5) ?_
  show Go _ _ _ _ (s₁.setTop (mkF m 0 #[i_ p1, i_ p2, i_ p3, i_ p4, i_ p5, u_, u_, u_, u_, u_, u_, u_, u_, u_, u_, u_, u_, u_, u_, u_, u_] []))
  refine blk X0 hby b269 (pc' := 1) (Ls' := #[i_ p1, i_ p2, i_ p3, i_ p4, i_ p5, u_, u_, u_, u_, u_, u_, u_, u_, u_, u_, u_, u_, u_, u_, u_, u_]) (st' := [(.int p1)]) rfl ?_
  refine gLdcI X0 hby (hw _ (List.mem_of_getElem? (i := 0) rfl)) d_code_1 ?_
  refine blk X0 hby b270 (pc' := 5) (Ls' := #[i_ p1, i_ p2, i_ p3, i_ p4, i_ p5, u_, u_, u_, u_, u_, u_, u_, u_, u_, u_, u_, u_, u_, u_, u_, u_]) (st' := [(.int 5), (.int (p1 &&& (2147483647 : Int32)))]) rfl ?_
  refine gRem X0 hby d_code_5 (by decide) ?_
  refine blk X0 hby b271 (pc' := 9) (Ls' := #[i_ p1, i_ p2, i_ p3, i_ p4, i_ p5, i_ ((p1 &&& (2147483647 : Int32)) % (5 : Int32)), u_, u_, u_, u_, u_, u_, u_, u_, u_, u_, u_, u_, u_, u_, u_]) (st' := [(.int p2)]) rfl ?_
  refine gStatic X0 hby (argsL := [(.int p2)]) (st := []) (ct_pick hw hEL X0.old) (hw _ (List.mem_of_getElem? (i := 1) rfl)) (hw _ (List.mem_of_getElem? (i := 2) rfl)) (hw _ (List.mem_of_getElem? (i := 3) rfl)) (hw _ (List.mem_of_getElem? (i := 4) rfl)) pd__I_C rfl d_code_9 rfl (by rw [hml]; rfl) all0 (by decide) (Nat.le_of_ble_eq_true rfl) (by decide) (by decide) (fun v1 T1 h1 S1 X1 q1 sS1 sz1 => ?_)
  obtain ⟨y1, rfl, hr1, hkp1⟩ := q1
  show Go _ _ _ _ (T1.setTop (mkF m 12 #[i_ p1, i_ p2, i_ p3, i_ p4, i_ p5, i_ ((p1 &&& (2147483647 : Int32)) % (5 : Int32)), u_, u_, u_, u_, u_, u_, u_, u_, u_, u_, u_, u_, u_, u_, u_] [(.int y1)]))
  refine blk X1 hby b272 (pc' := 15) (Ls' := #[i_ p1, i_ p2, i_ p3, i_ p4, i_ p5, i_ ((p1 &&& (2147483647 : Int32)) % (5 : Int32)), i_ y1, u_, u_, u_, u_, u_, u_, u_, u_, u_, u_, u_, u_, u_, u_]) (st' := [(.int p3)]) rfl ?_
  refine gStatic X1 hby (argsL := [(.int p3)]) (st := []) (ct_pick hw hEL X1.old) (hw _ (List.mem_of_getElem? (i := 1) rfl)) (hw _ (List.mem_of_getElem? (i := 2) rfl)) (hw _ (List.mem_of_getElem? (i := 3) rfl)) (hw _ (List.mem_of_getElem? (i := 4) rfl)) pd__I_C rfl d_code_15 rfl (by rw [hml]; rfl) all0 (by decide) (Nat.le_of_ble_eq_true rfl) (by decide) (by decide) (fun v2 T2 h2 S2 X2 q2 sS2 sz2 => ?_)
  obtain ⟨y2, rfl, hr2, hkp2⟩ := q2
  show Go _ _ _ _ (T2.setTop (mkF m 18 #[i_ p1, i_ p2, i_ p3, i_ p4, i_ p5, i_ ((p1 &&& (2147483647 : Int32)) % (5 : Int32)), i_ y1, u_, u_, u_, u_, u_, u_, u_, u_, u_, u_, u_, u_, u_, u_] [(.int y2)]))
  refine blk X2 hby b273 (pc' := 21) (Ls' := #[i_ p1, i_ p2, i_ p3, i_ p4, i_ p5, i_ ((p1 &&& (2147483647 : Int32)) % (5 : Int32)), i_ y1, i_ y2, u_, u_, u_, u_, u_, u_, u_, u_, u_, u_, u_, u_, u_]) (st' := [(.int p4)]) rfl ?_
  refine gStatic X2 hby (argsL := [(.int p4)]) (st := []) (ct_pick hw hEL X2.old) (hw _ (List.mem_of_getElem? (i := 1) rfl)) (hw _ (List.mem_of_getElem? (i := 2) rfl)) (hw _ (List.mem_of_getElem? (i := 3) rfl)) (hw _ (List.mem_of_getElem? (i := 4) rfl)) pd__I_C rfl d_code_21 rfl (by rw [hml]; rfl) all0 (by decide) (Nat.le_of_ble_eq_true rfl) (by decide) (by decide) (fun v3 T3 h3 S3 X3 q3 sS3 sz3 => ?_)
  obtain ⟨y3, rfl, hr3, hkp3⟩ := q3
  show Go _ _ _ _ (T3.setTop (mkF m 24 #[i_ p1, i_ p2, i_ p3, i_ p4, i_ p5, i_ ((p1 &&& (2147483647 : Int32)) % (5 : Int32)), i_ y1, i_ y2, u_, u_, u_, u_, u_, u_, u_, u_, u_, u_, u_, u_, u_] [(.int y3)]))
  refine blk X3 hby b274 (pc' := 28) (Ls' := #[i_ p1, i_ p2, i_ p3, i_ p4, i_ p5, i_ ((p1 &&& (2147483647 : Int32)) % (5 : Int32)), i_ y1, i_ y2, i_ y3, u_, u_, u_, u_, u_, u_, u_, u_, u_, u_, u_, u_]) (st' := [(.int p5)]) rfl ?_
  refine gStatic X3 hby (argsL := [(.int p5)]) (st := []) (ct_pick hw hEL X3.old) (hw _ (List.mem_of_getElem? (i := 1) rfl)) (hw _ (List.mem_of_getElem? (i := 2) rfl)) (hw _ (List.mem_of_getElem? (i := 3) rfl)) (hw _ (List.mem_of_getElem? (i := 4) rfl)) pd__I_C rfl d_code_28 rfl (by rw [hml]; rfl) all0 (by decide) (Nat.le_of_ble_eq_true rfl) (by decide) (by decide) (fun v4 T4 h4 S4 X4 q4 sS4 sz4 => ?_)
  obtain ⟨y4, rfl, hr4, hkp4⟩ := q4
  show Go _ _ _ _ (T4.setTop (mkF m 31 #[i_ p1, i_ p2, i_ p3, i_ p4, i_ p5, i_ ((p1 &&& (2147483647 : Int32)) % (5 : Int32)), i_ y1, i_ y2, i_ y3, u_, u_, u_, u_, u_, u_, u_, u_, u_, u_, u_, u_] [(.int y4)]))
  refine blk X4 hby b275 (pc' := 33) (Ls' := #[i_ p1, i_ p2, i_ p3, i_ p4, i_ p5, i_ ((p1 &&& (2147483647 : Int32)) % (5 : Int32)), i_ y1, i_ y2, i_ y3, i_ y4, u_, u_, u_, u_, u_, u_, u_, u_, u_, u_, u_]) (st' := []) rfl ?_
  refine blk X4 hby b276 (pc' := 34) (Ls' := #[i_ p1, i_ p2, i_ p3, i_ p4, i_ p5, i_ ((p1 &&& (2147483647 : Int32)) % (5 : Int32)), i_ y1, i_ y2, i_ y3, i_ y4, u_, u_, u_, u_, u_, u_, u_, u_, u_, u_, u_]) (st' := [(.int 4)]) rfl ?_
  refine gNewA X4 hby (aty := .char) (hw _ (List.mem_of_getElem? (i := 8) rfl)) d_code_34 rfl (N := 4) (cap := 4) rfl (by decide) (by decide) (by decide) (by decide) (fun T5 h5 S5 X5 E5 V5 sS5 sn5 => ?_)
  have gc : Z.heap.size ≤ h4.size := X4.old.2.1
  have hVc : Ari Z h5 h4.size .char (List.replicate 4 0) := V5
  have hsc : S5 h4.size := sn5
  refine blk X5 hby b277 (pc' := 40) (Ls' := #[i_ p1, i_ p2, i_ p3, i_ p4, i_ p5, i_ ((p1 &&& (2147483647 : Int32)) % (5 : Int32)), i_ y1, i_ y2, i_ y3, i_ y4, u_, u_, u_, u_, u_, u_, u_, u_, u_, u_, u_]) (st' := [(.int y1), (.int 0), (.ref (h4.size)), (.ref (h4.size))]) rfl ?_
  refine gSt X5 hby hVc (Or.inr (Or.inl ⟨rfl, rfl⟩)) d_code_40 (i := 0) rfl (Nat.le_of_ble_eq_true rfl) (fits_nar_char _) gc hsc (fun T6 h6 S6 X6 W6 V6 sS6 => ?_)
  rw [nar_char hr1] at V6
  replace hVc := V6; replace hsc := sS6 _ hsc
  refine blk X6 hby b278 (pc' := 45) (Ls' := #[i_ p1, i_ p2, i_ p3, i_ p4, i_ p5, i_ ((p1 &&& (2147483647 : Int32)) % (5 : Int32)), i_ y1, i_ y2, i_ y3, i_ y4, u_, u_, u_, u_, u_, u_, u_, u_, u_, u_, u_]) (st' := [(.int y2), (.int 1), (.ref (h4.size)), (.ref (h4.size))]) rfl ?_
  refine gSt X6 hby hVc (Or.inr (Or.inl ⟨rfl, rfl⟩)) d_code_45 (i := 1) rfl (Nat.le_of_ble_eq_true rfl) (fits_nar_char _) gc hsc (fun T7 h7 S7 X7 W7 V7 sS7 => ?_)
  rw [nar_char hr2] at V7
  replace hVc := V7; replace hsc := sS7 _ hsc
  refine blk X7 hby b279 (pc' := 50) (Ls' := #[i_ p1, i_ p2, i_ p3, i_ p4, i_ p5, i_ ((p1 &&& (2147483647 : Int32)) % (5 : Int32)), i_ y1, i_ y2, i_ y3, i_ y4, u_, u_, u_, u_, u_, u_, u_, u_, u_, u_, u_]) (st' := [(.int y3), (.int 2), (.ref (h4.size)), (.ref (h4.size))]) rfl ?_
  refine gSt X7 hby hVc (Or.inr (Or.inl ⟨rfl, rfl⟩)) d_code_50 (i := 2) rfl (Nat.le_of_ble_eq_true rfl) (fits_nar_char _) gc hsc (fun T8 h8 S8 X8 W8 V8 sS8 => ?_)
  rw [nar_char hr3] at V8
  replace hVc := V8; replace hsc := sS8 _ hsc
  refine blk X8 hby b280 (pc' := 55) (Ls' := #[i_ p1, i_ p2, i_ p3, i_ p4, i_ p5, i_ ((p1 &&& (2147483647 : Int32)) % (5 : Int32)), i_ y1, i_ y2, i_ y3, i_ y4, u_, u_, u_, u_, u_, u_, u_, u_, u_, u_, u_]) (st' := [(.int y4), (.int 3), (.ref (h4.size)), (.ref (h4.size))]) rfl ?_
  refine gSt X8 hby hVc (Or.inr (Or.inl ⟨rfl, rfl⟩)) d_code_55 (i := 3) rfl (Nat.le_of_ble_eq_true rfl) (fits_nar_char _) gc hsc (fun T9 h9 S9 X9 W9 V9 sS9 => ?_)
  rw [nar_char hr4] at V9
  replace hVc := V9; replace hsc := sS9 _ hsc
  replace hVc : Ari Z h9 h4.size .char [y1, y2, y3, y4] := hVc
  refine blk X9 hby b281 (pc' := 58) (Ls' := #[i_ p1, i_ p2, i_ p3, i_ p4, i_ p5, i_ ((p1 &&& (2147483647 : Int32)) % (5 : Int32)), i_ y1, i_ y2, i_ y3, i_ y4, r_ (h4.size), u_, u_, u_, u_, u_, u_, u_, u_, u_, u_]) (st' := []) rfl ?_
  rcases rem5 p1 with hq | hq | hq | hq | hq
  · rw [hq]
    show Go _ _ _ _ (T9.setTop (mkF m 58 #[i_ p1, i_ p2, i_ p3, i_ p4, i_ p5, i_ 0, i_ y1, i_ y2, i_ y3, i_ y4, r_ (h4.size), u_, u_, u_, u_, u_, u_, u_, u_, u_, u_] []))
    refine blk X9 hby b282 (pc' := 60) (Ls' := #[i_ p1, i_ p2, i_ p3, i_ p4, i_ p5, i_ 0, i_ y1, i_ y2, i_ y3, i_ y4, r_ (h4.size), u_, u_, u_, u_, u_, u_, u_, u_, u_, u_]) (st' := [(.int 0)]) rfl ?_
    refine br0 X9 hby d_code_60 (pc1 := 71) (by decide) (fun hn => absurd (neT hn) (fun q => q rfl)) (fun hn => ?_)
    refine blk X9 hby b283 (pc' := 64) (Ls' := #[i_ p1, i_ p2, i_ p3, i_ p4, i_ p5, i_ 0, i_ y1, i_ y2, i_ y3, i_ y4, r_ (h4.size), u_, u_, u_, u_, u_, u_, u_, u_, u_, u_]) (st' := [(.int 0)]) rfl ?_
    refine gNewA X9 hby (aty := .char) (hw _ (List.mem_of_getElem? (i := 8) rfl)) d_code_64 rfl (N := 0) (cap := 0) rfl (by decide) (by decide) (by decide) (by decide) (fun T10 h10 S10 X10 E10 V10 sS10 sn10 => ?_)
    have ga : Z.heap.size ≤ h9.size := X9.old.2.1
    have hV : Ari Z h10 h9.size .char (List.replicate 0 0) := V10
    have hsa : S10 h9.size := sn10
    have hVlt := hVc.lt
    replace hVc := hVc.ext E10
    have nca : h4.size ≠ h9.size := Nat.ne_of_lt hVlt
    replace hV : Ari Z h10 h9.size .char ([] : List Int32) := hV
    refine blk X10 hby b284 (pc' := 168) (Ls' := #[i_ p1, i_ p2, i_ p3, i_ p4, i_ p5, i_ 0, i_ y1, i_ y2, i_ y3, i_ y4, r_ (h4.size), r_ (h9.size), u_, u_, u_, u_, u_, u_, u_, u_, u_]) (st' := []) rfl ?_
    refine gNew X10 hby (hw _ (List.mem_of_getElem? (i := 9) rfl)) (hw _ (List.mem_of_getElem? (i := 10) rfl)) (hw _ (List.mem_of_getElem? (i := 11) rfl)) d_code_168 (by decide) (by decide) (fun T11 h11 S11 X11 E11 A11 D11 M11 sS11 sn11 => ?_)
    refine blk X11 hby b285 (pc' := 174) (Ls' := #[i_ p1, i_ p2, i_ p3, i_ p4, i_ p5, i_ 0, i_ y1, i_ y2, i_ y3, i_ y4, r_ (h4.size), r_ (h9.size), u_, u_, u_, u_, u_, u_, u_, u_, u_]) (st' := [(.ref (h9.size)), (.ref (h10.size)), (.ref (h10.size))]) rfl ?_
    refine gInit X11 hby (argsL := [(.ref (h9.size))]) (st := [(.ref (h10.size))]) (ct_init1 hw hEL X11.old U A11 (D11 (O := "java/lang/String") (nm := "value") (d := "[B") (Or.inr (hw _ (List.mem_of_getElem? (i := 24) rfl))) (ty := .array .byte) (by decide)) (D11 (O := "java/lang/String") (nm := "coder") (d := "B") (Or.inr (hw _ (List.mem_of_getElem? (i := 25) rfl))) (ty := .byte) (by decide)) (hV.ext E11) X10.old.2.1 (Nat.le_of_ble_eq_true rfl)) rfl (hw _ (List.mem_of_getElem? (i := 12) rfl)) (hw _ (List.mem_of_getElem? (i := 13) rfl)) (hw _ (List.mem_of_getElem? (i := 11) rfl)) (hw _ (List.mem_of_getElem? (i := 14) rfl)) pd___C_V rfl d_code_174 rfl (by rw [hml]; rfl) (allS sn11 all0) (by decide) (Nat.le_of_ble_eq_true rfl) (by decide) (by decide) (fun v12 T12 h12 S12 X12 q12 sS12 sz12 => ?_)
    obtain ⟨rfl, u1, b, hx, -⟩ := q12
    have hVd : Ari Z h12 h4.size .char [y1, y2, y3, y4] := (hVc.ext E11).keep u1 (fun z => by rw [List.mem_singleton] at z; exact absurd hVc.lt (by rw [z]; exact Nat.lt_irrefl _))
    show Go _ _ _ _ (T12.setTop (mkF m 177 #[i_ p1, i_ p2, i_ p3, i_ p4, i_ p5, i_ 0, i_ y1, i_ y2, i_ y3, i_ y4, r_ (h4.size), r_ (h9.size), u_, u_, u_, u_, u_, u_, u_, u_, u_] [(.ref (h10.size))]))
    refine blk X12 hby b286 (pc' := 181) (Ls' := #[i_ p1, i_ p2, i_ p3, i_ p4, i_ p5, i_ 0, i_ y1, i_ y2, i_ y3, i_ y4, r_ (h4.size), r_ (h9.size), r_ (h10.size), u_, u_, u_, u_, u_, u_, u_, u_]) (st' := [(.ref (h10.size))]) rfl ?_
    refine gStatic X12 hby (argsL := [(.ref (h10.size))]) (st := []) (ct_ent hw hEL X12.old U hFM hfm hx (Nat.le_of_ble_eq_true rfl)) (hw _ (List.mem_of_getElem? (i := 30) rfl)) (hw _ (List.mem_of_getElem? (i := 31) rfl)) (hw _ (List.mem_of_getElem? (i := 32) rfl)) (hw _ (List.mem_of_getElem? (i := 33) rfl)) pd__Ljava_lang_String__Ljava_lang_String_ rfl d_code_181 rfl (by rw [hml]; rfl) all0 (by decide) (Nat.le_of_ble_eq_true rfl) (by decide) (by decide) (fun v13 T13 h13 S13 X13 q13 sS13 sz13 => ?_)
    obtain ⟨i, k, x', b', rfl, g1, g2, g3, g4, g5, g6, g7, hx', K'⟩ := q13
    replace hVd := hVd.keep K' nin0
    show Go _ _ _ _ (T13.setTop (mkF m 184 #[i_ p1, i_ p2, i_ p3, i_ p4, i_ p5, i_ 0, i_ y1, i_ y2, i_ y3, i_ y4, r_ (h4.size), r_ (h9.size), r_ (h10.size), u_, u_, u_, u_, u_, u_, u_, u_] [(.ref (x'))]))
    replace g2 : k ≤ 0 := g2; replace g3 : i < 0 → i < k := g3; replace g5 : i < 0 → wsB (([] : List Int32).getD i 0) = false := g5; replace g6 : ∀ j, k ≤ j → j < 0 → wsB (([] : List Int32).getD j 0) = true := g6
    refine blk X13 hby b287 (pc' := 189) (Ls' := #[i_ p1, i_ p2, i_ p3, i_ p4, i_ p5, i_ 0, i_ y1, i_ y2, i_ y3, i_ y4, r_ (h4.size), r_ (h9.size), r_ (h10.size), r_ (x'), u_, u_, u_, u_, u_, u_, u_]) (st' := [(.int 0), (.int 0)]) rfl ?_
    refine brI X13 hby d_code_189 (pc1 := 204) (by decide) (fun hj0 => ?_) (fun hj0 => absurd (geF hj0) (by decide))
    refine blk X13 hby b288 (pc' := 207) (Ls' := #[i_ p1, i_ p2, i_ p3, i_ p4, i_ p5, i_ 0, i_ y1, i_ y2, i_ y3, i_ y4, r_ (h4.size), r_ (h9.size), r_ (h10.size), r_ (x'), i_ 0, u_, u_, u_, u_, u_, u_]) (st' := []) rfl ?_
    refine blk X13 hby b289 (pc' := 210) (Ls' := #[i_ p1, i_ p2, i_ p3, i_ p4, i_ p5, i_ 0, i_ y1, i_ y2, i_ y3, i_ y4, r_ (h4.size), r_ (h9.size), r_ (h10.size), r_ (x'), i_ 0, u_, u_, u_, u_, u_, u_]) (st' := [(.int 0), (.int 1)]) rfl ?_
    refine brI X13 hby d_code_210 (pc1 := 225) (by decide) (fun hj1 => ?_) (fun hj1 => absurd (geF hj1) (by decide))
    refine blk X13 hby b290 (pc' := 228) (Ls' := #[i_ p1, i_ p2, i_ p3, i_ p4, i_ p5, i_ 0, i_ y1, i_ y2, i_ y3, i_ y4, r_ (h4.size), r_ (h9.size), r_ (h10.size), r_ (x'), i_ 0, i_ 0, u_, u_, u_, u_, u_]) (st' := []) rfl ?_
    refine blk X13 hby b291 (pc' := 231) (Ls' := #[i_ p1, i_ p2, i_ p3, i_ p4, i_ p5, i_ 0, i_ y1, i_ y2, i_ y3, i_ y4, r_ (h4.size), r_ (h9.size), r_ (h10.size), r_ (x'), i_ 0, i_ 0, u_, u_, u_, u_, u_]) (st' := [(.int 0), (.int 2)]) rfl ?_
    refine brI X13 hby d_code_231 (pc1 := 246) (by decide) (fun hj2 => ?_) (fun hj2 => absurd (geF hj2) (by decide))
    refine blk X13 hby b292 (pc' := 249) (Ls' := #[i_ p1, i_ p2, i_ p3, i_ p4, i_ p5, i_ 0, i_ y1, i_ y2, i_ y3, i_ y4, r_ (h4.size), r_ (h9.size), r_ (h10.size), r_ (x'), i_ 0, i_ 0, i_ 0, u_, u_, u_, u_]) (st' := []) rfl ?_
    refine blk X13 hby b293 (pc' := 252) (Ls' := #[i_ p1, i_ p2, i_ p3, i_ p4, i_ p5, i_ 0, i_ y1, i_ y2, i_ y3, i_ y4, r_ (h4.size), r_ (h9.size), r_ (h10.size), r_ (x'), i_ 0, i_ 0, i_ 0, u_, u_, u_, u_]) (st' := [(.int 0), (.int 3)]) rfl ?_
    refine brI X13 hby d_code_252 (pc1 := 267) (by decide) (fun hj3 => ?_) (fun hj3 => absurd (geF hj3) (by decide))
    refine blk X13 hby b294 (pc' := 270) (Ls' := #[i_ p1, i_ p2, i_ p3, i_ p4, i_ p5, i_ 0, i_ y1, i_ y2, i_ y3, i_ y4, r_ (h4.size), r_ (h9.size), r_ (h10.size), r_ (x'), i_ 0, i_ 0, i_ 0, i_ 0, u_, u_, u_]) (st' := []) rfl ?_
    have hik : (i = 0 ∧ k = 0) := by omega
    rcases hik with ⟨rfl, rfl⟩
    · skip
      show Go _ _ _ _ (T13.setTop (mkF m 270 #[i_ p1, i_ p2, i_ p3, i_ p4, i_ p5, i_ 0, i_ y1, i_ y2, i_ y3, i_ y4, r_ (h4.size), r_ (h9.size), r_ (h10.size), r_ (x'), i_ 0, i_ 0, i_ 0, i_ 0, u_, u_, u_] []))
      refine blk X13 hby b295 (pc' := 272) (Ls' := #[i_ p1, i_ p2, i_ p3, i_ p4, i_ p5, i_ 0, i_ y1, i_ y2, i_ y3, i_ y4, r_ (h4.size), r_ (h9.size), r_ (h10.size), r_ (x'), i_ 0, i_ 0, i_ 0, i_ 0, u_, u_, u_]) (st' := [(.int 0)]) rfl ?_
      refine br0 X13 hby d_code_272 (pc1 := 279) (by decide) (fun hl => ?_) (fun hl => absurd (eqF hl) (fun q => q rfl))
      refine blk X13 hby b296 (pc' := 281) (Ls' := #[i_ p1, i_ p2, i_ p3, i_ p4, i_ p5, i_ 0, i_ y1, i_ y2, i_ y3, i_ y4, r_ (h4.size), r_ (h9.size), r_ (h10.size), r_ (x'), i_ 0, i_ 0, i_ 0, i_ 0, u_, u_, u_]) (st' := [(.int 0)]) rfl ?_
      refine br0 X13 hby d_code_281 (pc1 := 288) (by decide) (fun hl => ?_) (fun hl => absurd (eqF hl) (fun q => q rfl))
      refine blk X13 hby b297 (pc' := 290) (Ls' := #[i_ p1, i_ p2, i_ p3, i_ p4, i_ p5, i_ 0, i_ y1, i_ y2, i_ y3, i_ y4, r_ (h4.size), r_ (h9.size), r_ (h10.size), r_ (x'), i_ 0, i_ 0, i_ 0, i_ 0, u_, u_, u_]) (st' := [(.int 0)]) rfl ?_
      refine br0 X13 hby d_code_290 (pc1 := 297) (by decide) (fun hl => ?_) (fun hl => absurd (eqF hl) (fun q => q rfl))
      refine blk X13 hby b298 (pc' := 299) (Ls' := #[i_ p1, i_ p2, i_ p3, i_ p4, i_ p5, i_ 0, i_ y1, i_ y2, i_ y3, i_ y4, r_ (h4.size), r_ (h9.size), r_ (h10.size), r_ (x'), i_ 0, i_ 0, i_ 0, i_ 0, u_, u_, u_]) (st' := [(.int 0)]) rfl ?_
      refine br0 X13 hby d_code_299 (pc1 := 306) (by decide) (fun hl => ?_) (fun hl => absurd (eqF hl) (fun q => q rfl))
      refine blk X13 hby b299 (pc' := 312) (Ls' := #[i_ p1, i_ p2, i_ p3, i_ p4, i_ p5, i_ 0, i_ y1, i_ y2, i_ y3, i_ y4, r_ (h4.size), r_ (h9.size), r_ (h10.size), r_ (x'), i_ 0, i_ 0, i_ 0, i_ 0, i_ 0, u_, u_]) (st' := [(.int 0)]) rfl ?_
      refine br0 X13 hby d_code_312 (pc1 := 319) (by decide) (fun hl => ?_) (fun hl => absurd (eqF hl) (fun q => q rfl))
      refine blk X13 hby b300 (pc' := 321) (Ls' := #[i_ p1, i_ p2, i_ p3, i_ p4, i_ p5, i_ 0, i_ y1, i_ y2, i_ y3, i_ y4, r_ (h4.size), r_ (h9.size), r_ (h10.size), r_ (x'), i_ 0, i_ 0, i_ 0, i_ 0, i_ 0, u_, u_]) (st' := [(.int 0)]) rfl ?_
      refine br0 X13 hby d_code_321 (pc1 := 328) (by decide) (fun hl => ?_) (fun hl => absurd (eqF hl) (fun q => q rfl))
      refine blk X13 hby b301 (pc' := 330) (Ls' := #[i_ p1, i_ p2, i_ p3, i_ p4, i_ p5, i_ 0, i_ y1, i_ y2, i_ y3, i_ y4, r_ (h4.size), r_ (h9.size), r_ (h10.size), r_ (x'), i_ 0, i_ 0, i_ 0, i_ 0, i_ 0, u_, u_]) (st' := [(.int 0)]) rfl ?_
      refine br0 X13 hby d_code_330 (pc1 := 337) (by decide) (fun hl => ?_) (fun hl => absurd (eqF hl) (fun q => q rfl))
      refine blk X13 hby b302 (pc' := 339) (Ls' := #[i_ p1, i_ p2, i_ p3, i_ p4, i_ p5, i_ 0, i_ y1, i_ y2, i_ y3, i_ y4, r_ (h4.size), r_ (h9.size), r_ (h10.size), r_ (x'), i_ 0, i_ 0, i_ 0, i_ 0, i_ 0, u_, u_]) (st' := [(.int 0)]) rfl ?_
      refine br0 X13 hby d_code_339 (pc1 := 346) (by decide) (fun hl => ?_) (fun hl => absurd (eqF hl) (fun q => q rfl))
      refine blk X13 hby b303 (pc' := 359) (Ls' := #[i_ p1, i_ p2, i_ p3, i_ p4, i_ p5, i_ 0, i_ y1, i_ y2, i_ y3, i_ y4, r_ (h4.size), r_ (h9.size), r_ (h10.size), r_ (x'), i_ 0, i_ 0, i_ 0, i_ 0, i_ 0, i_ 0, i_ ((0 : Int32) - (0 : Int32))]) (st' := [(.ref (x'))]) rfl ?_
      show Go _ _ _ _ (T13.setTop (mkF m 359 #[i_ p1, i_ p2, i_ p3, i_ p4, i_ p5, i_ 0, i_ y1, i_ y2, i_ y3, i_ y4, r_ (h4.size), r_ (h9.size), r_ (h10.size), r_ (x'), i_ 0, i_ 0, i_ 0, i_ 0, i_ 0, i_ 0, i_ 0] [(.ref (x'))]))
      refine gVirt X13 hby (argsL := []) (st := []) (ct_len hw hEL X13.old U hx') hx'.1 (hw _ (List.mem_of_getElem? (i := 59) rfl)) (hw _ (List.mem_of_getElem? (i := 35) rfl)) (hw _ (List.mem_of_getElem? (i := 37) rfl)) (hw _ (List.mem_of_getElem? (i := 36) rfl)) (hw _ (List.mem_of_getElem? (i := 11) rfl)) (hw _ (List.mem_of_getElem? (i := 38) rfl)) pd___I rfl d_code_359 rfl (by rw [hml]; rfl) all0 (by decide) (Nat.le_of_ble_eq_true rfl) (by decide) (by decide) (fun v14 T14 h14 S14 X14 q14 sS14 sz14 => ?_)
      obtain ⟨rfl, rfl⟩ := q14
      show Go _ _ _ _ (T14.setTop (mkF m 362 #[i_ p1, i_ p2, i_ p3, i_ p4, i_ p5, i_ 0, i_ y1, i_ y2, i_ y3, i_ y4, r_ (h4.size), r_ (h9.size), r_ (h10.size), r_ (x'), i_ 0, i_ 0, i_ 0, i_ 0, i_ 0, i_ 0, i_ 0] [(.int (Int32.ofNat ((([] : List Int32).drop 0).take (0 - 0)).length))]))
      show Go _ _ _ _ (T14.setTop (mkF m 362 #[i_ p1, i_ p2, i_ p3, i_ p4, i_ p5, i_ 0, i_ y1, i_ y2, i_ y3, i_ y4, r_ (h4.size), r_ (h9.size), r_ (h10.size), r_ (x'), i_ 0, i_ 0, i_ 0, i_ 0, i_ 0, i_ 0, i_ 0] [(.int 0)]))
      refine blk X14 hby b304 (pc' := 364) (Ls' := #[i_ p1, i_ p2, i_ p3, i_ p4, i_ p5, i_ 0, i_ y1, i_ y2, i_ y3, i_ y4, r_ (h4.size), r_ (h9.size), r_ (h10.size), r_ (x'), i_ 0, i_ 0, i_ 0, i_ 0, i_ 0, i_ 0, i_ 0]) (st' := [(.int 0), (.int 0)]) rfl ?_
      refine brI X14 hby d_code_364 (pc1 := 369) (by decide) (fun hl => ?_) (fun hl => absurd (eqF hl) (fun q => q rfl))
      refine blk X14 hby b305 (pc' := 371) (Ls' := #[i_ p1, i_ p2, i_ p3, i_ p4, i_ p5, i_ 0, i_ y1, i_ y2, i_ y3, i_ y4, r_ (h4.size), r_ (h9.size), r_ (h10.size), r_ (x'), i_ 0, i_ 0, i_ 0, i_ 0, i_ 0, i_ 0, i_ 0]) (st' := [(.int 0)]) rfl ?_
      refine br0 X14 hby d_code_371 (pc1 := 388) (by decide) (fun hl => ?_) (fun hl => absurd (leF hl) (by decide))
      refine blk X14 hby b306 (pc' := 391) (Ls' := #[i_ p1, i_ p2, i_ p3, i_ p4, i_ p5, i_ 0, i_ y1, i_ y2, i_ y3, i_ y4, r_ (h4.size), r_ (h9.size), r_ (h10.size), r_ (x'), i_ 0, i_ 0, i_ 0, i_ 0, i_ 0, i_ 0, i_ 0]) (st' := [(.int 1), (.int 0)]) rfl ?_
      refine brI X14 hby d_code_391 (pc1 := 410) (by decide) (fun hl => ?_) (fun hl => absurd (leF hl) (by decide))
      refine blk X14 hby b307 (pc' := 413) (Ls' := #[i_ p1, i_ p2, i_ p3, i_ p4, i_ p5, i_ 0, i_ y1, i_ y2, i_ y3, i_ y4, r_ (h4.size), r_ (h9.size), r_ (h10.size), r_ (x'), i_ 0, i_ 0, i_ 0, i_ 0, i_ 0, i_ 0, i_ 0]) (st' := [(.int 2), (.int 0)]) rfl ?_
      refine brI X14 hby d_code_413 (pc1 := 432) (by decide) (fun hl => ?_) (fun hl => absurd (leF hl) (by decide))
      refine blk X14 hby b308 (pc' := 435) (Ls' := #[i_ p1, i_ p2, i_ p3, i_ p4, i_ p5, i_ 0, i_ y1, i_ y2, i_ y3, i_ y4, r_ (h4.size), r_ (h9.size), r_ (h10.size), r_ (x'), i_ 0, i_ 0, i_ 0, i_ 0, i_ 0, i_ 0, i_ 0]) (st' := [(.int 3), (.int 0)]) rfl ?_
      refine brI X14 hby d_code_435 (pc1 := 454) (by decide) (fun hl => ?_) (fun hl => absurd (leF hl) (by decide))
      refine blk X14 hby b309 (pc' := 459) (Ls' := #[i_ p1, i_ p2, i_ p3, i_ p4, i_ p5, i_ 0, i_ y1, i_ y2, i_ y3, i_ y4, r_ (h4.size), r_ (h9.size), r_ (h10.size), r_ (x'), i_ 0, i_ 0, i_ 0, i_ 0, i_ 0, i_ 0, i_ 0]) (st' := [(.int 1)]) rfl ?_
      exact retI' X14 hby hret d_code_459 rfl (fun S' hS' => rfl)
  · rw [hq]
    show Go _ _ _ _ (T9.setTop (mkF m 58 #[i_ p1, i_ p2, i_ p3, i_ p4, i_ p5, i_ 1, i_ y1, i_ y2, i_ y3, i_ y4, r_ (h4.size), u_, u_, u_, u_, u_, u_, u_, u_, u_, u_] []))
    refine blk X9 hby b310 (pc' := 60) (Ls' := #[i_ p1, i_ p2, i_ p3, i_ p4, i_ p5, i_ 1, i_ y1, i_ y2, i_ y3, i_ y4, r_ (h4.size), u_, u_, u_, u_, u_, u_, u_, u_, u_, u_]) (st' := [(.int 1)]) rfl ?_
    refine br0 X9 hby d_code_60 (pc1 := 71) (by decide) (fun hn => ?_) (fun hn => absurd (neF hn) (by decide))
    refine blk X9 hby b311 (pc' := 74) (Ls' := #[i_ p1, i_ p2, i_ p3, i_ p4, i_ p5, i_ 1, i_ y1, i_ y2, i_ y3, i_ y4, r_ (h4.size), u_, u_, u_, u_, u_, u_, u_, u_, u_, u_]) (st' := [(.int 1), (.int 1)]) rfl ?_
    refine brI X9 hby d_code_74 (pc1 := 90) (by decide) (fun hn => absurd (neT hn) (fun q => q rfl)) (fun hn => ?_)
    refine blk X9 hby b312 (pc' := 78) (Ls' := #[i_ p1, i_ p2, i_ p3, i_ p4, i_ p5, i_ 1, i_ y1, i_ y2, i_ y3, i_ y4, r_ (h4.size), u_, u_, u_, u_, u_, u_, u_, u_, u_, u_]) (st' := [(.int 1)]) rfl ?_
    refine gNewA X9 hby (aty := .char) (hw _ (List.mem_of_getElem? (i := 8) rfl)) d_code_78 rfl (N := 1) (cap := 1) rfl (by decide) (by decide) (by decide) (by decide) (fun T10 h10 S10 X10 E10 V10 sS10 sn10 => ?_)
    have ga : Z.heap.size ≤ h9.size := X9.old.2.1
    have hV : Ari Z h10 h9.size .char (List.replicate 1 0) := V10
    have hsa : S10 h9.size := sn10
    have hVlt := hVc.lt
    replace hVc := hVc.ext E10
    have nca : h4.size ≠ h9.size := Nat.ne_of_lt hVlt
    refine blk X10 hby b313 (pc' := 84) (Ls' := #[i_ p1, i_ p2, i_ p3, i_ p4, i_ p5, i_ 1, i_ y1, i_ y2, i_ y3, i_ y4, r_ (h4.size), u_, u_, u_, u_, u_, u_, u_, u_, u_, u_]) (st' := [(.int y1), (.int 0), (.ref (h9.size)), (.ref (h9.size))]) rfl ?_
    refine gSt X10 hby hV (Or.inr (Or.inl ⟨rfl, rfl⟩)) d_code_84 (i := 0) rfl (Nat.le_of_ble_eq_true rfl) (fits_nar_char _) ga hsa (fun T11 h11 S11 X11 W11 V11 sS11 => ?_)
    rw [nar_char hr1] at V11
    replace hV := V11; replace hsa := sS11 _ hsa; replace hVc := hVc.other W11 nca
    replace hV : Ari Z h11 h9.size .char [y1] := hV
    refine blk X11 hby b314 (pc' := 168) (Ls' := #[i_ p1, i_ p2, i_ p3, i_ p4, i_ p5, i_ 1, i_ y1, i_ y2, i_ y3, i_ y4, r_ (h4.size), r_ (h9.size), u_, u_, u_, u_, u_, u_, u_, u_, u_]) (st' := []) rfl ?_
    refine gNew X11 hby (hw _ (List.mem_of_getElem? (i := 9) rfl)) (hw _ (List.mem_of_getElem? (i := 10) rfl)) (hw _ (List.mem_of_getElem? (i := 11) rfl)) d_code_168 (by decide) (by decide) (fun T12 h12 S12 X12 E12 A12 D12 M12 sS12 sn12 => ?_)
    refine blk X12 hby b315 (pc' := 174) (Ls' := #[i_ p1, i_ p2, i_ p3, i_ p4, i_ p5, i_ 1, i_ y1, i_ y2, i_ y3, i_ y4, r_ (h4.size), r_ (h9.size), u_, u_, u_, u_, u_, u_, u_, u_, u_]) (st' := [(.ref (h9.size)), (.ref (h11.size)), (.ref (h11.size))]) rfl ?_
    refine gInit X12 hby (argsL := [(.ref (h9.size))]) (st := [(.ref (h11.size))]) (ct_init1 hw hEL X12.old U A12 (D12 (O := "java/lang/String") (nm := "value") (d := "[B") (Or.inr (hw _ (List.mem_of_getElem? (i := 24) rfl))) (ty := .array .byte) (by decide)) (D12 (O := "java/lang/String") (nm := "coder") (d := "B") (Or.inr (hw _ (List.mem_of_getElem? (i := 25) rfl))) (ty := .byte) (by decide)) (hV.ext E12) X11.old.2.1 (Nat.le_of_ble_eq_true rfl)) rfl (hw _ (List.mem_of_getElem? (i := 12) rfl)) (hw _ (List.mem_of_getElem? (i := 13) rfl)) (hw _ (List.mem_of_getElem? (i := 11) rfl)) (hw _ (List.mem_of_getElem? (i := 14) rfl)) pd___C_V rfl d_code_174 rfl (by rw [hml]; rfl) (allS sn12 all0) (by decide) (Nat.le_of_ble_eq_true rfl) (by decide) (by decide) (fun v13 T13 h13 S13 X13 q13 sS13 sz13 => ?_)
    obtain ⟨rfl, u1, b, hx, -⟩ := q13
    have hVd : Ari Z h13 h4.size .char [y1, y2, y3, y4] := (hVc.ext E12).keep u1 (fun z => by rw [List.mem_singleton] at z; exact absurd hVc.lt (by rw [z]; exact Nat.lt_irrefl _))
    show Go _ _ _ _ (T13.setTop (mkF m 177 #[i_ p1, i_ p2, i_ p3, i_ p4, i_ p5, i_ 1, i_ y1, i_ y2, i_ y3, i_ y4, r_ (h4.size), r_ (h9.size), u_, u_, u_, u_, u_, u_, u_, u_, u_] [(.ref (h11.size))]))
    refine blk X13 hby b316 (pc' := 181) (Ls' := #[i_ p1, i_ p2, i_ p3, i_ p4, i_ p5, i_ 1, i_ y1, i_ y2, i_ y3, i_ y4, r_ (h4.size), r_ (h9.size), r_ (h11.size), u_, u_, u_, u_, u_, u_, u_, u_]) (st' := [(.ref (h11.size))]) rfl ?_
    refine gStatic X13 hby (argsL := [(.ref (h11.size))]) (st := []) (ct_ent hw hEL X13.old U hFM hfm hx (Nat.le_of_ble_eq_true rfl)) (hw _ (List.mem_of_getElem? (i := 30) rfl)) (hw _ (List.mem_of_getElem? (i := 31) rfl)) (hw _ (List.mem_of_getElem? (i := 32) rfl)) (hw _ (List.mem_of_getElem? (i := 33) rfl)) pd__Ljava_lang_String__Ljava_lang_String_ rfl d_code_181 rfl (by rw [hml]; rfl) all0 (by decide) (Nat.le_of_ble_eq_true rfl) (by decide) (by decide) (fun v14 T14 h14 S14 X14 q14 sS14 sz14 => ?_)
    obtain ⟨i, k, x', b', rfl, g1, g2, g3, g4, g5, g6, g7, hx', K'⟩ := q14
    replace hVd := hVd.keep K' nin0
    show Go _ _ _ _ (T14.setTop (mkF m 184 #[i_ p1, i_ p2, i_ p3, i_ p4, i_ p5, i_ 1, i_ y1, i_ y2, i_ y3, i_ y4, r_ (h4.size), r_ (h9.size), r_ (h11.size), u_, u_, u_, u_, u_, u_, u_, u_] [(.ref (x'))]))
    replace g2 : k ≤ 1 := g2; replace g3 : i < 1 → i < k := g3; replace g5 : i < 1 → wsB ([y1].getD i 0) = false := g5; replace g6 : ∀ j, k ≤ j → j < 1 → wsB ([y1].getD j 0) = true := g6
    refine blk X14 hby b317 (pc' := 189) (Ls' := #[i_ p1, i_ p2, i_ p3, i_ p4, i_ p5, i_ 1, i_ y1, i_ y2, i_ y3, i_ y4, r_ (h4.size), r_ (h9.size), r_ (h11.size), r_ (x'), u_, u_, u_, u_, u_, u_, u_]) (st' := [(.int 1), (.int 0)]) rfl ?_
    refine brI X14 hby d_code_189 (pc1 := 204) (by decide) (fun hj0 => absurd (geT hj0) (fun q => q (by decide))) (fun hj0 => ?_)
    refine blk X14 hby b318 (pc' := 194) (Ls' := #[i_ p1, i_ p2, i_ p3, i_ p4, i_ p5, i_ 1, i_ y1, i_ y2, i_ y3, i_ y4, r_ (h4.size), r_ (h9.size), r_ (h11.size), r_ (x'), u_, u_, u_, u_, u_, u_, u_]) (st' := [(.int y1)]) rfl ?_
    refine gStatic X14 hby (argsL := [(.int y1)]) (st := []) (ct_isws hw hEL X14.old) (hw _ (List.mem_of_getElem? (i := 118) rfl)) (hw _ (List.mem_of_getElem? (i := 119) rfl)) (hw _ (List.mem_of_getElem? (i := 3) rfl)) (hw _ (List.mem_of_getElem? (i := 120) rfl)) pd__C_Z rfl d_code_194 rfl (by rw [hml]; rfl) all0 (by decide) (Nat.le_of_ble_eq_true rfl) (by decide) (by decide) (fun v15 T15 h15 S15 X15 q15 sS15 sz15 => ?_)
    obtain ⟨rfl, rfl⟩ := q15
    show Go _ _ _ _ (T15.setTop (mkF m 197 #[i_ p1, i_ p2, i_ p3, i_ p4, i_ p5, i_ 1, i_ y1, i_ y2, i_ y3, i_ y4, r_ (h4.size), r_ (h9.size), r_ (h11.size), r_ (x'), u_, u_, u_, u_, u_, u_, u_] [(.int (if wsB y1 = true then 1 else 0))]))
    have nx0 : ∀ v0' : Int32, v0' = (if wsB y1 = true then 0 else 1) → Go p e below (Pst true Z EL room_1.cells room_1.slots (QL) s) (T15.setTop (mkF m 205 #[i_ p1, i_ p2, i_ p3, i_ p4, i_ p5, i_ 1, i_ y1, i_ y2, i_ y3, i_ y4, r_ (h4.size), r_ (h9.size), r_ (h11.size), r_ (x'), u_, u_, u_, u_, u_, u_, u_] [.int v0'])) := by
      intro v0' hv0
      refine blk X15 hby b319 (pc' := 207) (Ls' := #[i_ p1, i_ p2, i_ p3, i_ p4, i_ p5, i_ 1, i_ y1, i_ y2, i_ y3, i_ y4, r_ (h4.size), r_ (h9.size), r_ (h11.size), r_ (x'), i_ (v0'), u_, u_, u_, u_, u_, u_]) (st' := []) rfl ?_
      refine blk X15 hby b320 (pc' := 210) (Ls' := #[i_ p1, i_ p2, i_ p3, i_ p4, i_ p5, i_ 1, i_ y1, i_ y2, i_ y3, i_ y4, r_ (h4.size), r_ (h9.size), r_ (h11.size), r_ (x'), i_ (v0'), u_, u_, u_, u_, u_, u_]) (st' := [(.int 1), (.int 1)]) rfl ?_
      refine brI X15 hby d_code_210 (pc1 := 225) (by decide) (fun hj1 => ?_) (fun hj1 => absurd (geF hj1) (by decide))
      refine blk X15 hby b321 (pc' := 228) (Ls' := #[i_ p1, i_ p2, i_ p3, i_ p4, i_ p5, i_ 1, i_ y1, i_ y2, i_ y3, i_ y4, r_ (h4.size), r_ (h9.size), r_ (h11.size), r_ (x'), i_ (v0'), i_ 0, u_, u_, u_, u_, u_]) (st' := []) rfl ?_
      refine blk X15 hby b322 (pc' := 231) (Ls' := #[i_ p1, i_ p2, i_ p3, i_ p4, i_ p5, i_ 1, i_ y1, i_ y2, i_ y3, i_ y4, r_ (h4.size), r_ (h9.size), r_ (h11.size), r_ (x'), i_ (v0'), i_ 0, u_, u_, u_, u_, u_]) (st' := [(.int 1), (.int 2)]) rfl ?_
      refine brI X15 hby d_code_231 (pc1 := 246) (by decide) (fun hj2 => ?_) (fun hj2 => absurd (geF hj2) (by decide))
      refine blk X15 hby b323 (pc' := 249) (Ls' := #[i_ p1, i_ p2, i_ p3, i_ p4, i_ p5, i_ 1, i_ y1, i_ y2, i_ y3, i_ y4, r_ (h4.size), r_ (h9.size), r_ (h11.size), r_ (x'), i_ (v0'), i_ 0, i_ 0, u_, u_, u_, u_]) (st' := []) rfl ?_
      refine blk X15 hby b324 (pc' := 252) (Ls' := #[i_ p1, i_ p2, i_ p3, i_ p4, i_ p5, i_ 1, i_ y1, i_ y2, i_ y3, i_ y4, r_ (h4.size), r_ (h9.size), r_ (h11.size), r_ (x'), i_ (v0'), i_ 0, i_ 0, u_, u_, u_, u_]) (st' := [(.int 1), (.int 3)]) rfl ?_
      refine brI X15 hby d_code_252 (pc1 := 267) (by decide) (fun hj3 => ?_) (fun hj3 => absurd (geF hj3) (by decide))
      refine blk X15 hby b325 (pc' := 270) (Ls' := #[i_ p1, i_ p2, i_ p3, i_ p4, i_ p5, i_ 1, i_ y1, i_ y2, i_ y3, i_ y4, r_ (h4.size), r_ (h9.size), r_ (h11.size), r_ (x'), i_ (v0'), i_ 0, i_ 0, i_ 0, u_, u_, u_]) (st' := []) rfl ?_
      have hik : (i = 0 ∧ k = 1) ∨ (i = 1 ∧ k = 1) := by omega
      rcases hik with ⟨rfl, rfl⟩ | ⟨rfl, rfl⟩
      · skip
        have wj0 : wsB y1 = false := g5 (by decide)
        rw [wj0] at hv0
        replace hv0 : v0' = (1 : Int32) := hv0
        subst hv0
        show Go _ _ _ _ (T15.setTop (mkF m 270 #[i_ p1, i_ p2, i_ p3, i_ p4, i_ p5, i_ 1, i_ y1, i_ y2, i_ y3, i_ y4, r_ (h4.size), r_ (h9.size), r_ (h11.size), r_ (x'), i_ 1, i_ 0, i_ 0, i_ 0, u_, u_, u_] []))
        refine blk X15 hby b326 (pc' := 272) (Ls' := #[i_ p1, i_ p2, i_ p3, i_ p4, i_ p5, i_ 1, i_ y1, i_ y2, i_ y3, i_ y4, r_ (h4.size), r_ (h9.size), r_ (h11.size), r_ (x'), i_ 1, i_ 0, i_ 0, i_ 0, u_, u_, u_]) (st' := [(.int 1)]) rfl ?_
        refine br0 X15 hby d_code_272 (pc1 := 279) (by decide) (fun hl => absurd (eqT hl) (by decide)) (fun hl => ?_)
        refine blk X15 hby b327 (pc' := 310) (Ls' := #[i_ p1, i_ p2, i_ p3, i_ p4, i_ p5, i_ 1, i_ y1, i_ y2, i_ y3, i_ y4, r_ (h4.size), r_ (h9.size), r_ (h11.size), r_ (x'), i_ 1, i_ 0, i_ 0, i_ 0, i_ 0, u_, u_]) (st' := []) rfl ?_
        refine blk X15 hby b328 (pc' := 312) (Ls' := #[i_ p1, i_ p2, i_ p3, i_ p4, i_ p5, i_ 1, i_ y1, i_ y2, i_ y3, i_ y4, r_ (h4.size), r_ (h9.size), r_ (h11.size), r_ (x'), i_ 1, i_ 0, i_ 0, i_ 0, i_ 0, u_, u_]) (st' := [(.int 0)]) rfl ?_
        refine br0 X15 hby d_code_312 (pc1 := 319) (by decide) (fun hl => ?_) (fun hl => absurd (eqF hl) (fun q => q rfl))
        refine blk X15 hby b329 (pc' := 321) (Ls' := #[i_ p1, i_ p2, i_ p3, i_ p4, i_ p5, i_ 1, i_ y1, i_ y2, i_ y3, i_ y4, r_ (h4.size), r_ (h9.size), r_ (h11.size), r_ (x'), i_ 1, i_ 0, i_ 0, i_ 0, i_ 0, u_, u_]) (st' := [(.int 0)]) rfl ?_
        refine br0 X15 hby d_code_321 (pc1 := 328) (by decide) (fun hl => ?_) (fun hl => absurd (eqF hl) (fun q => q rfl))
        refine blk X15 hby b330 (pc' := 330) (Ls' := #[i_ p1, i_ p2, i_ p3, i_ p4, i_ p5, i_ 1, i_ y1, i_ y2, i_ y3, i_ y4, r_ (h4.size), r_ (h9.size), r_ (h11.size), r_ (x'), i_ 1, i_ 0, i_ 0, i_ 0, i_ 0, u_, u_]) (st' := [(.int 0)]) rfl ?_
        refine br0 X15 hby d_code_330 (pc1 := 337) (by decide) (fun hl => ?_) (fun hl => absurd (eqF hl) (fun q => q rfl))
        refine blk X15 hby b331 (pc' := 339) (Ls' := #[i_ p1, i_ p2, i_ p3, i_ p4, i_ p5, i_ 1, i_ y1, i_ y2, i_ y3, i_ y4, r_ (h4.size), r_ (h9.size), r_ (h11.size), r_ (x'), i_ 1, i_ 0, i_ 0, i_ 0, i_ 0, u_, u_]) (st' := [(.int 1)]) rfl ?_
        refine br0 X15 hby d_code_339 (pc1 := 346) (by decide) (fun hl => absurd (eqT hl) (by decide)) (fun hl => ?_)
        refine blk X15 hby b332 (pc' := 359) (Ls' := #[i_ p1, i_ p2, i_ p3, i_ p4, i_ p5, i_ 1, i_ y1, i_ y2, i_ y3, i_ y4, r_ (h4.size), r_ (h9.size), r_ (h11.size), r_ (x'), i_ 1, i_ 0, i_ 0, i_ 0, i_ 0, i_ 1, i_ ((1 : Int32) - (0 : Int32))]) (st' := [(.ref (x'))]) rfl ?_
        show Go _ _ _ _ (T15.setTop (mkF m 359 #[i_ p1, i_ p2, i_ p3, i_ p4, i_ p5, i_ 1, i_ y1, i_ y2, i_ y3, i_ y4, r_ (h4.size), r_ (h9.size), r_ (h11.size), r_ (x'), i_ 1, i_ 0, i_ 0, i_ 0, i_ 0, i_ 1, i_ 1] [(.ref (x'))]))
        refine gVirt X15 hby (argsL := []) (st := []) (ct_len hw hEL X15.old U hx') hx'.1 (hw _ (List.mem_of_getElem? (i := 59) rfl)) (hw _ (List.mem_of_getElem? (i := 35) rfl)) (hw _ (List.mem_of_getElem? (i := 37) rfl)) (hw _ (List.mem_of_getElem? (i := 36) rfl)) (hw _ (List.mem_of_getElem? (i := 11) rfl)) (hw _ (List.mem_of_getElem? (i := 38) rfl)) pd___I rfl d_code_359 rfl (by rw [hml]; rfl) all0 (by decide) (Nat.le_of_ble_eq_true rfl) (by decide) (by decide) (fun v16 T16 h16 S16 X16 q16 sS16 sz16 => ?_)
        obtain ⟨rfl, rfl⟩ := q16
        show Go _ _ _ _ (T16.setTop (mkF m 362 #[i_ p1, i_ p2, i_ p3, i_ p4, i_ p5, i_ 1, i_ y1, i_ y2, i_ y3, i_ y4, r_ (h4.size), r_ (h9.size), r_ (h11.size), r_ (x'), i_ 1, i_ 0, i_ 0, i_ 0, i_ 0, i_ 1, i_ 1] [(.int (Int32.ofNat (([y1].drop 0).take (1 - 0)).length))]))
        show Go _ _ _ _ (T16.setTop (mkF m 362 #[i_ p1, i_ p2, i_ p3, i_ p4, i_ p5, i_ 1, i_ y1, i_ y2, i_ y3, i_ y4, r_ (h4.size), r_ (h9.size), r_ (h11.size), r_ (x'), i_ 1, i_ 0, i_ 0, i_ 0, i_ 0, i_ 1, i_ 1] [(.int 1)]))
        refine blk X16 hby b333 (pc' := 364) (Ls' := #[i_ p1, i_ p2, i_ p3, i_ p4, i_ p5, i_ 1, i_ y1, i_ y2, i_ y3, i_ y4, r_ (h4.size), r_ (h9.size), r_ (h11.size), r_ (x'), i_ 1, i_ 0, i_ 0, i_ 0, i_ 0, i_ 1, i_ 1]) (st' := [(.int 1), (.int 1)]) rfl ?_
        refine brI X16 hby d_code_364 (pc1 := 369) (by decide) (fun hl => ?_) (fun hl => absurd (eqF hl) (fun q => q rfl))
        refine blk X16 hby b334 (pc' := 371) (Ls' := #[i_ p1, i_ p2, i_ p3, i_ p4, i_ p5, i_ 1, i_ y1, i_ y2, i_ y3, i_ y4, r_ (h4.size), r_ (h9.size), r_ (h11.size), r_ (x'), i_ 1, i_ 0, i_ 0, i_ 0, i_ 0, i_ 1, i_ 1]) (st' := [(.int 1)]) rfl ?_
        refine br0 X16 hby d_code_371 (pc1 := 388) (by decide) (fun hl => absurd (leT hl) (fun q => q (by decide))) (fun hl => ?_)
        refine blk X16 hby b335 (pc' := 377) (Ls' := #[i_ p1, i_ p2, i_ p3, i_ p4, i_ p5, i_ 1, i_ y1, i_ y2, i_ y3, i_ y4, r_ (h4.size), r_ (h9.size), r_ (h11.size), r_ (x'), i_ 1, i_ 0, i_ 0, i_ 0, i_ 0, i_ 1, i_ 1]) (st' := [(.int 0), (.ref (x'))]) rfl ?_
        refine gVirt X16 hby (argsL := [(.int 0)]) (st := []) (ct_chr hw hEL X16.old U hFM hfm hx' (i := 0) (Nat.le_of_ble_eq_true rfl)) hx'.1 (hw _ (List.mem_of_getElem? (i := 121) rfl)) (hw _ (List.mem_of_getElem? (i := 71) rfl)) (hw _ (List.mem_of_getElem? (i := 73) rfl)) (hw _ (List.mem_of_getElem? (i := 72) rfl)) (hw _ (List.mem_of_getElem? (i := 11) rfl)) (hw _ (List.mem_of_getElem? (i := 74) rfl)) pd__I_C rfl d_code_377 rfl (by rw [hml]; rfl) all0 (by decide) (Nat.le_of_ble_eq_true rfl) (by decide) (by decide) (fun v17 T17 h17 S17 X17 q17 sS17 sz17 => ?_)
        obtain ⟨rfl, rfl⟩ := q17
        show Go _ _ _ _ (T17.setTop (mkF m 380 #[i_ p1, i_ p2, i_ p3, i_ p4, i_ p5, i_ 1, i_ y1, i_ y2, i_ y3, i_ y4, r_ (h4.size), r_ (h9.size), r_ (h11.size), r_ (x'), i_ 1, i_ 0, i_ 0, i_ 0, i_ 0, i_ 1, i_ 1] [(.int ((([y1].drop 0).take (1 - 0)).getD 0 0))]))
        show Go _ _ _ _ (T17.setTop (mkF m 380 #[i_ p1, i_ p2, i_ p3, i_ p4, i_ p5, i_ 1, i_ y1, i_ y2, i_ y3, i_ y4, r_ (h4.size), r_ (h9.size), r_ (h11.size), r_ (x'), i_ 1, i_ 0, i_ 0, i_ 0, i_ 0, i_ 1, i_ 1] [(.int y1)]))
        refine blk X17 hby b336 (pc' := 384) (Ls' := #[i_ p1, i_ p2, i_ p3, i_ p4, i_ p5, i_ 1, i_ y1, i_ y2, i_ y3, i_ y4, r_ (h4.size), r_ (h9.size), r_ (h11.size), r_ (x'), i_ 1, i_ 0, i_ 0, i_ 0, i_ 0, i_ 1, i_ 1]) (st' := [(.int 0), (.ref (h4.size)), (.int y1)]) rfl ?_
        refine gLd X17 hby hVd (Or.inr (Or.inl ⟨rfl, rfl⟩)) d_code_384 (i := 0) rfl (Nat.le_of_ble_eq_true rfl) ?_
        refine brI X17 hby d_code_385 (pc1 := 458) (by decide) (fun hl => absurd (neT hl) (fun q => q rfl)) (fun hl => ?_)
        refine blk X17 hby b337 (pc' := 391) (Ls' := #[i_ p1, i_ p2, i_ p3, i_ p4, i_ p5, i_ 1, i_ y1, i_ y2, i_ y3, i_ y4, r_ (h4.size), r_ (h9.size), r_ (h11.size), r_ (x'), i_ 1, i_ 0, i_ 0, i_ 0, i_ 0, i_ 1, i_ 1]) (st' := [(.int 1), (.int 1)]) rfl ?_
        refine brI X17 hby d_code_391 (pc1 := 410) (by decide) (fun hl => ?_) (fun hl => absurd (leF hl) (by decide))
        refine blk X17 hby b338 (pc' := 413) (Ls' := #[i_ p1, i_ p2, i_ p3, i_ p4, i_ p5, i_ 1, i_ y1, i_ y2, i_ y3, i_ y4, r_ (h4.size), r_ (h9.size), r_ (h11.size), r_ (x'), i_ 1, i_ 0, i_ 0, i_ 0, i_ 0, i_ 1, i_ 1]) (st' := [(.int 2), (.int 1)]) rfl ?_
        refine brI X17 hby d_code_413 (pc1 := 432) (by decide) (fun hl => ?_) (fun hl => absurd (leF hl) (by decide))
        refine blk X17 hby b339 (pc' := 435) (Ls' := #[i_ p1, i_ p2, i_ p3, i_ p4, i_ p5, i_ 1, i_ y1, i_ y2, i_ y3, i_ y4, r_ (h4.size), r_ (h9.size), r_ (h11.size), r_ (x'), i_ 1, i_ 0, i_ 0, i_ 0, i_ 0, i_ 1, i_ 1]) (st' := [(.int 3), (.int 1)]) rfl ?_
        refine brI X17 hby d_code_435 (pc1 := 454) (by decide) (fun hl => ?_) (fun hl => absurd (leF hl) (by decide))
        refine blk X17 hby b340 (pc' := 459) (Ls' := #[i_ p1, i_ p2, i_ p3, i_ p4, i_ p5, i_ 1, i_ y1, i_ y2, i_ y3, i_ y4, r_ (h4.size), r_ (h9.size), r_ (h11.size), r_ (x'), i_ 1, i_ 0, i_ 0, i_ 0, i_ 0, i_ 1, i_ 1]) (st' := [(.int 1)]) rfl ?_
        exact retI' X17 hby hret d_code_459 rfl (fun S' hS' => rfl)
      · skip
        have wj0 : wsB y1 = true := g4 0 (by decide)
        rw [wj0] at hv0
        replace hv0 : v0' = (0 : Int32) := hv0
        subst hv0
        show Go _ _ _ _ (T15.setTop (mkF m 270 #[i_ p1, i_ p2, i_ p3, i_ p4, i_ p5, i_ 1, i_ y1, i_ y2, i_ y3, i_ y4, r_ (h4.size), r_ (h9.size), r_ (h11.size), r_ (x'), i_ 0, i_ 0, i_ 0, i_ 0, u_, u_, u_] []))
        refine blk X15 hby b341 (pc' := 272) (Ls' := #[i_ p1, i_ p2, i_ p3, i_ p4, i_ p5, i_ 1, i_ y1, i_ y2, i_ y3, i_ y4, r_ (h4.size), r_ (h9.size), r_ (h11.size), r_ (x'), i_ 0, i_ 0, i_ 0, i_ 0, u_, u_, u_]) (st' := [(.int 0)]) rfl ?_
        refine br0 X15 hby d_code_272 (pc1 := 279) (by decide) (fun hl => ?_) (fun hl => absurd (eqF hl) (fun q => q rfl))
        refine blk X15 hby b342 (pc' := 281) (Ls' := #[i_ p1, i_ p2, i_ p3, i_ p4, i_ p5, i_ 1, i_ y1, i_ y2, i_ y3, i_ y4, r_ (h4.size), r_ (h9.size), r_ (h11.size), r_ (x'), i_ 0, i_ 0, i_ 0, i_ 0, u_, u_, u_]) (st' := [(.int 0)]) rfl ?_
        refine br0 X15 hby d_code_281 (pc1 := 288) (by decide) (fun hl => ?_) (fun hl => absurd (eqF hl) (fun q => q rfl))
        refine blk X15 hby b343 (pc' := 290) (Ls' := #[i_ p1, i_ p2, i_ p3, i_ p4, i_ p5, i_ 1, i_ y1, i_ y2, i_ y3, i_ y4, r_ (h4.size), r_ (h9.size), r_ (h11.size), r_ (x'), i_ 0, i_ 0, i_ 0, i_ 0, u_, u_, u_]) (st' := [(.int 0)]) rfl ?_
        refine br0 X15 hby d_code_290 (pc1 := 297) (by decide) (fun hl => ?_) (fun hl => absurd (eqF hl) (fun q => q rfl))
        refine blk X15 hby b344 (pc' := 299) (Ls' := #[i_ p1, i_ p2, i_ p3, i_ p4, i_ p5, i_ 1, i_ y1, i_ y2, i_ y3, i_ y4, r_ (h4.size), r_ (h9.size), r_ (h11.size), r_ (x'), i_ 0, i_ 0, i_ 0, i_ 0, u_, u_, u_]) (st' := [(.int 0)]) rfl ?_
        refine br0 X15 hby d_code_299 (pc1 := 306) (by decide) (fun hl => ?_) (fun hl => absurd (eqF hl) (fun q => q rfl))
        refine blk X15 hby b345 (pc' := 312) (Ls' := #[i_ p1, i_ p2, i_ p3, i_ p4, i_ p5, i_ 1, i_ y1, i_ y2, i_ y3, i_ y4, r_ (h4.size), r_ (h9.size), r_ (h11.size), r_ (x'), i_ 0, i_ 0, i_ 0, i_ 0, i_ 1, u_, u_]) (st' := [(.int 0)]) rfl ?_
        refine br0 X15 hby d_code_312 (pc1 := 319) (by decide) (fun hl => ?_) (fun hl => absurd (eqF hl) (fun q => q rfl))
        refine blk X15 hby b346 (pc' := 321) (Ls' := #[i_ p1, i_ p2, i_ p3, i_ p4, i_ p5, i_ 1, i_ y1, i_ y2, i_ y3, i_ y4, r_ (h4.size), r_ (h9.size), r_ (h11.size), r_ (x'), i_ 0, i_ 0, i_ 0, i_ 0, i_ 1, u_, u_]) (st' := [(.int 0)]) rfl ?_
        refine br0 X15 hby d_code_321 (pc1 := 328) (by decide) (fun hl => ?_) (fun hl => absurd (eqF hl) (fun q => q rfl))
        refine blk X15 hby b347 (pc' := 330) (Ls' := #[i_ p1, i_ p2, i_ p3, i_ p4, i_ p5, i_ 1, i_ y1, i_ y2, i_ y3, i_ y4, r_ (h4.size), r_ (h9.size), r_ (h11.size), r_ (x'), i_ 0, i_ 0, i_ 0, i_ 0, i_ 1, u_, u_]) (st' := [(.int 0)]) rfl ?_
        refine br0 X15 hby d_code_330 (pc1 := 337) (by decide) (fun hl => ?_) (fun hl => absurd (eqF hl) (fun q => q rfl))
        refine blk X15 hby b348 (pc' := 339) (Ls' := #[i_ p1, i_ p2, i_ p3, i_ p4, i_ p5, i_ 1, i_ y1, i_ y2, i_ y3, i_ y4, r_ (h4.size), r_ (h9.size), r_ (h11.size), r_ (x'), i_ 0, i_ 0, i_ 0, i_ 0, i_ 1, u_, u_]) (st' := [(.int 0)]) rfl ?_
        refine br0 X15 hby d_code_339 (pc1 := 346) (by decide) (fun hl => ?_) (fun hl => absurd (eqF hl) (fun q => q rfl))
        refine blk X15 hby b349 (pc' := 359) (Ls' := #[i_ p1, i_ p2, i_ p3, i_ p4, i_ p5, i_ 1, i_ y1, i_ y2, i_ y3, i_ y4, r_ (h4.size), r_ (h9.size), r_ (h11.size), r_ (x'), i_ 0, i_ 0, i_ 0, i_ 0, i_ 1, i_ 1, i_ ((1 : Int32) - (1 : Int32))]) (st' := [(.ref (x'))]) rfl ?_
        show Go _ _ _ _ (T15.setTop (mkF m 359 #[i_ p1, i_ p2, i_ p3, i_ p4, i_ p5, i_ 1, i_ y1, i_ y2, i_ y3, i_ y4, r_ (h4.size), r_ (h9.size), r_ (h11.size), r_ (x'), i_ 0, i_ 0, i_ 0, i_ 0, i_ 1, i_ 1, i_ 0] [(.ref (x'))]))
        refine gVirt X15 hby (argsL := []) (st := []) (ct_len hw hEL X15.old U hx') hx'.1 (hw _ (List.mem_of_getElem? (i := 59) rfl)) (hw _ (List.mem_of_getElem? (i := 35) rfl)) (hw _ (List.mem_of_getElem? (i := 37) rfl)) (hw _ (List.mem_of_getElem? (i := 36) rfl)) (hw _ (List.mem_of_getElem? (i := 11) rfl)) (hw _ (List.mem_of_getElem? (i := 38) rfl)) pd___I rfl d_code_359 rfl (by rw [hml]; rfl) all0 (by decide) (Nat.le_of_ble_eq_true rfl) (by decide) (by decide) (fun v16 T16 h16 S16 X16 q16 sS16 sz16 => ?_)
        obtain ⟨rfl, rfl⟩ := q16
        show Go _ _ _ _ (T16.setTop (mkF m 362 #[i_ p1, i_ p2, i_ p3, i_ p4, i_ p5, i_ 1, i_ y1, i_ y2, i_ y3, i_ y4, r_ (h4.size), r_ (h9.size), r_ (h11.size), r_ (x'), i_ 0, i_ 0, i_ 0, i_ 0, i_ 1, i_ 1, i_ 0] [(.int (Int32.ofNat (([y1].drop 1).take (1 - 1)).length))]))
        show Go _ _ _ _ (T16.setTop (mkF m 362 #[i_ p1, i_ p2, i_ p3, i_ p4, i_ p5, i_ 1, i_ y1, i_ y2, i_ y3, i_ y4, r_ (h4.size), r_ (h9.size), r_ (h11.size), r_ (x'), i_ 0, i_ 0, i_ 0, i_ 0, i_ 1, i_ 1, i_ 0] [(.int 0)]))
        refine blk X16 hby b350 (pc' := 364) (Ls' := #[i_ p1, i_ p2, i_ p3, i_ p4, i_ p5, i_ 1, i_ y1, i_ y2, i_ y3, i_ y4, r_ (h4.size), r_ (h9.size), r_ (h11.size), r_ (x'), i_ 0, i_ 0, i_ 0, i_ 0, i_ 1, i_ 1, i_ 0]) (st' := [(.int 0), (.int 0)]) rfl ?_
        refine brI X16 hby d_code_364 (pc1 := 369) (by decide) (fun hl => ?_) (fun hl => absurd (eqF hl) (fun q => q rfl))
        refine blk X16 hby b351 (pc' := 371) (Ls' := #[i_ p1, i_ p2, i_ p3, i_ p4, i_ p5, i_ 1, i_ y1, i_ y2, i_ y3, i_ y4, r_ (h4.size), r_ (h9.size), r_ (h11.size), r_ (x'), i_ 0, i_ 0, i_ 0, i_ 0, i_ 1, i_ 1, i_ 0]) (st' := [(.int 0)]) rfl ?_
        refine br0 X16 hby d_code_371 (pc1 := 388) (by decide) (fun hl => ?_) (fun hl => absurd (leF hl) (by decide))
        refine blk X16 hby b352 (pc' := 391) (Ls' := #[i_ p1, i_ p2, i_ p3, i_ p4, i_ p5, i_ 1, i_ y1, i_ y2, i_ y3, i_ y4, r_ (h4.size), r_ (h9.size), r_ (h11.size), r_ (x'), i_ 0, i_ 0, i_ 0, i_ 0, i_ 1, i_ 1, i_ 0]) (st' := [(.int 1), (.int 0)]) rfl ?_
        refine brI X16 hby d_code_391 (pc1 := 410) (by decide) (fun hl => ?_) (fun hl => absurd (leF hl) (by decide))
        refine blk X16 hby b353 (pc' := 413) (Ls' := #[i_ p1, i_ p2, i_ p3, i_ p4, i_ p5, i_ 1, i_ y1, i_ y2, i_ y3, i_ y4, r_ (h4.size), r_ (h9.size), r_ (h11.size), r_ (x'), i_ 0, i_ 0, i_ 0, i_ 0, i_ 1, i_ 1, i_ 0]) (st' := [(.int 2), (.int 0)]) rfl ?_
        refine brI X16 hby d_code_413 (pc1 := 432) (by decide) (fun hl => ?_) (fun hl => absurd (leF hl) (by decide))
        refine blk X16 hby b354 (pc' := 435) (Ls' := #[i_ p1, i_ p2, i_ p3, i_ p4, i_ p5, i_ 1, i_ y1, i_ y2, i_ y3, i_ y4, r_ (h4.size), r_ (h9.size), r_ (h11.size), r_ (x'), i_ 0, i_ 0, i_ 0, i_ 0, i_ 1, i_ 1, i_ 0]) (st' := [(.int 3), (.int 0)]) rfl ?_
        refine brI X16 hby d_code_435 (pc1 := 454) (by decide) (fun hl => ?_) (fun hl => absurd (leF hl) (by decide))
        refine blk X16 hby b355 (pc' := 459) (Ls' := #[i_ p1, i_ p2, i_ p3, i_ p4, i_ p5, i_ 1, i_ y1, i_ y2, i_ y3, i_ y4, r_ (h4.size), r_ (h9.size), r_ (h11.size), r_ (x'), i_ 0, i_ 0, i_ 0, i_ 0, i_ 1, i_ 1, i_ 0]) (st' := [(.int 1)]) rfl ?_
        exact retI' X16 hby hret d_code_459 rfl (fun S' hS' => rfl)
    skip
    refine br0 X15 hby d_code_197 (pc1 := 204) (by decide) (fun hw0 => ?_) (fun hw0 => ?_)
    · replace hw0 := neT hw0
      refine blk X15 hby b356 (pc' := 205) (Ls' := #[i_ p1, i_ p2, i_ p3, i_ p4, i_ p5, i_ 1, i_ y1, i_ y2, i_ y3, i_ y4, r_ (h4.size), r_ (h9.size), r_ (h11.size), r_ (x'), u_, u_, u_, u_, u_, u_, u_]) (st' := [(.int 0)]) rfl ?_
      exact nx0 _ (by rw [if_pos (by simpa using fun q => hw0 (ite10.mpr q))])
    · replace hw0 := neF hw0
      refine blk X15 hby b357 (pc' := 205) (Ls' := #[i_ p1, i_ p2, i_ p3, i_ p4, i_ p5, i_ 1, i_ y1, i_ y2, i_ y3, i_ y4, r_ (h4.size), r_ (h9.size), r_ (h11.size), r_ (x'), u_, u_, u_, u_, u_, u_, u_]) (st' := [(.int 1)]) rfl ?_
      exact nx0 _ (by rw [ite10.mp hw0]; rfl)
  · rw [hq]
    show Go _ _ _ _ (T9.setTop (mkF m 58 #[i_ p1, i_ p2, i_ p3, i_ p4, i_ p5, i_ 2, i_ y1, i_ y2, i_ y3, i_ y4, r_ (h4.size), u_, u_, u_, u_, u_, u_, u_, u_, u_, u_] []))
    refine blk X9 hby b358 (pc' := 60) (Ls' := #[i_ p1, i_ p2, i_ p3, i_ p4, i_ p5, i_ 2, i_ y1, i_ y2, i_ y3, i_ y4, r_ (h4.size), u_, u_, u_, u_, u_, u_, u_, u_, u_, u_]) (st' := [(.int 2)]) rfl ?_
    refine br0 X9 hby d_code_60 (pc1 := 71) (by decide) (fun hn => ?_) (fun hn => absurd (neF hn) (by decide))
    refine blk X9 hby b359 (pc' := 74) (Ls' := #[i_ p1, i_ p2, i_ p3, i_ p4, i_ p5, i_ 2, i_ y1, i_ y2, i_ y3, i_ y4, r_ (h4.size), u_, u_, u_, u_, u_, u_, u_, u_, u_, u_]) (st' := [(.int 1), (.int 2)]) rfl ?_
    refine brI X9 hby d_code_74 (pc1 := 90) (by decide) (fun hn => ?_) (fun hn => absurd (neF hn) (by decide))
    refine blk X9 hby b360 (pc' := 93) (Ls' := #[i_ p1, i_ p2, i_ p3, i_ p4, i_ p5, i_ 2, i_ y1, i_ y2, i_ y3, i_ y4, r_ (h4.size), u_, u_, u_, u_, u_, u_, u_, u_, u_, u_]) (st' := [(.int 2), (.int 2)]) rfl ?_
    refine brI X9 hby d_code_93 (pc1 := 114) (by decide) (fun hn => absurd (neT hn) (fun q => q rfl)) (fun hn => ?_)
    refine blk X9 hby b361 (pc' := 97) (Ls' := #[i_ p1, i_ p2, i_ p3, i_ p4, i_ p5, i_ 2, i_ y1, i_ y2, i_ y3, i_ y4, r_ (h4.size), u_, u_, u_, u_, u_, u_, u_, u_, u_, u_]) (st' := [(.int 2)]) rfl ?_
    refine gNewA X9 hby (aty := .char) (hw _ (List.mem_of_getElem? (i := 8) rfl)) d_code_97 rfl (N := 2) (cap := 2) rfl (by decide) (by decide) (by decide) (by decide) (fun T10 h10 S10 X10 E10 V10 sS10 sn10 => ?_)
    have ga : Z.heap.size ≤ h9.size := X9.old.2.1
    have hV : Ari Z h10 h9.size .char (List.replicate 2 0) := V10
    have hsa : S10 h9.size := sn10
    have hVlt := hVc.lt
    replace hVc := hVc.ext E10
    have nca : h4.size ≠ h9.size := Nat.ne_of_lt hVlt
    refine blk X10 hby b362 (pc' := 103) (Ls' := #[i_ p1, i_ p2, i_ p3, i_ p4, i_ p5, i_ 2, i_ y1, i_ y2, i_ y3, i_ y4, r_ (h4.size), u_, u_, u_, u_, u_, u_, u_, u_, u_, u_]) (st' := [(.int y1), (.int 0), (.ref (h9.size)), (.ref (h9.size))]) rfl ?_
    refine gSt X10 hby hV (Or.inr (Or.inl ⟨rfl, rfl⟩)) d_code_103 (i := 0) rfl (Nat.le_of_ble_eq_true rfl) (fits_nar_char _) ga hsa (fun T11 h11 S11 X11 W11 V11 sS11 => ?_)
    rw [nar_char hr1] at V11
    replace hV := V11; replace hsa := sS11 _ hsa; replace hVc := hVc.other W11 nca
    refine blk X11 hby b363 (pc' := 108) (Ls' := #[i_ p1, i_ p2, i_ p3, i_ p4, i_ p5, i_ 2, i_ y1, i_ y2, i_ y3, i_ y4, r_ (h4.size), u_, u_, u_, u_, u_, u_, u_, u_, u_, u_]) (st' := [(.int y2), (.int 1), (.ref (h9.size)), (.ref (h9.size))]) rfl ?_
    refine gSt X11 hby hV (Or.inr (Or.inl ⟨rfl, rfl⟩)) d_code_108 (i := 1) rfl (Nat.le_of_ble_eq_true rfl) (fits_nar_char _) ga hsa (fun T12 h12 S12 X12 W12 V12 sS12 => ?_)
    rw [nar_char hr2] at V12
    replace hV := V12; replace hsa := sS12 _ hsa; replace hVc := hVc.other W12 nca
    replace hV : Ari Z h12 h9.size .char [y1, y2] := hV
    refine blk X12 hby b364 (pc' := 168) (Ls' := #[i_ p1, i_ p2, i_ p3, i_ p4, i_ p5, i_ 2, i_ y1, i_ y2, i_ y3, i_ y4, r_ (h4.size), r_ (h9.size), u_, u_, u_, u_, u_, u_, u_, u_, u_]) (st' := []) rfl ?_
    refine gNew X12 hby (hw _ (List.mem_of_getElem? (i := 9) rfl)) (hw _ (List.mem_of_getElem? (i := 10) rfl)) (hw _ (List.mem_of_getElem? (i := 11) rfl)) d_code_168 (by decide) (by decide) (fun T13 h13 S13 X13 E13 A13 D13 M13 sS13 sn13 => ?_)
    refine blk X13 hby b365 (pc' := 174) (Ls' := #[i_ p1, i_ p2, i_ p3, i_ p4, i_ p5, i_ 2, i_ y1, i_ y2, i_ y3, i_ y4, r_ (h4.size), r_ (h9.size), u_, u_, u_, u_, u_, u_, u_, u_, u_]) (st' := [(.ref (h9.size)), (.ref (h12.size)), (.ref (h12.size))]) rfl ?_
    refine gInit X13 hby (argsL := [(.ref (h9.size))]) (st := [(.ref (h12.size))]) (ct_init1 hw hEL X13.old U A13 (D13 (O := "java/lang/String") (nm := "value") (d := "[B") (Or.inr (hw _ (List.mem_of_getElem? (i := 24) rfl))) (ty := .array .byte) (by decide)) (D13 (O := "java/lang/String") (nm := "coder") (d := "B") (Or.inr (hw _ (List.mem_of_getElem? (i := 25) rfl))) (ty := .byte) (by decide)) (hV.ext E13) X12.old.2.1 (Nat.le_of_ble_eq_true rfl)) rfl (hw _ (List.mem_of_getElem? (i := 12) rfl)) (hw _ (List.mem_of_getElem? (i := 13) rfl)) (hw _ (List.mem_of_getElem? (i := 11) rfl)) (hw _ (List.mem_of_getElem? (i := 14) rfl)) pd___C_V rfl d_code_174 rfl (by rw [hml]; rfl) (allS sn13 all0) (by decide) (Nat.le_of_ble_eq_true rfl) (by decide) (by decide) (fun v14 T14 h14 S14 X14 q14 sS14 sz14 => ?_)
    obtain ⟨rfl, u1, b, hx, -⟩ := q14
    have hVd : Ari Z h14 h4.size .char [y1, y2, y3, y4] := (hVc.ext E13).keep u1 (fun z => by rw [List.mem_singleton] at z; exact absurd hVc.lt (by rw [z]; exact Nat.lt_irrefl _))
    show Go _ _ _ _ (T14.setTop (mkF m 177 #[i_ p1, i_ p2, i_ p3, i_ p4, i_ p5, i_ 2, i_ y1, i_ y2, i_ y3, i_ y4, r_ (h4.size), r_ (h9.size), u_, u_, u_, u_, u_, u_, u_, u_, u_] [(.ref (h12.size))]))
    refine blk X14 hby b366 (pc' := 181) (Ls' := #[i_ p1, i_ p2, i_ p3, i_ p4, i_ p5, i_ 2, i_ y1, i_ y2, i_ y3, i_ y4, r_ (h4.size), r_ (h9.size), r_ (h12.size), u_, u_, u_, u_, u_, u_, u_, u_]) (st' := [(.ref (h12.size))]) rfl ?_
    refine gStatic X14 hby (argsL := [(.ref (h12.size))]) (st := []) (ct_ent hw hEL X14.old U hFM hfm hx (Nat.le_of_ble_eq_true rfl)) (hw _ (List.mem_of_getElem? (i := 30) rfl)) (hw _ (List.mem_of_getElem? (i := 31) rfl)) (hw _ (List.mem_of_getElem? (i := 32) rfl)) (hw _ (List.mem_of_getElem? (i := 33) rfl)) pd__Ljava_lang_String__Ljava_lang_String_ rfl d_code_181 rfl (by rw [hml]; rfl) all0 (by decide) (Nat.le_of_ble_eq_true rfl) (by decide) (by decide) (fun v15 T15 h15 S15 X15 q15 sS15 sz15 => ?_)
    obtain ⟨i, k, x', b', rfl, g1, g2, g3, g4, g5, g6, g7, hx', K'⟩ := q15
    replace hVd := hVd.keep K' nin0
    show Go _ _ _ _ (T15.setTop (mkF m 184 #[i_ p1, i_ p2, i_ p3, i_ p4, i_ p5, i_ 2, i_ y1, i_ y2, i_ y3, i_ y4, r_ (h4.size), r_ (h9.size), r_ (h12.size), u_, u_, u_, u_, u_, u_, u_, u_] [(.ref (x'))]))
    replace g2 : k ≤ 2 := g2; replace g3 : i < 2 → i < k := g3; replace g5 : i < 2 → wsB ([y1, y2].getD i 0) = false := g5; replace g6 : ∀ j, k ≤ j → j < 2 → wsB ([y1, y2].getD j 0) = true := g6
    refine blk X15 hby b367 (pc' := 189) (Ls' := #[i_ p1, i_ p2, i_ p3, i_ p4, i_ p5, i_ 2, i_ y1, i_ y2, i_ y3, i_ y4, r_ (h4.size), r_ (h9.size), r_ (h12.size), r_ (x'), u_, u_, u_, u_, u_, u_, u_]) (st' := [(.int 2), (.int 0)]) rfl ?_
    refine brI X15 hby d_code_189 (pc1 := 204) (by decide) (fun hj0 => absurd (geT hj0) (fun q => q (by decide))) (fun hj0 => ?_)
    refine blk X15 hby b368 (pc' := 194) (Ls' := #[i_ p1, i_ p2, i_ p3, i_ p4, i_ p5, i_ 2, i_ y1, i_ y2, i_ y3, i_ y4, r_ (h4.size), r_ (h9.size), r_ (h12.size), r_ (x'), u_, u_, u_, u_, u_, u_, u_]) (st' := [(.int y1)]) rfl ?_
    refine gStatic X15 hby (argsL := [(.int y1)]) (st := []) (ct_isws hw hEL X15.old) (hw _ (List.mem_of_getElem? (i := 118) rfl)) (hw _ (List.mem_of_getElem? (i := 119) rfl)) (hw _ (List.mem_of_getElem? (i := 3) rfl)) (hw _ (List.mem_of_getElem? (i := 120) rfl)) pd__C_Z rfl d_code_194 rfl (by rw [hml]; rfl) all0 (by decide) (Nat.le_of_ble_eq_true rfl) (by decide) (by decide) (fun v16 T16 h16 S16 X16 q16 sS16 sz16 => ?_)
    obtain ⟨rfl, rfl⟩ := q16
    show Go _ _ _ _ (T16.setTop (mkF m 197 #[i_ p1, i_ p2, i_ p3, i_ p4, i_ p5, i_ 2, i_ y1, i_ y2, i_ y3, i_ y4, r_ (h4.size), r_ (h9.size), r_ (h12.size), r_ (x'), u_, u_, u_, u_, u_, u_, u_] [(.int (if wsB y1 = true then 1 else 0))]))
    have nx0 : ∀ v0' : Int32, v0' = (if wsB y1 = true then 0 else 1) → Go p e below (Pst true Z EL room_1.cells room_1.slots (QL) s) (T16.setTop (mkF m 205 #[i_ p1, i_ p2, i_ p3, i_ p4, i_ p5, i_ 2, i_ y1, i_ y2, i_ y3, i_ y4, r_ (h4.size), r_ (h9.size), r_ (h12.size), r_ (x'), u_, u_, u_, u_, u_, u_, u_] [.int v0'])) := by
      intro v0' hv0
      refine blk X16 hby b369 (pc' := 207) (Ls' := #[i_ p1, i_ p2, i_ p3, i_ p4, i_ p5, i_ 2, i_ y1, i_ y2, i_ y3, i_ y4, r_ (h4.size), r_ (h9.size), r_ (h12.size), r_ (x'), i_ (v0'), u_, u_, u_, u_, u_, u_]) (st' := []) rfl ?_
      refine blk X16 hby b370 (pc' := 210) (Ls' := #[i_ p1, i_ p2, i_ p3, i_ p4, i_ p5, i_ 2, i_ y1, i_ y2, i_ y3, i_ y4, r_ (h4.size), r_ (h9.size), r_ (h12.size), r_ (x'), i_ (v0'), u_, u_, u_, u_, u_, u_]) (st' := [(.int 2), (.int 1)]) rfl ?_
      refine brI X16 hby d_code_210 (pc1 := 225) (by decide) (fun hj1 => absurd (geT hj1) (fun q => q (by decide))) (fun hj1 => ?_)
      refine blk X16 hby b371 (pc' := 215) (Ls' := #[i_ p1, i_ p2, i_ p3, i_ p4, i_ p5, i_ 2, i_ y1, i_ y2, i_ y3, i_ y4, r_ (h4.size), r_ (h9.size), r_ (h12.size), r_ (x'), i_ (v0'), u_, u_, u_, u_, u_, u_]) (st' := [(.int y2)]) rfl ?_
      refine gStatic X16 hby (argsL := [(.int y2)]) (st := []) (ct_isws hw hEL X16.old) (hw _ (List.mem_of_getElem? (i := 118) rfl)) (hw _ (List.mem_of_getElem? (i := 119) rfl)) (hw _ (List.mem_of_getElem? (i := 3) rfl)) (hw _ (List.mem_of_getElem? (i := 120) rfl)) pd__C_Z rfl d_code_215 rfl (by rw [hml]; rfl) all0 (by decide) (Nat.le_of_ble_eq_true rfl) (by decide) (by decide) (fun v17 T17 h17 S17 X17 q17 sS17 sz17 => ?_)
      obtain ⟨rfl, rfl⟩ := q17
      show Go _ _ _ _ (T17.setTop (mkF m 218 #[i_ p1, i_ p2, i_ p3, i_ p4, i_ p5, i_ 2, i_ y1, i_ y2, i_ y3, i_ y4, r_ (h4.size), r_ (h9.size), r_ (h12.size), r_ (x'), i_ (v0'), u_, u_, u_, u_, u_, u_] [(.int (if wsB y2 = true then 1 else 0))]))
      have nx1 : ∀ v1' : Int32, v1' = (if wsB y2 = true then 0 else 1) → Go p e below (Pst true Z EL room_1.cells room_1.slots (QL) s) (T17.setTop (mkF m 226 #[i_ p1, i_ p2, i_ p3, i_ p4, i_ p5, i_ 2, i_ y1, i_ y2, i_ y3, i_ y4, r_ (h4.size), r_ (h9.size), r_ (h12.size), r_ (x'), i_ (v0'), u_, u_, u_, u_, u_, u_] [.int v1'])) := by
        intro v1' hv1
        refine blk X17 hby b372 (pc' := 228) (Ls' := #[i_ p1, i_ p2, i_ p3, i_ p4, i_ p5, i_ 2, i_ y1, i_ y2, i_ y3, i_ y4, r_ (h4.size), r_ (h9.size), r_ (h12.size), r_ (x'), i_ (v0'), i_ (v1'), u_, u_, u_, u_, u_]) (st' := []) rfl ?_
        refine blk X17 hby b373 (pc' := 231) (Ls' := #[i_ p1, i_ p2, i_ p3, i_ p4, i_ p5, i_ 2, i_ y1, i_ y2, i_ y3, i_ y4, r_ (h4.size), r_ (h9.size), r_ (h12.size), r_ (x'), i_ (v0'), i_ (v1'), u_, u_, u_, u_, u_]) (st' := [(.int 2), (.int 2)]) rfl ?_
        refine brI X17 hby d_code_231 (pc1 := 246) (by decide) (fun hj2 => ?_) (fun hj2 => absurd (geF hj2) (by decide))
        refine blk X17 hby b374 (pc' := 249) (Ls' := #[i_ p1, i_ p2, i_ p3, i_ p4, i_ p5, i_ 2, i_ y1, i_ y2, i_ y3, i_ y4, r_ (h4.size), r_ (h9.size), r_ (h12.size), r_ (x'), i_ (v0'), i_ (v1'), i_ 0, u_, u_, u_, u_]) (st' := []) rfl ?_
        refine blk X17 hby b375 (pc' := 252) (Ls' := #[i_ p1, i_ p2, i_ p3, i_ p4, i_ p5, i_ 2, i_ y1, i_ y2, i_ y3, i_ y4, r_ (h4.size), r_ (h9.size), r_ (h12.size), r_ (x'), i_ (v0'), i_ (v1'), i_ 0, u_, u_, u_, u_]) (st' := [(.int 2), (.int 3)]) rfl ?_
        refine brI X17 hby d_code_252 (pc1 := 267) (by decide) (fun hj3 => ?_) (fun hj3 => absurd (geF hj3) (by decide))
        refine blk X17 hby b376 (pc' := 270) (Ls' := #[i_ p1, i_ p2, i_ p3, i_ p4, i_ p5, i_ 2, i_ y1, i_ y2, i_ y3, i_ y4, r_ (h4.size), r_ (h9.size), r_ (h12.size), r_ (x'), i_ (v0'), i_ (v1'), i_ 0, i_ 0, u_, u_, u_]) (st' := []) rfl ?_
        have hik : (i = 0 ∧ k = 1) ∨ (i = 0 ∧ k = 2) ∨ (i = 1 ∧ k = 2) ∨ (i = 2 ∧ k = 2) := by omega
        rcases hik with ⟨rfl, rfl⟩ | ⟨rfl, rfl⟩ | ⟨rfl, rfl⟩ | ⟨rfl, rfl⟩
        · skip
          have wj0 : wsB y1 = false := g5 (by decide)
          rw [wj0] at hv0
          replace hv0 : v0' = (1 : Int32) := hv0
          subst hv0
          have wj1 : wsB y2 = true := g6 1 (by decide) (by decide)
          rw [wj1] at hv1
          replace hv1 : v1' = (0 : Int32) := hv1
          subst hv1
          show Go _ _ _ _ (T17.setTop (mkF m 270 #[i_ p1, i_ p2, i_ p3, i_ p4, i_ p5, i_ 2, i_ y1, i_ y2, i_ y3, i_ y4, r_ (h4.size), r_ (h9.size), r_ (h12.size), r_ (x'), i_ 1, i_ 0, i_ 0, i_ 0, u_, u_, u_] []))
          refine blk X17 hby b377 (pc' := 272) (Ls' := #[i_ p1, i_ p2, i_ p3, i_ p4, i_ p5, i_ 2, i_ y1, i_ y2, i_ y3, i_ y4, r_ (h4.size), r_ (h9.size), r_ (h12.size), r_ (x'), i_ 1, i_ 0, i_ 0, i_ 0, u_, u_, u_]) (st' := [(.int 1)]) rfl ?_
          refine br0 X17 hby d_code_272 (pc1 := 279) (by decide) (fun hl => absurd (eqT hl) (by decide)) (fun hl => ?_)
          refine blk X17 hby b378 (pc' := 310) (Ls' := #[i_ p1, i_ p2, i_ p3, i_ p4, i_ p5, i_ 2, i_ y1, i_ y2, i_ y3, i_ y4, r_ (h4.size), r_ (h9.size), r_ (h12.size), r_ (x'), i_ 1, i_ 0, i_ 0, i_ 0, i_ 0, u_, u_]) (st' := []) rfl ?_
          refine blk X17 hby b379 (pc' := 312) (Ls' := #[i_ p1, i_ p2, i_ p3, i_ p4, i_ p5, i_ 2, i_ y1, i_ y2, i_ y3, i_ y4, r_ (h4.size), r_ (h9.size), r_ (h12.size), r_ (x'), i_ 1, i_ 0, i_ 0, i_ 0, i_ 0, u_, u_]) (st' := [(.int 0)]) rfl ?_
          refine br0 X17 hby d_code_312 (pc1 := 319) (by decide) (fun hl => ?_) (fun hl => absurd (eqF hl) (fun q => q rfl))
          refine blk X17 hby b380 (pc' := 321) (Ls' := #[i_ p1, i_ p2, i_ p3, i_ p4, i_ p5, i_ 2, i_ y1, i_ y2, i_ y3, i_ y4, r_ (h4.size), r_ (h9.size), r_ (h12.size), r_ (x'), i_ 1, i_ 0, i_ 0, i_ 0, i_ 0, u_, u_]) (st' := [(.int 0)]) rfl ?_
          refine br0 X17 hby d_code_321 (pc1 := 328) (by decide) (fun hl => ?_) (fun hl => absurd (eqF hl) (fun q => q rfl))
          refine blk X17 hby b381 (pc' := 330) (Ls' := #[i_ p1, i_ p2, i_ p3, i_ p4, i_ p5, i_ 2, i_ y1, i_ y2, i_ y3, i_ y4, r_ (h4.size), r_ (h9.size), r_ (h12.size), r_ (x'), i_ 1, i_ 0, i_ 0, i_ 0, i_ 0, u_, u_]) (st' := [(.int 0)]) rfl ?_
          refine br0 X17 hby d_code_330 (pc1 := 337) (by decide) (fun hl => ?_) (fun hl => absurd (eqF hl) (fun q => q rfl))
          refine blk X17 hby b382 (pc' := 339) (Ls' := #[i_ p1, i_ p2, i_ p3, i_ p4, i_ p5, i_ 2, i_ y1, i_ y2, i_ y3, i_ y4, r_ (h4.size), r_ (h9.size), r_ (h12.size), r_ (x'), i_ 1, i_ 0, i_ 0, i_ 0, i_ 0, u_, u_]) (st' := [(.int 1)]) rfl ?_
          refine br0 X17 hby d_code_339 (pc1 := 346) (by decide) (fun hl => absurd (eqT hl) (by decide)) (fun hl => ?_)
          refine blk X17 hby b383 (pc' := 359) (Ls' := #[i_ p1, i_ p2, i_ p3, i_ p4, i_ p5, i_ 2, i_ y1, i_ y2, i_ y3, i_ y4, r_ (h4.size), r_ (h9.size), r_ (h12.size), r_ (x'), i_ 1, i_ 0, i_ 0, i_ 0, i_ 0, i_ 1, i_ ((1 : Int32) - (0 : Int32))]) (st' := [(.ref (x'))]) rfl ?_
          show Go _ _ _ _ (T17.setTop (mkF m 359 #[i_ p1, i_ p2, i_ p3, i_ p4, i_ p5, i_ 2, i_ y1, i_ y2, i_ y3, i_ y4, r_ (h4.size), r_ (h9.size), r_ (h12.size), r_ (x'), i_ 1, i_ 0, i_ 0, i_ 0, i_ 0, i_ 1, i_ 1] [(.ref (x'))]))
          refine gVirt X17 hby (argsL := []) (st := []) (ct_len hw hEL X17.old U hx') hx'.1 (hw _ (List.mem_of_getElem? (i := 59) rfl)) (hw _ (List.mem_of_getElem? (i := 35) rfl)) (hw _ (List.mem_of_getElem? (i := 37) rfl)) (hw _ (List.mem_of_getElem? (i := 36) rfl)) (hw _ (List.mem_of_getElem? (i := 11) rfl)) (hw _ (List.mem_of_getElem? (i := 38) rfl)) pd___I rfl d_code_359 rfl (by rw [hml]; rfl) all0 (by decide) (Nat.le_of_ble_eq_true rfl) (by decide) (by decide) (fun v18 T18 h18 S18 X18 q18 sS18 sz18 => ?_)
          obtain ⟨rfl, rfl⟩ := q18
          show Go _ _ _ _ (T18.setTop (mkF m 362 #[i_ p1, i_ p2, i_ p3, i_ p4, i_ p5, i_ 2, i_ y1, i_ y2, i_ y3, i_ y4, r_ (h4.size), r_ (h9.size), r_ (h12.size), r_ (x'), i_ 1, i_ 0, i_ 0, i_ 0, i_ 0, i_ 1, i_ 1] [(.int (Int32.ofNat (([y1, y2].drop 0).take (1 - 0)).length))]))
          show Go _ _ _ _ (T18.setTop (mkF m 362 #[i_ p1, i_ p2, i_ p3, i_ p4, i_ p5, i_ 2, i_ y1, i_ y2, i_ y3, i_ y4, r_ (h4.size), r_ (h9.size), r_ (h12.size), r_ (x'), i_ 1, i_ 0, i_ 0, i_ 0, i_ 0, i_ 1, i_ 1] [(.int 1)]))
          refine blk X18 hby b384 (pc' := 364) (Ls' := #[i_ p1, i_ p2, i_ p3, i_ p4, i_ p5, i_ 2, i_ y1, i_ y2, i_ y3, i_ y4, r_ (h4.size), r_ (h9.size), r_ (h12.size), r_ (x'), i_ 1, i_ 0, i_ 0, i_ 0, i_ 0, i_ 1, i_ 1]) (st' := [(.int 1), (.int 1)]) rfl ?_
          refine brI X18 hby d_code_364 (pc1 := 369) (by decide) (fun hl => ?_) (fun hl => absurd (eqF hl) (fun q => q rfl))
          refine blk X18 hby b385 (pc' := 371) (Ls' := #[i_ p1, i_ p2, i_ p3, i_ p4, i_ p5, i_ 2, i_ y1, i_ y2, i_ y3, i_ y4, r_ (h4.size), r_ (h9.size), r_ (h12.size), r_ (x'), i_ 1, i_ 0, i_ 0, i_ 0, i_ 0, i_ 1, i_ 1]) (st' := [(.int 1)]) rfl ?_
          refine br0 X18 hby d_code_371 (pc1 := 388) (by decide) (fun hl => absurd (leT hl) (fun q => q (by decide))) (fun hl => ?_)
          refine blk X18 hby b386 (pc' := 377) (Ls' := #[i_ p1, i_ p2, i_ p3, i_ p4, i_ p5, i_ 2, i_ y1, i_ y2, i_ y3, i_ y4, r_ (h4.size), r_ (h9.size), r_ (h12.size), r_ (x'), i_ 1, i_ 0, i_ 0, i_ 0, i_ 0, i_ 1, i_ 1]) (st' := [(.int 0), (.ref (x'))]) rfl ?_
          refine gVirt X18 hby (argsL := [(.int 0)]) (st := []) (ct_chr hw hEL X18.old U hFM hfm hx' (i := 0) (Nat.le_of_ble_eq_true rfl)) hx'.1 (hw _ (List.mem_of_getElem? (i := 121) rfl)) (hw _ (List.mem_of_getElem? (i := 71) rfl)) (hw _ (List.mem_of_getElem? (i := 73) rfl)) (hw _ (List.mem_of_getElem? (i := 72) rfl)) (hw _ (List.mem_of_getElem? (i := 11) rfl)) (hw _ (List.mem_of_getElem? (i := 74) rfl)) pd__I_C rfl d_code_377 rfl (by rw [hml]; rfl) all0 (by decide) (Nat.le_of_ble_eq_true rfl) (by decide) (by decide) (fun v19 T19 h19 S19 X19 q19 sS19 sz19 => ?_)
          obtain ⟨rfl, rfl⟩ := q19
          show Go _ _ _ _ (T19.setTop (mkF m 380 #[i_ p1, i_ p2, i_ p3, i_ p4, i_ p5, i_ 2, i_ y1, i_ y2, i_ y3, i_ y4, r_ (h4.size), r_ (h9.size), r_ (h12.size), r_ (x'), i_ 1, i_ 0, i_ 0, i_ 0, i_ 0, i_ 1, i_ 1] [(.int ((([y1, y2].drop 0).take (1 - 0)).getD 0 0))]))
          show Go _ _ _ _ (T19.setTop (mkF m 380 #[i_ p1, i_ p2, i_ p3, i_ p4, i_ p5, i_ 2, i_ y1, i_ y2, i_ y3, i_ y4, r_ (h4.size), r_ (h9.size), r_ (h12.size), r_ (x'), i_ 1, i_ 0, i_ 0, i_ 0, i_ 0, i_ 1, i_ 1] [(.int y1)]))
          refine blk X19 hby b387 (pc' := 384) (Ls' := #[i_ p1, i_ p2, i_ p3, i_ p4, i_ p5, i_ 2, i_ y1, i_ y2, i_ y3, i_ y4, r_ (h4.size), r_ (h9.size), r_ (h12.size), r_ (x'), i_ 1, i_ 0, i_ 0, i_ 0, i_ 0, i_ 1, i_ 1]) (st' := [(.int 0), (.ref (h4.size)), (.int y1)]) rfl ?_
          refine gLd X19 hby hVd (Or.inr (Or.inl ⟨rfl, rfl⟩)) d_code_384 (i := 0) rfl (Nat.le_of_ble_eq_true rfl) ?_
          refine brI X19 hby d_code_385 (pc1 := 458) (by decide) (fun hl => absurd (neT hl) (fun q => q rfl)) (fun hl => ?_)
          refine blk X19 hby b388 (pc' := 391) (Ls' := #[i_ p1, i_ p2, i_ p3, i_ p4, i_ p5, i_ 2, i_ y1, i_ y2, i_ y3, i_ y4, r_ (h4.size), r_ (h9.size), r_ (h12.size), r_ (x'), i_ 1, i_ 0, i_ 0, i_ 0, i_ 0, i_ 1, i_ 1]) (st' := [(.int 1), (.int 1)]) rfl ?_
          refine brI X19 hby d_code_391 (pc1 := 410) (by decide) (fun hl => ?_) (fun hl => absurd (leF hl) (by decide))
          refine blk X19 hby b389 (pc' := 413) (Ls' := #[i_ p1, i_ p2, i_ p3, i_ p4, i_ p5, i_ 2, i_ y1, i_ y2, i_ y3, i_ y4, r_ (h4.size), r_ (h9.size), r_ (h12.size), r_ (x'), i_ 1, i_ 0, i_ 0, i_ 0, i_ 0, i_ 1, i_ 1]) (st' := [(.int 2), (.int 1)]) rfl ?_
          refine brI X19 hby d_code_413 (pc1 := 432) (by decide) (fun hl => ?_) (fun hl => absurd (leF hl) (by decide))
          refine blk X19 hby b390 (pc' := 435) (Ls' := #[i_ p1, i_ p2, i_ p3, i_ p4, i_ p5, i_ 2, i_ y1, i_ y2, i_ y3, i_ y4, r_ (h4.size), r_ (h9.size), r_ (h12.size), r_ (x'), i_ 1, i_ 0, i_ 0, i_ 0, i_ 0, i_ 1, i_ 1]) (st' := [(.int 3), (.int 1)]) rfl ?_
          refine brI X19 hby d_code_435 (pc1 := 454) (by decide) (fun hl => ?_) (fun hl => absurd (leF hl) (by decide))
          refine blk X19 hby b391 (pc' := 459) (Ls' := #[i_ p1, i_ p2, i_ p3, i_ p4, i_ p5, i_ 2, i_ y1, i_ y2, i_ y3, i_ y4, r_ (h4.size), r_ (h9.size), r_ (h12.size), r_ (x'), i_ 1, i_ 0, i_ 0, i_ 0, i_ 0, i_ 1, i_ 1]) (st' := [(.int 1)]) rfl ?_
          exact retI' X19 hby hret d_code_459 rfl (fun S' hS' => rfl)
        · skip
          have wj0 : wsB y1 = false := g5 (by decide)
          rw [wj0] at hv0
          replace hv0 : v0' = (1 : Int32) := hv0
          subst hv0
          have wj1 : wsB y2 = false := g7 (by decide)
          rw [wj1] at hv1
          replace hv1 : v1' = (1 : Int32) := hv1
          subst hv1
          show Go _ _ _ _ (T17.setTop (mkF m 270 #[i_ p1, i_ p2, i_ p3, i_ p4, i_ p5, i_ 2, i_ y1, i_ y2, i_ y3, i_ y4, r_ (h4.size), r_ (h9.size), r_ (h12.size), r_ (x'), i_ 1, i_ 1, i_ 0, i_ 0, u_, u_, u_] []))
          refine blk X17 hby b392 (pc' := 272) (Ls' := #[i_ p1, i_ p2, i_ p3, i_ p4, i_ p5, i_ 2, i_ y1, i_ y2, i_ y3, i_ y4, r_ (h4.size), r_ (h9.size), r_ (h12.size), r_ (x'), i_ 1, i_ 1, i_ 0, i_ 0, u_, u_, u_]) (st' := [(.int 1)]) rfl ?_
          refine br0 X17 hby d_code_272 (pc1 := 279) (by decide) (fun hl => absurd (eqT hl) (by decide)) (fun hl => ?_)
          refine blk X17 hby b393 (pc' := 310) (Ls' := #[i_ p1, i_ p2, i_ p3, i_ p4, i_ p5, i_ 2, i_ y1, i_ y2, i_ y3, i_ y4, r_ (h4.size), r_ (h9.size), r_ (h12.size), r_ (x'), i_ 1, i_ 1, i_ 0, i_ 0, i_ 0, u_, u_]) (st' := []) rfl ?_
          refine blk X17 hby b394 (pc' := 312) (Ls' := #[i_ p1, i_ p2, i_ p3, i_ p4, i_ p5, i_ 2, i_ y1, i_ y2, i_ y3, i_ y4, r_ (h4.size), r_ (h9.size), r_ (h12.size), r_ (x'), i_ 1, i_ 1, i_ 0, i_ 0, i_ 0, u_, u_]) (st' := [(.int 0)]) rfl ?_
          refine br0 X17 hby d_code_312 (pc1 := 319) (by decide) (fun hl => ?_) (fun hl => absurd (eqF hl) (fun q => q rfl))
          refine blk X17 hby b395 (pc' := 321) (Ls' := #[i_ p1, i_ p2, i_ p3, i_ p4, i_ p5, i_ 2, i_ y1, i_ y2, i_ y3, i_ y4, r_ (h4.size), r_ (h9.size), r_ (h12.size), r_ (x'), i_ 1, i_ 1, i_ 0, i_ 0, i_ 0, u_, u_]) (st' := [(.int 0)]) rfl ?_
          refine br0 X17 hby d_code_321 (pc1 := 328) (by decide) (fun hl => ?_) (fun hl => absurd (eqF hl) (fun q => q rfl))
          refine blk X17 hby b396 (pc' := 330) (Ls' := #[i_ p1, i_ p2, i_ p3, i_ p4, i_ p5, i_ 2, i_ y1, i_ y2, i_ y3, i_ y4, r_ (h4.size), r_ (h9.size), r_ (h12.size), r_ (x'), i_ 1, i_ 1, i_ 0, i_ 0, i_ 0, u_, u_]) (st' := [(.int 1)]) rfl ?_
          refine br0 X17 hby d_code_330 (pc1 := 337) (by decide) (fun hl => absurd (eqT hl) (by decide)) (fun hl => ?_)
          refine blk X17 hby b397 (pc' := 359) (Ls' := #[i_ p1, i_ p2, i_ p3, i_ p4, i_ p5, i_ 2, i_ y1, i_ y2, i_ y3, i_ y4, r_ (h4.size), r_ (h9.size), r_ (h12.size), r_ (x'), i_ 1, i_ 1, i_ 0, i_ 0, i_ 0, i_ 2, i_ ((2 : Int32) - (0 : Int32))]) (st' := [(.ref (x'))]) rfl ?_
          show Go _ _ _ _ (T17.setTop (mkF m 359 #[i_ p1, i_ p2, i_ p3, i_ p4, i_ p5, i_ 2, i_ y1, i_ y2, i_ y3, i_ y4, r_ (h4.size), r_ (h9.size), r_ (h12.size), r_ (x'), i_ 1, i_ 1, i_ 0, i_ 0, i_ 0, i_ 2, i_ 2] [(.ref (x'))]))
          refine gVirt X17 hby (argsL := []) (st := []) (ct_len hw hEL X17.old U hx') hx'.1 (hw _ (List.mem_of_getElem? (i := 59) rfl)) (hw _ (List.mem_of_getElem? (i := 35) rfl)) (hw _ (List.mem_of_getElem? (i := 37) rfl)) (hw _ (List.mem_of_getElem? (i := 36) rfl)) (hw _ (List.mem_of_getElem? (i := 11) rfl)) (hw _ (List.mem_of_getElem? (i := 38) rfl)) pd___I rfl d_code_359 rfl (by rw [hml]; rfl) all0 (by decide) (Nat.le_of_ble_eq_true rfl) (by decide) (by decide) (fun v18 T18 h18 S18 X18 q18 sS18 sz18 => ?_)
          obtain ⟨rfl, rfl⟩ := q18
          show Go _ _ _ _ (T18.setTop (mkF m 362 #[i_ p1, i_ p2, i_ p3, i_ p4, i_ p5, i_ 2, i_ y1, i_ y2, i_ y3, i_ y4, r_ (h4.size), r_ (h9.size), r_ (h12.size), r_ (x'), i_ 1, i_ 1, i_ 0, i_ 0, i_ 0, i_ 2, i_ 2] [(.int (Int32.ofNat (([y1, y2].drop 0).take (2 - 0)).length))]))
          show Go _ _ _ _ (T18.setTop (mkF m 362 #[i_ p1, i_ p2, i_ p3, i_ p4, i_ p5, i_ 2, i_ y1, i_ y2, i_ y3, i_ y4, r_ (h4.size), r_ (h9.size), r_ (h12.size), r_ (x'), i_ 1, i_ 1, i_ 0, i_ 0, i_ 0, i_ 2, i_ 2] [(.int 2)]))
          refine blk X18 hby b398 (pc' := 364) (Ls' := #[i_ p1, i_ p2, i_ p3, i_ p4, i_ p5, i_ 2, i_ y1, i_ y2, i_ y3, i_ y4, r_ (h4.size), r_ (h9.size), r_ (h12.size), r_ (x'), i_ 1, i_ 1, i_ 0, i_ 0, i_ 0, i_ 2, i_ 2]) (st' := [(.int 2), (.int 2)]) rfl ?_
          refine brI X18 hby d_code_364 (pc1 := 369) (by decide) (fun hl => ?_) (fun hl => absurd (eqF hl) (fun q => q rfl))
          refine blk X18 hby b399 (pc' := 371) (Ls' := #[i_ p1, i_ p2, i_ p3, i_ p4, i_ p5, i_ 2, i_ y1, i_ y2, i_ y3, i_ y4, r_ (h4.size), r_ (h9.size), r_ (h12.size), r_ (x'), i_ 1, i_ 1, i_ 0, i_ 0, i_ 0, i_ 2, i_ 2]) (st' := [(.int 2)]) rfl ?_
          refine br0 X18 hby d_code_371 (pc1 := 388) (by decide) (fun hl => absurd (leT hl) (fun q => q (by decide))) (fun hl => ?_)
          refine blk X18 hby b400 (pc' := 377) (Ls' := #[i_ p1, i_ p2, i_ p3, i_ p4, i_ p5, i_ 2, i_ y1, i_ y2, i_ y3, i_ y4, r_ (h4.size), r_ (h9.size), r_ (h12.size), r_ (x'), i_ 1, i_ 1, i_ 0, i_ 0, i_ 0, i_ 2, i_ 2]) (st' := [(.int 0), (.ref (x'))]) rfl ?_
          refine gVirt X18 hby (argsL := [(.int 0)]) (st := []) (ct_chr hw hEL X18.old U hFM hfm hx' (i := 0) (Nat.le_of_ble_eq_true rfl)) hx'.1 (hw _ (List.mem_of_getElem? (i := 121) rfl)) (hw _ (List.mem_of_getElem? (i := 71) rfl)) (hw _ (List.mem_of_getElem? (i := 73) rfl)) (hw _ (List.mem_of_getElem? (i := 72) rfl)) (hw _ (List.mem_of_getElem? (i := 11) rfl)) (hw _ (List.mem_of_getElem? (i := 74) rfl)) pd__I_C rfl d_code_377 rfl (by rw [hml]; rfl) all0 (by decide) (Nat.le_of_ble_eq_true rfl) (by decide) (by decide) (fun v19 T19 h19 S19 X19 q19 sS19 sz19 => ?_)
          obtain ⟨rfl, rfl⟩ := q19
          show Go _ _ _ _ (T19.setTop (mkF m 380 #[i_ p1, i_ p2, i_ p3, i_ p4, i_ p5, i_ 2, i_ y1, i_ y2, i_ y3, i_ y4, r_ (h4.size), r_ (h9.size), r_ (h12.size), r_ (x'), i_ 1, i_ 1, i_ 0, i_ 0, i_ 0, i_ 2, i_ 2] [(.int ((([y1, y2].drop 0).take (2 - 0)).getD 0 0))]))
          show Go _ _ _ _ (T19.setTop (mkF m 380 #[i_ p1, i_ p2, i_ p3, i_ p4, i_ p5, i_ 2, i_ y1, i_ y2, i_ y3, i_ y4, r_ (h4.size), r_ (h9.size), r_ (h12.size), r_ (x'), i_ 1, i_ 1, i_ 0, i_ 0, i_ 0, i_ 2, i_ 2] [(.int y1)]))
          refine blk X19 hby b401 (pc' := 384) (Ls' := #[i_ p1, i_ p2, i_ p3, i_ p4, i_ p5, i_ 2, i_ y1, i_ y2, i_ y3, i_ y4, r_ (h4.size), r_ (h9.size), r_ (h12.size), r_ (x'), i_ 1, i_ 1, i_ 0, i_ 0, i_ 0, i_ 2, i_ 2]) (st' := [(.int 0), (.ref (h4.size)), (.int y1)]) rfl ?_
          refine gLd X19 hby hVd (Or.inr (Or.inl ⟨rfl, rfl⟩)) d_code_384 (i := 0) rfl (Nat.le_of_ble_eq_true rfl) ?_
          refine brI X19 hby d_code_385 (pc1 := 458) (by decide) (fun hl => absurd (neT hl) (fun q => q rfl)) (fun hl => ?_)
          refine blk X19 hby b402 (pc' := 391) (Ls' := #[i_ p1, i_ p2, i_ p3, i_ p4, i_ p5, i_ 2, i_ y1, i_ y2, i_ y3, i_ y4, r_ (h4.size), r_ (h9.size), r_ (h12.size), r_ (x'), i_ 1, i_ 1, i_ 0, i_ 0, i_ 0, i_ 2, i_ 2]) (st' := [(.int 1), (.int 2)]) rfl ?_
          refine brI X19 hby d_code_391 (pc1 := 410) (by decide) (fun hl => absurd (leT hl) (fun q => q (by decide))) (fun hl => ?_)
          refine blk X19 hby b403 (pc' := 397) (Ls' := #[i_ p1, i_ p2, i_ p3, i_ p4, i_ p5, i_ 2, i_ y1, i_ y2, i_ y3, i_ y4, r_ (h4.size), r_ (h9.size), r_ (h12.size), r_ (x'), i_ 1, i_ 1, i_ 0, i_ 0, i_ 0, i_ 2, i_ 2]) (st' := [(.int 1), (.ref (x'))]) rfl ?_
          refine gVirt X19 hby (argsL := [(.int 1)]) (st := []) (ct_chr hw hEL X19.old U hFM hfm hx' (i := 1) (Nat.le_of_ble_eq_true rfl)) hx'.1 (hw _ (List.mem_of_getElem? (i := 121) rfl)) (hw _ (List.mem_of_getElem? (i := 71) rfl)) (hw _ (List.mem_of_getElem? (i := 73) rfl)) (hw _ (List.mem_of_getElem? (i := 72) rfl)) (hw _ (List.mem_of_getElem? (i := 11) rfl)) (hw _ (List.mem_of_getElem? (i := 74) rfl)) pd__I_C rfl d_code_397 rfl (by rw [hml]; rfl) all0 (by decide) (Nat.le_of_ble_eq_true rfl) (by decide) (by decide) (fun v20 T20 h20 S20 X20 q20 sS20 sz20 => ?_)
          obtain ⟨rfl, rfl⟩ := q20
          show Go _ _ _ _ (T20.setTop (mkF m 400 #[i_ p1, i_ p2, i_ p3, i_ p4, i_ p5, i_ 2, i_ y1, i_ y2, i_ y3, i_ y4, r_ (h4.size), r_ (h9.size), r_ (h12.size), r_ (x'), i_ 1, i_ 1, i_ 0, i_ 0, i_ 0, i_ 2, i_ 2] [(.int ((([y1, y2].drop 0).take (2 - 0)).getD 1 0))]))
          show Go _ _ _ _ (T20.setTop (mkF m 400 #[i_ p1, i_ p2, i_ p3, i_ p4, i_ p5, i_ 2, i_ y1, i_ y2, i_ y3, i_ y4, r_ (h4.size), r_ (h9.size), r_ (h12.size), r_ (x'), i_ 1, i_ 1, i_ 0, i_ 0, i_ 0, i_ 2, i_ 2] [(.int y2)]))
          refine blk X20 hby b404 (pc' := 406) (Ls' := #[i_ p1, i_ p2, i_ p3, i_ p4, i_ p5, i_ 2, i_ y1, i_ y2, i_ y3, i_ y4, r_ (h4.size), r_ (h9.size), r_ (h12.size), r_ (x'), i_ 1, i_ 1, i_ 0, i_ 0, i_ 0, i_ 2, i_ 2]) (st' := [(.int ((0 : Int32) + (1 : Int32))), (.ref (h4.size)), (.int y2)]) rfl ?_
          refine gLd X20 hby hVd (Or.inr (Or.inl ⟨rfl, rfl⟩)) d_code_406 (i := 1) rfl (Nat.le_of_ble_eq_true rfl) ?_
          refine brI X20 hby d_code_407 (pc1 := 458) (by decide) (fun hl => absurd (neT hl) (fun q => q rfl)) (fun hl => ?_)
          refine blk X20 hby b405 (pc' := 413) (Ls' := #[i_ p1, i_ p2, i_ p3, i_ p4, i_ p5, i_ 2, i_ y1, i_ y2, i_ y3, i_ y4, r_ (h4.size), r_ (h9.size), r_ (h12.size), r_ (x'), i_ 1, i_ 1, i_ 0, i_ 0, i_ 0, i_ 2, i_ 2]) (st' := [(.int 2), (.int 2)]) rfl ?_
          refine brI X20 hby d_code_413 (pc1 := 432) (by decide) (fun hl => ?_) (fun hl => absurd (leF hl) (by decide))
          refine blk X20 hby b406 (pc' := 435) (Ls' := #[i_ p1, i_ p2, i_ p3, i_ p4, i_ p5, i_ 2, i_ y1, i_ y2, i_ y3, i_ y4, r_ (h4.size), r_ (h9.size), r_ (h12.size), r_ (x'), i_ 1, i_ 1, i_ 0, i_ 0, i_ 0, i_ 2, i_ 2]) (st' := [(.int 3), (.int 2)]) rfl ?_
          refine brI X20 hby d_code_435 (pc1 := 454) (by decide) (fun hl => ?_) (fun hl => absurd (leF hl) (by decide))
          refine blk X20 hby b407 (pc' := 459) (Ls' := #[i_ p1, i_ p2, i_ p3, i_ p4, i_ p5, i_ 2, i_ y1, i_ y2, i_ y3, i_ y4, r_ (h4.size), r_ (h9.size), r_ (h12.size), r_ (x'), i_ 1, i_ 1, i_ 0, i_ 0, i_ 0, i_ 2, i_ 2]) (st' := [(.int 1)]) rfl ?_
          exact retI' X20 hby hret d_code_459 rfl (fun S' hS' => rfl)
        · skip
          have wj0 : wsB y1 = true := g4 0 (by decide)
          rw [wj0] at hv0
          replace hv0 : v0' = (0 : Int32) := hv0
          subst hv0
          have wj1 : wsB y2 = false := g5 (by decide)
          rw [wj1] at hv1
          replace hv1 : v1' = (1 : Int32) := hv1
          subst hv1
          show Go _ _ _ _ (T17.setTop (mkF m 270 #[i_ p1, i_ p2, i_ p3, i_ p4, i_ p5, i_ 2, i_ y1, i_ y2, i_ y3, i_ y4, r_ (h4.size), r_ (h9.size), r_ (h12.size), r_ (x'), i_ 0, i_ 1, i_ 0, i_ 0, u_, u_, u_] []))
          refine blk X17 hby b408 (pc' := 272) (Ls' := #[i_ p1, i_ p2, i_ p3, i_ p4, i_ p5, i_ 2, i_ y1, i_ y2, i_ y3, i_ y4, r_ (h4.size), r_ (h9.size), r_ (h12.size), r_ (x'), i_ 0, i_ 1, i_ 0, i_ 0, u_, u_, u_]) (st' := [(.int 0)]) rfl ?_
          refine br0 X17 hby d_code_272 (pc1 := 279) (by decide) (fun hl => ?_) (fun hl => absurd (eqF hl) (fun q => q rfl))
          refine blk X17 hby b409 (pc' := 281) (Ls' := #[i_ p1, i_ p2, i_ p3, i_ p4, i_ p5, i_ 2, i_ y1, i_ y2, i_ y3, i_ y4, r_ (h4.size), r_ (h9.size), r_ (h12.size), r_ (x'), i_ 0, i_ 1, i_ 0, i_ 0, u_, u_, u_]) (st' := [(.int 1)]) rfl ?_
          refine br0 X17 hby d_code_281 (pc1 := 288) (by decide) (fun hl => absurd (eqT hl) (by decide)) (fun hl => ?_)
          refine blk X17 hby b410 (pc' := 310) (Ls' := #[i_ p1, i_ p2, i_ p3, i_ p4, i_ p5, i_ 2, i_ y1, i_ y2, i_ y3, i_ y4, r_ (h4.size), r_ (h9.size), r_ (h12.size), r_ (x'), i_ 0, i_ 1, i_ 0, i_ 0, i_ 1, u_, u_]) (st' := []) rfl ?_
          refine blk X17 hby b411 (pc' := 312) (Ls' := #[i_ p1, i_ p2, i_ p3, i_ p4, i_ p5, i_ 2, i_ y1, i_ y2, i_ y3, i_ y4, r_ (h4.size), r_ (h9.size), r_ (h12.size), r_ (x'), i_ 0, i_ 1, i_ 0, i_ 0, i_ 1, u_, u_]) (st' := [(.int 0)]) rfl ?_
          refine br0 X17 hby d_code_312 (pc1 := 319) (by decide) (fun hl => ?_) (fun hl => absurd (eqF hl) (fun q => q rfl))
          refine blk X17 hby b412 (pc' := 321) (Ls' := #[i_ p1, i_ p2, i_ p3, i_ p4, i_ p5, i_ 2, i_ y1, i_ y2, i_ y3, i_ y4, r_ (h4.size), r_ (h9.size), r_ (h12.size), r_ (x'), i_ 0, i_ 1, i_ 0, i_ 0, i_ 1, u_, u_]) (st' := [(.int 0)]) rfl ?_
          refine br0 X17 hby d_code_321 (pc1 := 328) (by decide) (fun hl => ?_) (fun hl => absurd (eqF hl) (fun q => q rfl))
          refine blk X17 hby b413 (pc' := 330) (Ls' := #[i_ p1, i_ p2, i_ p3, i_ p4, i_ p5, i_ 2, i_ y1, i_ y2, i_ y3, i_ y4, r_ (h4.size), r_ (h9.size), r_ (h12.size), r_ (x'), i_ 0, i_ 1, i_ 0, i_ 0, i_ 1, u_, u_]) (st' := [(.int 1)]) rfl ?_
          refine br0 X17 hby d_code_330 (pc1 := 337) (by decide) (fun hl => absurd (eqT hl) (by decide)) (fun hl => ?_)
          refine blk X17 hby b414 (pc' := 359) (Ls' := #[i_ p1, i_ p2, i_ p3, i_ p4, i_ p5, i_ 2, i_ y1, i_ y2, i_ y3, i_ y4, r_ (h4.size), r_ (h9.size), r_ (h12.size), r_ (x'), i_ 0, i_ 1, i_ 0, i_ 0, i_ 1, i_ 2, i_ ((2 : Int32) - (1 : Int32))]) (st' := [(.ref (x'))]) rfl ?_
          show Go _ _ _ _ (T17.setTop (mkF m 359 #[i_ p1, i_ p2, i_ p3, i_ p4, i_ p5, i_ 2, i_ y1, i_ y2, i_ y3, i_ y4, r_ (h4.size), r_ (h9.size), r_ (h12.size), r_ (x'), i_ 0, i_ 1, i_ 0, i_ 0, i_ 1, i_ 2, i_ 1] [(.ref (x'))]))
          refine gVirt X17 hby (argsL := []) (st := []) (ct_len hw hEL X17.old U hx') hx'.1 (hw _ (List.mem_of_getElem? (i := 59) rfl)) (hw _ (List.mem_of_getElem? (i := 35) rfl)) (hw _ (List.mem_of_getElem? (i := 37) rfl)) (hw _ (List.mem_of_getElem? (i := 36) rfl)) (hw _ (List.mem_of_getElem? (i := 11) rfl)) (hw _ (List.mem_of_getElem? (i := 38) rfl)) pd___I rfl d_code_359 rfl (by rw [hml]; rfl) all0 (by decide) (Nat.le_of_ble_eq_true rfl) (by decide) (by decide) (fun v18 T18 h18 S18 X18 q18 sS18 sz18 => ?_)
          obtain ⟨rfl, rfl⟩ := q18
          show Go _ _ _ _ (T18.setTop (mkF m 362 #[i_ p1, i_ p2, i_ p3, i_ p4, i_ p5, i_ 2, i_ y1, i_ y2, i_ y3, i_ y4, r_ (h4.size), r_ (h9.size), r_ (h12.size), r_ (x'), i_ 0, i_ 1, i_ 0, i_ 0, i_ 1, i_ 2, i_ 1] [(.int (Int32.ofNat (([y1, y2].drop 1).take (2 - 1)).length))]))
          show Go _ _ _ _ (T18.setTop (mkF m 362 #[i_ p1, i_ p2, i_ p3, i_ p4, i_ p5, i_ 2, i_ y1, i_ y2, i_ y3, i_ y4, r_ (h4.size), r_ (h9.size), r_ (h12.size), r_ (x'), i_ 0, i_ 1, i_ 0, i_ 0, i_ 1, i_ 2, i_ 1] [(.int 1)]))
          refine blk X18 hby b415 (pc' := 364) (Ls' := #[i_ p1, i_ p2, i_ p3, i_ p4, i_ p5, i_ 2, i_ y1, i_ y2, i_ y3, i_ y4, r_ (h4.size), r_ (h9.size), r_ (h12.size), r_ (x'), i_ 0, i_ 1, i_ 0, i_ 0, i_ 1, i_ 2, i_ 1]) (st' := [(.int 1), (.int 1)]) rfl ?_
          refine brI X18 hby d_code_364 (pc1 := 369) (by decide) (fun hl => ?_) (fun hl => absurd (eqF hl) (fun q => q rfl))
          refine blk X18 hby b416 (pc' := 371) (Ls' := #[i_ p1, i_ p2, i_ p3, i_ p4, i_ p5, i_ 2, i_ y1, i_ y2, i_ y3, i_ y4, r_ (h4.size), r_ (h9.size), r_ (h12.size), r_ (x'), i_ 0, i_ 1, i_ 0, i_ 0, i_ 1, i_ 2, i_ 1]) (st' := [(.int 1)]) rfl ?_
          refine br0 X18 hby d_code_371 (pc1 := 388) (by decide) (fun hl => absurd (leT hl) (fun q => q (by decide))) (fun hl => ?_)
          refine blk X18 hby b417 (pc' := 377) (Ls' := #[i_ p1, i_ p2, i_ p3, i_ p4, i_ p5, i_ 2, i_ y1, i_ y2, i_ y3, i_ y4, r_ (h4.size), r_ (h9.size), r_ (h12.size), r_ (x'), i_ 0, i_ 1, i_ 0, i_ 0, i_ 1, i_ 2, i_ 1]) (st' := [(.int 0), (.ref (x'))]) rfl ?_
          refine gVirt X18 hby (argsL := [(.int 0)]) (st := []) (ct_chr hw hEL X18.old U hFM hfm hx' (i := 0) (Nat.le_of_ble_eq_true rfl)) hx'.1 (hw _ (List.mem_of_getElem? (i := 121) rfl)) (hw _ (List.mem_of_getElem? (i := 71) rfl)) (hw _ (List.mem_of_getElem? (i := 73) rfl)) (hw _ (List.mem_of_getElem? (i := 72) rfl)) (hw _ (List.mem_of_getElem? (i := 11) rfl)) (hw _ (List.mem_of_getElem? (i := 74) rfl)) pd__I_C rfl d_code_377 rfl (by rw [hml]; rfl) all0 (by decide) (Nat.le_of_ble_eq_true rfl) (by decide) (by decide) (fun v19 T19 h19 S19 X19 q19 sS19 sz19 => ?_)
          obtain ⟨rfl, rfl⟩ := q19
          show Go _ _ _ _ (T19.setTop (mkF m 380 #[i_ p1, i_ p2, i_ p3, i_ p4, i_ p5, i_ 2, i_ y1, i_ y2, i_ y3, i_ y4, r_ (h4.size), r_ (h9.size), r_ (h12.size), r_ (x'), i_ 0, i_ 1, i_ 0, i_ 0, i_ 1, i_ 2, i_ 1] [(.int ((([y1, y2].drop 1).take (2 - 1)).getD 0 0))]))
          show Go _ _ _ _ (T19.setTop (mkF m 380 #[i_ p1, i_ p2, i_ p3, i_ p4, i_ p5, i_ 2, i_ y1, i_ y2, i_ y3, i_ y4, r_ (h4.size), r_ (h9.size), r_ (h12.size), r_ (x'), i_ 0, i_ 1, i_ 0, i_ 0, i_ 1, i_ 2, i_ 1] [(.int y2)]))
          refine blk X19 hby b418 (pc' := 384) (Ls' := #[i_ p1, i_ p2, i_ p3, i_ p4, i_ p5, i_ 2, i_ y1, i_ y2, i_ y3, i_ y4, r_ (h4.size), r_ (h9.size), r_ (h12.size), r_ (x'), i_ 0, i_ 1, i_ 0, i_ 0, i_ 1, i_ 2, i_ 1]) (st' := [(.int 1), (.ref (h4.size)), (.int y2)]) rfl ?_
          refine gLd X19 hby hVd (Or.inr (Or.inl ⟨rfl, rfl⟩)) d_code_384 (i := 1) rfl (Nat.le_of_ble_eq_true rfl) ?_
          refine brI X19 hby d_code_385 (pc1 := 458) (by decide) (fun hl => absurd (neT hl) (fun q => q rfl)) (fun hl => ?_)
          refine blk X19 hby b419 (pc' := 391) (Ls' := #[i_ p1, i_ p2, i_ p3, i_ p4, i_ p5, i_ 2, i_ y1, i_ y2, i_ y3, i_ y4, r_ (h4.size), r_ (h9.size), r_ (h12.size), r_ (x'), i_ 0, i_ 1, i_ 0, i_ 0, i_ 1, i_ 2, i_ 1]) (st' := [(.int 1), (.int 1)]) rfl ?_
          refine brI X19 hby d_code_391 (pc1 := 410) (by decide) (fun hl => ?_) (fun hl => absurd (leF hl) (by decide))
          refine blk X19 hby b420 (pc' := 413) (Ls' := #[i_ p1, i_ p2, i_ p3, i_ p4, i_ p5, i_ 2, i_ y1, i_ y2, i_ y3, i_ y4, r_ (h4.size), r_ (h9.size), r_ (h12.size), r_ (x'), i_ 0, i_ 1, i_ 0, i_ 0, i_ 1, i_ 2, i_ 1]) (st' := [(.int 2), (.int 1)]) rfl ?_
          refine brI X19 hby d_code_413 (pc1 := 432) (by decide) (fun hl => ?_) (fun hl => absurd (leF hl) (by decide))
          refine blk X19 hby b421 (pc' := 435) (Ls' := #[i_ p1, i_ p2, i_ p3, i_ p4, i_ p5, i_ 2, i_ y1, i_ y2, i_ y3, i_ y4, r_ (h4.size), r_ (h9.size), r_ (h12.size), r_ (x'), i_ 0, i_ 1, i_ 0, i_ 0, i_ 1, i_ 2, i_ 1]) (st' := [(.int 3), (.int 1)]) rfl ?_
          refine brI X19 hby d_code_435 (pc1 := 454) (by decide) (fun hl => ?_) (fun hl => absurd (leF hl) (by decide))
          refine blk X19 hby b422 (pc' := 459) (Ls' := #[i_ p1, i_ p2, i_ p3, i_ p4, i_ p5, i_ 2, i_ y1, i_ y2, i_ y3, i_ y4, r_ (h4.size), r_ (h9.size), r_ (h12.size), r_ (x'), i_ 0, i_ 1, i_ 0, i_ 0, i_ 1, i_ 2, i_ 1]) (st' := [(.int 1)]) rfl ?_
          exact retI' X19 hby hret d_code_459 rfl (fun S' hS' => rfl)
        · skip
          have wj0 : wsB y1 = true := g4 0 (by decide)
          rw [wj0] at hv0
          replace hv0 : v0' = (0 : Int32) := hv0
          subst hv0
          have wj1 : wsB y2 = true := g4 1 (by decide)
          rw [wj1] at hv1
          replace hv1 : v1' = (0 : Int32) := hv1
          subst hv1
          show Go _ _ _ _ (T17.setTop (mkF m 270 #[i_ p1, i_ p2, i_ p3, i_ p4, i_ p5, i_ 2, i_ y1, i_ y2, i_ y3, i_ y4, r_ (h4.size), r_ (h9.size), r_ (h12.size), r_ (x'), i_ 0, i_ 0, i_ 0, i_ 0, u_, u_, u_] []))
          refine blk X17 hby b423 (pc' := 272) (Ls' := #[i_ p1, i_ p2, i_ p3, i_ p4, i_ p5, i_ 2, i_ y1, i_ y2, i_ y3, i_ y4, r_ (h4.size), r_ (h9.size), r_ (h12.size), r_ (x'), i_ 0, i_ 0, i_ 0, i_ 0, u_, u_, u_]) (st' := [(.int 0)]) rfl ?_
          refine br0 X17 hby d_code_272 (pc1 := 279) (by decide) (fun hl => ?_) (fun hl => absurd (eqF hl) (fun q => q rfl))
          refine blk X17 hby b424 (pc' := 281) (Ls' := #[i_ p1, i_ p2, i_ p3, i_ p4, i_ p5, i_ 2, i_ y1, i_ y2, i_ y3, i_ y4, r_ (h4.size), r_ (h9.size), r_ (h12.size), r_ (x'), i_ 0, i_ 0, i_ 0, i_ 0, u_, u_, u_]) (st' := [(.int 0)]) rfl ?_
          refine br0 X17 hby d_code_281 (pc1 := 288) (by decide) (fun hl => ?_) (fun hl => absurd (eqF hl) (fun q => q rfl))
          refine blk X17 hby b425 (pc' := 290) (Ls' := #[i_ p1, i_ p2, i_ p3, i_ p4, i_ p5, i_ 2, i_ y1, i_ y2, i_ y3, i_ y4, r_ (h4.size), r_ (h9.size), r_ (h12.size), r_ (x'), i_ 0, i_ 0, i_ 0, i_ 0, u_, u_, u_]) (st' := [(.int 0)]) rfl ?_
          refine br0 X17 hby d_code_290 (pc1 := 297) (by decide) (fun hl => ?_) (fun hl => absurd (eqF hl) (fun q => q rfl))
          refine blk X17 hby b426 (pc' := 299) (Ls' := #[i_ p1, i_ p2, i_ p3, i_ p4, i_ p5, i_ 2, i_ y1, i_ y2, i_ y3, i_ y4, r_ (h4.size), r_ (h9.size), r_ (h12.size), r_ (x'), i_ 0, i_ 0, i_ 0, i_ 0, u_, u_, u_]) (st' := [(.int 0)]) rfl ?_
          refine br0 X17 hby d_code_299 (pc1 := 306) (by decide) (fun hl => ?_) (fun hl => absurd (eqF hl) (fun q => q rfl))
          refine blk X17 hby b427 (pc' := 312) (Ls' := #[i_ p1, i_ p2, i_ p3, i_ p4, i_ p5, i_ 2, i_ y1, i_ y2, i_ y3, i_ y4, r_ (h4.size), r_ (h9.size), r_ (h12.size), r_ (x'), i_ 0, i_ 0, i_ 0, i_ 0, i_ 2, u_, u_]) (st' := [(.int 0)]) rfl ?_
          refine br0 X17 hby d_code_312 (pc1 := 319) (by decide) (fun hl => ?_) (fun hl => absurd (eqF hl) (fun q => q rfl))
          refine blk X17 hby b428 (pc' := 321) (Ls' := #[i_ p1, i_ p2, i_ p3, i_ p4, i_ p5, i_ 2, i_ y1, i_ y2, i_ y3, i_ y4, r_ (h4.size), r_ (h9.size), r_ (h12.size), r_ (x'), i_ 0, i_ 0, i_ 0, i_ 0, i_ 2, u_, u_]) (st' := [(.int 0)]) rfl ?_
          refine br0 X17 hby d_code_321 (pc1 := 328) (by decide) (fun hl => ?_) (fun hl => absurd (eqF hl) (fun q => q rfl))
          refine blk X17 hby b429 (pc' := 330) (Ls' := #[i_ p1, i_ p2, i_ p3, i_ p4, i_ p5, i_ 2, i_ y1, i_ y2, i_ y3, i_ y4, r_ (h4.size), r_ (h9.size), r_ (h12.size), r_ (x'), i_ 0, i_ 0, i_ 0, i_ 0, i_ 2, u_, u_]) (st' := [(.int 0)]) rfl ?_
          refine br0 X17 hby d_code_330 (pc1 := 337) (by decide) (fun hl => ?_) (fun hl => absurd (eqF hl) (fun q => q rfl))
          refine blk X17 hby b430 (pc' := 339) (Ls' := #[i_ p1, i_ p2, i_ p3, i_ p4, i_ p5, i_ 2, i_ y1, i_ y2, i_ y3, i_ y4, r_ (h4.size), r_ (h9.size), r_ (h12.size), r_ (x'), i_ 0, i_ 0, i_ 0, i_ 0, i_ 2, u_, u_]) (st' := [(.int 0)]) rfl ?_
          refine br0 X17 hby d_code_339 (pc1 := 346) (by decide) (fun hl => ?_) (fun hl => absurd (eqF hl) (fun q => q rfl))
          refine blk X17 hby b431 (pc' := 359) (Ls' := #[i_ p1, i_ p2, i_ p3, i_ p4, i_ p5, i_ 2, i_ y1, i_ y2, i_ y3, i_ y4, r_ (h4.size), r_ (h9.size), r_ (h12.size), r_ (x'), i_ 0, i_ 0, i_ 0, i_ 0, i_ 2, i_ 2, i_ ((2 : Int32) - (2 : Int32))]) (st' := [(.ref (x'))]) rfl ?_
          show Go _ _ _ _ (T17.setTop (mkF m 359 #[i_ p1, i_ p2, i_ p3, i_ p4, i_ p5, i_ 2, i_ y1, i_ y2, i_ y3, i_ y4, r_ (h4.size), r_ (h9.size), r_ (h12.size), r_ (x'), i_ 0, i_ 0, i_ 0, i_ 0, i_ 2, i_ 2, i_ 0] [(.ref (x'))]))
          refine gVirt X17 hby (argsL := []) (st := []) (ct_len hw hEL X17.old U hx') hx'.1 (hw _ (List.mem_of_getElem? (i := 59) rfl)) (hw _ (List.mem_of_getElem? (i := 35) rfl)) (hw _ (List.mem_of_getElem? (i := 37) rfl)) (hw _ (List.mem_of_getElem? (i := 36) rfl)) (hw _ (List.mem_of_getElem? (i := 11) rfl)) (hw _ (List.mem_of_getElem? (i := 38) rfl)) pd___I rfl d_code_359 rfl (by rw [hml]; rfl) all0 (by decide) (Nat.le_of_ble_eq_true rfl) (by decide) (by decide) (fun v18 T18 h18 S18 X18 q18 sS18 sz18 => ?_)
          obtain ⟨rfl, rfl⟩ := q18
          show Go _ _ _ _ (T18.setTop (mkF m 362 #[i_ p1, i_ p2, i_ p3, i_ p4, i_ p5, i_ 2, i_ y1, i_ y2, i_ y3, i_ y4, r_ (h4.size), r_ (h9.size), r_ (h12.size), r_ (x'), i_ 0, i_ 0, i_ 0, i_ 0, i_ 2, i_ 2, i_ 0] [(.int (Int32.ofNat (([y1, y2].drop 2).take (2 - 2)).length))]))
          show Go _ _ _ _ (T18.setTop (mkF m 362 #[i_ p1, i_ p2, i_ p3, i_ p4, i_ p5, i_ 2, i_ y1, i_ y2, i_ y3, i_ y4, r_ (h4.size), r_ (h9.size), r_ (h12.size), r_ (x'), i_ 0, i_ 0, i_ 0, i_ 0, i_ 2, i_ 2, i_ 0] [(.int 0)]))
          refine blk X18 hby b432 (pc' := 364) (Ls' := #[i_ p1, i_ p2, i_ p3, i_ p4, i_ p5, i_ 2, i_ y1, i_ y2, i_ y3, i_ y4, r_ (h4.size), r_ (h9.size), r_ (h12.size), r_ (x'), i_ 0, i_ 0, i_ 0, i_ 0, i_ 2, i_ 2, i_ 0]) (st' := [(.int 0), (.int 0)]) rfl ?_
          refine brI X18 hby d_code_364 (pc1 := 369) (by decide) (fun hl => ?_) (fun hl => absurd (eqF hl) (fun q => q rfl))
          refine blk X18 hby b433 (pc' := 371) (Ls' := #[i_ p1, i_ p2, i_ p3, i_ p4, i_ p5, i_ 2, i_ y1, i_ y2, i_ y3, i_ y4, r_ (h4.size), r_ (h9.size), r_ (h12.size), r_ (x'), i_ 0, i_ 0, i_ 0, i_ 0, i_ 2, i_ 2, i_ 0]) (st' := [(.int 0)]) rfl ?_
          refine br0 X18 hby d_code_371 (pc1 := 388) (by decide) (fun hl => ?_) (fun hl => absurd (leF hl) (by decide))
          refine blk X18 hby b434 (pc' := 391) (Ls' := #[i_ p1, i_ p2, i_ p3, i_ p4, i_ p5, i_ 2, i_ y1, i_ y2, i_ y3, i_ y4, r_ (h4.size), r_ (h9.size), r_ (h12.size), r_ (x'), i_ 0, i_ 0, i_ 0, i_ 0, i_ 2, i_ 2, i_ 0]) (st' := [(.int 1), (.int 0)]) rfl ?_
          refine brI X18 hby d_code_391 (pc1 := 410) (by decide) (fun hl => ?_) (fun hl => absurd (leF hl) (by decide))
          refine blk X18 hby b435 (pc' := 413) (Ls' := #[i_ p1, i_ p2, i_ p3, i_ p4, i_ p5, i_ 2, i_ y1, i_ y2, i_ y3, i_ y4, r_ (h4.size), r_ (h9.size), r_ (h12.size), r_ (x'), i_ 0, i_ 0, i_ 0, i_ 0, i_ 2, i_ 2, i_ 0]) (st' := [(.int 2), (.int 0)]) rfl ?_
          refine brI X18 hby d_code_413 (pc1 := 432) (by decide) (fun hl => ?_) (fun hl => absurd (leF hl) (by decide))
          refine blk X18 hby b436 (pc' := 435) (Ls' := #[i_ p1, i_ p2, i_ p3, i_ p4, i_ p5, i_ 2, i_ y1, i_ y2, i_ y3, i_ y4, r_ (h4.size), r_ (h9.size), r_ (h12.size), r_ (x'), i_ 0, i_ 0, i_ 0, i_ 0, i_ 2, i_ 2, i_ 0]) (st' := [(.int 3), (.int 0)]) rfl ?_
          refine brI X18 hby d_code_435 (pc1 := 454) (by decide) (fun hl => ?_) (fun hl => absurd (leF hl) (by decide))
          refine blk X18 hby b437 (pc' := 459) (Ls' := #[i_ p1, i_ p2, i_ p3, i_ p4, i_ p5, i_ 2, i_ y1, i_ y2, i_ y3, i_ y4, r_ (h4.size), r_ (h9.size), r_ (h12.size), r_ (x'), i_ 0, i_ 0, i_ 0, i_ 0, i_ 2, i_ 2, i_ 0]) (st' := [(.int 1)]) rfl ?_
          exact retI' X18 hby hret d_code_459 rfl (fun S' hS' => rfl)
      skip
      refine br0 X17 hby d_code_218 (pc1 := 225) (by decide) (fun hw1 => ?_) (fun hw1 => ?_)
      · replace hw1 := neT hw1
        refine blk X17 hby b438 (pc' := 226) (Ls' := #[i_ p1, i_ p2, i_ p3, i_ p4, i_ p5, i_ 2, i_ y1, i_ y2, i_ y3, i_ y4, r_ (h4.size), r_ (h9.size), r_ (h12.size), r_ (x'), i_ (v0'), u_, u_, u_, u_, u_, u_]) (st' := [(.int 0)]) rfl ?_
        exact nx1 _ (by rw [if_pos (by simpa using fun q => hw1 (ite10.mpr q))])
      · replace hw1 := neF hw1
        refine blk X17 hby b439 (pc' := 226) (Ls' := #[i_ p1, i_ p2, i_ p3, i_ p4, i_ p5, i_ 2, i_ y1, i_ y2, i_ y3, i_ y4, r_ (h4.size), r_ (h9.size), r_ (h12.size), r_ (x'), i_ (v0'), u_, u_, u_, u_, u_, u_]) (st' := [(.int 1)]) rfl ?_
        exact nx1 _ (by rw [ite10.mp hw1]; rfl)
    skip
    refine br0 X16 hby d_code_197 (pc1 := 204) (by decide) (fun hw0 => ?_) (fun hw0 => ?_)
    · replace hw0 := neT hw0
      refine blk X16 hby b440 (pc' := 205) (Ls' := #[i_ p1, i_ p2, i_ p3, i_ p4, i_ p5, i_ 2, i_ y1, i_ y2, i_ y3, i_ y4, r_ (h4.size), r_ (h9.size), r_ (h12.size), r_ (x'), u_, u_, u_, u_, u_, u_, u_]) (st' := [(.int 0)]) rfl ?_
      exact nx0 _ (by rw [if_pos (by simpa using fun q => hw0 (ite10.mpr q))])
    · replace hw0 := neF hw0
      refine blk X16 hby b441 (pc' := 205) (Ls' := #[i_ p1, i_ p2, i_ p3, i_ p4, i_ p5, i_ 2, i_ y1, i_ y2, i_ y3, i_ y4, r_ (h4.size), r_ (h9.size), r_ (h12.size), r_ (x'), u_, u_, u_, u_, u_, u_, u_]) (st' := [(.int 1)]) rfl ?_
      exact nx0 _ (by rw [ite10.mp hw0]; rfl)
  · rw [hq]
    show Go _ _ _ _ (T9.setTop (mkF m 58 #[i_ p1, i_ p2, i_ p3, i_ p4, i_ p5, i_ 3, i_ y1, i_ y2, i_ y3, i_ y4, r_ (h4.size), u_, u_, u_, u_, u_, u_, u_, u_, u_, u_] []))
    refine blk X9 hby b442 (pc' := 60) (Ls' := #[i_ p1, i_ p2, i_ p3, i_ p4, i_ p5, i_ 3, i_ y1, i_ y2, i_ y3, i_ y4, r_ (h4.size), u_, u_, u_, u_, u_, u_, u_, u_, u_, u_]) (st' := [(.int 3)]) rfl ?_
    refine br0 X9 hby d_code_60 (pc1 := 71) (by decide) (fun hn => ?_) (fun hn => absurd (neF hn) (by decide))
    refine blk X9 hby b443 (pc' := 74) (Ls' := #[i_ p1, i_ p2, i_ p3, i_ p4, i_ p5, i_ 3, i_ y1, i_ y2, i_ y3, i_ y4, r_ (h4.size), u_, u_, u_, u_, u_, u_, u_, u_, u_, u_]) (st' := [(.int 1), (.int 3)]) rfl ?_
    refine brI X9 hby d_code_74 (pc1 := 90) (by decide) (fun hn => ?_) (fun hn => absurd (neF hn) (by decide))
    refine blk X9 hby b444 (pc' := 93) (Ls' := #[i_ p1, i_ p2, i_ p3, i_ p4, i_ p5, i_ 3, i_ y1, i_ y2, i_ y3, i_ y4, r_ (h4.size), u_, u_, u_, u_, u_, u_, u_, u_, u_, u_]) (st' := [(.int 2), (.int 3)]) rfl ?_
    refine brI X9 hby d_code_93 (pc1 := 114) (by decide) (fun hn => ?_) (fun hn => absurd (neF hn) (by decide))
    refine blk X9 hby b445 (pc' := 117) (Ls' := #[i_ p1, i_ p2, i_ p3, i_ p4, i_ p5, i_ 3, i_ y1, i_ y2, i_ y3, i_ y4, r_ (h4.size), u_, u_, u_, u_, u_, u_, u_, u_, u_, u_]) (st' := [(.int 3), (.int 3)]) rfl ?_
    refine brI X9 hby d_code_117 (pc1 := 143) (by decide) (fun hn => absurd (neT hn) (fun q => q rfl)) (fun hn => ?_)
    refine blk X9 hby b446 (pc' := 121) (Ls' := #[i_ p1, i_ p2, i_ p3, i_ p4, i_ p5, i_ 3, i_ y1, i_ y2, i_ y3, i_ y4, r_ (h4.size), u_, u_, u_, u_, u_, u_, u_, u_, u_, u_]) (st' := [(.int 3)]) rfl ?_
    refine gNewA X9 hby (aty := .char) (hw _ (List.mem_of_getElem? (i := 8) rfl)) d_code_121 rfl (N := 3) (cap := 3) rfl (by decide) (by decide) (by decide) (by decide) (fun T10 h10 S10 X10 E10 V10 sS10 sn10 => ?_)
    have ga : Z.heap.size ≤ h9.size := X9.old.2.1
    have hV : Ari Z h10 h9.size .char (List.replicate 3 0) := V10
    have hsa : S10 h9.size := sn10
    have hVlt := hVc.lt
    replace hVc := hVc.ext E10
    have nca : h4.size ≠ h9.size := Nat.ne_of_lt hVlt
    refine blk X10 hby b447 (pc' := 127) (Ls' := #[i_ p1, i_ p2, i_ p3, i_ p4, i_ p5, i_ 3, i_ y1, i_ y2, i_ y3, i_ y4, r_ (h4.size), u_, u_, u_, u_, u_, u_, u_, u_, u_, u_]) (st' := [(.int y1), (.int 0), (.ref (h9.size)), (.ref (h9.size))]) rfl ?_
    refine gSt X10 hby hV (Or.inr (Or.inl ⟨rfl, rfl⟩)) d_code_127 (i := 0) rfl (Nat.le_of_ble_eq_true rfl) (fits_nar_char _) ga hsa (fun T11 h11 S11 X11 W11 V11 sS11 => ?_)
    rw [nar_char hr1] at V11
    replace hV := V11; replace hsa := sS11 _ hsa; replace hVc := hVc.other W11 nca
    refine blk X11 hby b448 (pc' := 132) (Ls' := #[i_ p1, i_ p2, i_ p3, i_ p4, i_ p5, i_ 3, i_ y1, i_ y2, i_ y3, i_ y4, r_ (h4.size), u_, u_, u_, u_, u_, u_, u_, u_, u_, u_]) (st' := [(.int y2), (.int 1), (.ref (h9.size)), (.ref (h9.size))]) rfl ?_
    refine gSt X11 hby hV (Or.inr (Or.inl ⟨rfl, rfl⟩)) d_code_132 (i := 1) rfl (Nat.le_of_ble_eq_true rfl) (fits_nar_char _) ga hsa (fun T12 h12 S12 X12 W12 V12 sS12 => ?_)
    rw [nar_char hr2] at V12
    replace hV := V12; replace hsa := sS12 _ hsa; replace hVc := hVc.other W12 nca
    refine blk X12 hby b449 (pc' := 137) (Ls' := #[i_ p1, i_ p2, i_ p3, i_ p4, i_ p5, i_ 3, i_ y1, i_ y2, i_ y3, i_ y4, r_ (h4.size), u_, u_, u_, u_, u_, u_, u_, u_, u_, u_]) (st' := [(.int y3), (.int 2), (.ref (h9.size)), (.ref (h9.size))]) rfl ?_
    refine gSt X12 hby hV (Or.inr (Or.inl ⟨rfl, rfl⟩)) d_code_137 (i := 2) rfl (Nat.le_of_ble_eq_true rfl) (fits_nar_char _) ga hsa (fun T13 h13 S13 X13 W13 V13 sS13 => ?_)
    rw [nar_char hr3] at V13
    replace hV := V13; replace hsa := sS13 _ hsa; replace hVc := hVc.other W13 nca
    replace hV : Ari Z h13 h9.size .char [y1, y2, y3] := hV
    refine blk X13 hby b450 (pc' := 168) (Ls' := #[i_ p1, i_ p2, i_ p3, i_ p4, i_ p5, i_ 3, i_ y1, i_ y2, i_ y3, i_ y4, r_ (h4.size), r_ (h9.size), u_, u_, u_, u_, u_, u_, u_, u_, u_]) (st' := []) rfl ?_
    refine gNew X13 hby (hw _ (List.mem_of_getElem? (i := 9) rfl)) (hw _ (List.mem_of_getElem? (i := 10) rfl)) (hw _ (List.mem_of_getElem? (i := 11) rfl)) d_code_168 (by decide) (by decide) (fun T14 h14 S14 X14 E14 A14 D14 M14 sS14 sn14 => ?_)
    refine blk X14 hby b451 (pc' := 174) (Ls' := #[i_ p1, i_ p2, i_ p3, i_ p4, i_ p5, i_ 3, i_ y1, i_ y2, i_ y3, i_ y4, r_ (h4.size), r_ (h9.size), u_, u_, u_, u_, u_, u_, u_, u_, u_]) (st' := [(.ref (h9.size)), (.ref (h13.size)), (.ref (h13.size))]) rfl ?_
    refine gInit X14 hby (argsL := [(.ref (h9.size))]) (st := [(.ref (h13.size))]) (ct_init1 hw hEL X14.old U A14 (D14 (O := "java/lang/String") (nm := "value") (d := "[B") (Or.inr (hw _ (List.mem_of_getElem? (i := 24) rfl))) (ty := .array .byte) (by decide)) (D14 (O := "java/lang/String") (nm := "coder") (d := "B") (Or.inr (hw _ (List.mem_of_getElem? (i := 25) rfl))) (ty := .byte) (by decide)) (hV.ext E14) X13.old.2.1 (Nat.le_of_ble_eq_true rfl)) rfl (hw _ (List.mem_of_getElem? (i := 12) rfl)) (hw _ (List.mem_of_getElem? (i := 13) rfl)) (hw _ (List.mem_of_getElem? (i := 11) rfl)) (hw _ (List.mem_of_getElem? (i := 14) rfl)) pd___C_V rfl d_code_174 rfl (by rw [hml]; rfl) (allS sn14 all0) (by decide) (Nat.le_of_ble_eq_true rfl) (by decide) (by decide) (fun v15 T15 h15 S15 X15 q15 sS15 sz15 => ?_)
    obtain ⟨rfl, u1, b, hx, -⟩ := q15
    have hVd : Ari Z h15 h4.size .char [y1, y2, y3, y4] := (hVc.ext E14).keep u1 (fun z => by rw [List.mem_singleton] at z; exact absurd hVc.lt (by rw [z]; exact Nat.lt_irrefl _))
    show Go _ _ _ _ (T15.setTop (mkF m 177 #[i_ p1, i_ p2, i_ p3, i_ p4, i_ p5, i_ 3, i_ y1, i_ y2, i_ y3, i_ y4, r_ (h4.size), r_ (h9.size), u_, u_, u_, u_, u_, u_, u_, u_, u_] [(.ref (h13.size))]))
    refine blk X15 hby b452 (pc' := 181) (Ls' := #[i_ p1, i_ p2, i_ p3, i_ p4, i_ p5, i_ 3, i_ y1, i_ y2, i_ y3, i_ y4, r_ (h4.size), r_ (h9.size), r_ (h13.size), u_, u_, u_, u_, u_, u_, u_, u_]) (st' := [(.ref (h13.size))]) rfl ?_
    refine gStatic X15 hby (argsL := [(.ref (h13.size))]) (st := []) (ct_ent hw hEL X15.old U hFM hfm hx (Nat.le_of_ble_eq_true rfl)) (hw _ (List.mem_of_getElem? (i := 30) rfl)) (hw _ (List.mem_of_getElem? (i := 31) rfl)) (hw _ (List.mem_of_getElem? (i := 32) rfl)) (hw _ (List.mem_of_getElem? (i := 33) rfl)) pd__Ljava_lang_String__Ljava_lang_String_ rfl d_code_181 rfl (by rw [hml]; rfl) all0 (by decide) (Nat.le_of_ble_eq_true rfl) (by decide) (by decide) (fun v16 T16 h16 S16 X16 q16 sS16 sz16 => ?_)
    obtain ⟨i, k, x', b', rfl, g1, g2, g3, g4, g5, g6, g7, hx', K'⟩ := q16
    replace hVd := hVd.keep K' nin0
    show Go _ _ _ _ (T16.setTop (mkF m 184 #[i_ p1, i_ p2, i_ p3, i_ p4, i_ p5, i_ 3, i_ y1, i_ y2, i_ y3, i_ y4, r_ (h4.size), r_ (h9.size), r_ (h13.size), u_, u_, u_, u_, u_, u_, u_, u_] [(.ref (x'))]))
    replace g2 : k ≤ 3 := g2; replace g3 : i < 3 → i < k := g3; replace g5 : i < 3 → wsB ([y1, y2, y3].getD i 0) = false := g5; replace g6 : ∀ j, k ≤ j → j < 3 → wsB ([y1, y2, y3].getD j 0) = true := g6
    refine blk X16 hby b453 (pc' := 189) (Ls' := #[i_ p1, i_ p2, i_ p3, i_ p4, i_ p5, i_ 3, i_ y1, i_ y2, i_ y3, i_ y4, r_ (h4.size), r_ (h9.size), r_ (h13.size), r_ (x'), u_, u_, u_, u_, u_, u_, u_]) (st' := [(.int 3), (.int 0)]) rfl ?_
    refine brI X16 hby d_code_189 (pc1 := 204) (by decide) (fun hj0 => absurd (geT hj0) (fun q => q (by decide))) (fun hj0 => ?_)
    refine blk X16 hby b454 (pc' := 194) (Ls' := #[i_ p1, i_ p2, i_ p3, i_ p4, i_ p5, i_ 3, i_ y1, i_ y2, i_ y3, i_ y4, r_ (h4.size), r_ (h9.size), r_ (h13.size), r_ (x'), u_, u_, u_, u_, u_, u_, u_]) (st' := [(.int y1)]) rfl ?_
    refine gStatic X16 hby (argsL := [(.int y1)]) (st := []) (ct_isws hw hEL X16.old) (hw _ (List.mem_of_getElem? (i := 118) rfl)) (hw _ (List.mem_of_getElem? (i := 119) rfl)) (hw _ (List.mem_of_getElem? (i := 3) rfl)) (hw _ (List.mem_of_getElem? (i := 120) rfl)) pd__C_Z rfl d_code_194 rfl (by rw [hml]; rfl) all0 (by decide) (Nat.le_of_ble_eq_true rfl) (by decide) (by decide) (fun v17 T17 h17 S17 X17 q17 sS17 sz17 => ?_)
    obtain ⟨rfl, rfl⟩ := q17
    show Go _ _ _ _ (T17.setTop (mkF m 197 #[i_ p1, i_ p2, i_ p3, i_ p4, i_ p5, i_ 3, i_ y1, i_ y2, i_ y3, i_ y4, r_ (h4.size), r_ (h9.size), r_ (h13.size), r_ (x'), u_, u_, u_, u_, u_, u_, u_] [(.int (if wsB y1 = true then 1 else 0))]))
    have nx0 : ∀ v0' : Int32, v0' = (if wsB y1 = true then 0 else 1) → Go p e below (Pst true Z EL room_1.cells room_1.slots (QL) s) (T17.setTop (mkF m 205 #[i_ p1, i_ p2, i_ p3, i_ p4, i_ p5, i_ 3, i_ y1, i_ y2, i_ y3, i_ y4, r_ (h4.size), r_ (h9.size), r_ (h13.size), r_ (x'), u_, u_, u_, u_, u_, u_, u_] [.int v0'])) := by
      intro v0' hv0
      refine blk X17 hby b455 (pc' := 207) (Ls' := #[i_ p1, i_ p2, i_ p3, i_ p4, i_ p5, i_ 3, i_ y1, i_ y2, i_ y3, i_ y4, r_ (h4.size), r_ (h9.size), r_ (h13.size), r_ (x'), i_ (v0'), u_, u_, u_, u_, u_, u_]) (st' := []) rfl ?_
      refine blk X17 hby b456 (pc' := 210) (Ls' := #[i_ p1, i_ p2, i_ p3, i_ p4, i_ p5, i_ 3, i_ y1, i_ y2, i_ y3, i_ y4, r_ (h4.size), r_ (h9.size), r_ (h13.size), r_ (x'), i_ (v0'), u_, u_, u_, u_, u_, u_]) (st' := [(.int 3), (.int 1)]) rfl ?_
      refine brI X17 hby d_code_210 (pc1 := 225) (by decide) (fun hj1 => absurd (geT hj1) (fun q => q (by decide))) (fun hj1 => ?_)
      refine blk X17 hby b457 (pc' := 215) (Ls' := #[i_ p1, i_ p2, i_ p3, i_ p4, i_ p5, i_ 3, i_ y1, i_ y2, i_ y3, i_ y4, r_ (h4.size), r_ (h9.size), r_ (h13.size), r_ (x'), i_ (v0'), u_, u_, u_, u_, u_, u_]) (st' := [(.int y2)]) rfl ?_
      refine gStatic X17 hby (argsL := [(.int y2)]) (st := []) (ct_isws hw hEL X17.old) (hw _ (List.mem_of_getElem? (i := 118) rfl)) (hw _ (List.mem_of_getElem? (i := 119) rfl)) (hw _ (List.mem_of_getElem? (i := 3) rfl)) (hw _ (List.mem_of_getElem? (i := 120) rfl)) pd__C_Z rfl d_code_215 rfl (by rw [hml]; rfl) all0 (by decide) (Nat.le_of_ble_eq_true rfl) (by decide) (by decide) (fun v18 T18 h18 S18 X18 q18 sS18 sz18 => ?_)
      obtain ⟨rfl, rfl⟩ := q18
      show Go _ _ _ _ (T18.setTop (mkF m 218 #[i_ p1, i_ p2, i_ p3, i_ p4, i_ p5, i_ 3, i_ y1, i_ y2, i_ y3, i_ y4, r_ (h4.size), r_ (h9.size), r_ (h13.size), r_ (x'), i_ (v0'), u_, u_, u_, u_, u_, u_] [(.int (if wsB y2 = true then 1 else 0))]))
      have nx1 : ∀ v1' : Int32, v1' = (if wsB y2 = true then 0 else 1) → Go p e below (Pst true Z EL room_1.cells room_1.slots (QL) s) (T18.setTop (mkF m 226 #[i_ p1, i_ p2, i_ p3, i_ p4, i_ p5, i_ 3, i_ y1, i_ y2, i_ y3, i_ y4, r_ (h4.size), r_ (h9.size), r_ (h13.size), r_ (x'), i_ (v0'), u_, u_, u_, u_, u_, u_] [.int v1'])) := by
        intro v1' hv1
        refine blk X18 hby b458 (pc' := 228) (Ls' := #[i_ p1, i_ p2, i_ p3, i_ p4, i_ p5, i_ 3, i_ y1, i_ y2, i_ y3, i_ y4, r_ (h4.size), r_ (h9.size), r_ (h13.size), r_ (x'), i_ (v0'), i_ (v1'), u_, u_, u_, u_, u_]) (st' := []) rfl ?_
        refine blk X18 hby b459 (pc' := 231) (Ls' := #[i_ p1, i_ p2, i_ p3, i_ p4, i_ p5, i_ 3, i_ y1, i_ y2, i_ y3, i_ y4, r_ (h4.size), r_ (h9.size), r_ (h13.size), r_ (x'), i_ (v0'), i_ (v1'), u_, u_, u_, u_, u_]) (st' := [(.int 3), (.int 2)]) rfl ?_
        refine brI X18 hby d_code_231 (pc1 := 246) (by decide) (fun hj2 => absurd (geT hj2) (fun q => q (by decide))) (fun hj2 => ?_)
        refine blk X18 hby b460 (pc' := 236) (Ls' := #[i_ p1, i_ p2, i_ p3, i_ p4, i_ p5, i_ 3, i_ y1, i_ y2, i_ y3, i_ y4, r_ (h4.size), r_ (h9.size), r_ (h13.size), r_ (x'), i_ (v0'), i_ (v1'), u_, u_, u_, u_, u_]) (st' := [(.int y3)]) rfl ?_
        refine gStatic X18 hby (argsL := [(.int y3)]) (st := []) (ct_isws hw hEL X18.old) (hw _ (List.mem_of_getElem? (i := 118) rfl)) (hw _ (List.mem_of_getElem? (i := 119) rfl)) (hw _ (List.mem_of_getElem? (i := 3) rfl)) (hw _ (List.mem_of_getElem? (i := 120) rfl)) pd__C_Z rfl d_code_236 rfl (by rw [hml]; rfl) all0 (by decide) (Nat.le_of_ble_eq_true rfl) (by decide) (by decide) (fun v19 T19 h19 S19 X19 q19 sS19 sz19 => ?_)
        obtain ⟨rfl, rfl⟩ := q19
        show Go _ _ _ _ (T19.setTop (mkF m 239 #[i_ p1, i_ p2, i_ p3, i_ p4, i_ p5, i_ 3, i_ y1, i_ y2, i_ y3, i_ y4, r_ (h4.size), r_ (h9.size), r_ (h13.size), r_ (x'), i_ (v0'), i_ (v1'), u_, u_, u_, u_, u_] [(.int (if wsB y3 = true then 1 else 0))]))
        have nx2 : ∀ v2' : Int32, v2' = (if wsB y3 = true then 0 else 1) → Go p e below (Pst true Z EL room_1.cells room_1.slots (QL) s) (T19.setTop (mkF m 247 #[i_ p1, i_ p2, i_ p3, i_ p4, i_ p5, i_ 3, i_ y1, i_ y2, i_ y3, i_ y4, r_ (h4.size), r_ (h9.size), r_ (h13.size), r_ (x'), i_ (v0'), i_ (v1'), u_, u_, u_, u_, u_] [.int v2'])) := by
          intro v2' hv2
          refine blk X19 hby b461 (pc' := 249) (Ls' := #[i_ p1, i_ p2, i_ p3, i_ p4, i_ p5, i_ 3, i_ y1, i_ y2, i_ y3, i_ y4, r_ (h4.size), r_ (h9.size), r_ (h13.size), r_ (x'), i_ (v0'), i_ (v1'), i_ (v2'), u_, u_, u_, u_]) (st' := []) rfl ?_
          refine blk X19 hby b462 (pc' := 252) (Ls' := #[i_ p1, i_ p2, i_ p3, i_ p4, i_ p5, i_ 3, i_ y1, i_ y2, i_ y3, i_ y4, r_ (h4.size), r_ (h9.size), r_ (h13.size), r_ (x'), i_ (v0'), i_ (v1'), i_ (v2'), u_, u_, u_, u_]) (st' := [(.int 3), (.int 3)]) rfl ?_
          refine brI X19 hby d_code_252 (pc1 := 267) (by decide) (fun hj3 => ?_) (fun hj3 => absurd (geF hj3) (by decide))
          refine blk X19 hby b463 (pc' := 270) (Ls' := #[i_ p1, i_ p2, i_ p3, i_ p4, i_ p5, i_ 3, i_ y1, i_ y2, i_ y3, i_ y4, r_ (h4.size), r_ (h9.size), r_ (h13.size), r_ (x'), i_ (v0'), i_ (v1'), i_ (v2'), i_ 0, u_, u_, u_]) (st' := []) rfl ?_
          have hik : (i = 0 ∧ k = 1) ∨ (i = 0 ∧ k = 2) ∨ (i = 0 ∧ k = 3) ∨ (i = 1 ∧ k = 2) ∨ (i = 1 ∧ k = 3) ∨ (i = 2 ∧ k = 3) ∨ (i = 3 ∧ k = 3) := by omega
          rcases hik with ⟨rfl, rfl⟩ | ⟨rfl, rfl⟩ | ⟨rfl, rfl⟩ | ⟨rfl, rfl⟩ | ⟨rfl, rfl⟩ | ⟨rfl, rfl⟩ | ⟨rfl, rfl⟩
          · skip
            have wj0 : wsB y1 = false := g5 (by decide)
            rw [wj0] at hv0
            replace hv0 : v0' = (1 : Int32) := hv0
            subst hv0
            have wj1 : wsB y2 = true := g6 1 (by decide) (by decide)
            rw [wj1] at hv1
            replace hv1 : v1' = (0 : Int32) := hv1
            subst hv1
            have wj2 : wsB y3 = true := g6 2 (by decide) (by decide)
            rw [wj2] at hv2
            replace hv2 : v2' = (0 : Int32) := hv2
            subst hv2
            show Go _ _ _ _ (T19.setTop (mkF m 270 #[i_ p1, i_ p2, i_ p3, i_ p4, i_ p5, i_ 3, i_ y1, i_ y2, i_ y3, i_ y4, r_ (h4.size), r_ (h9.size), r_ (h13.size), r_ (x'), i_ 1, i_ 0, i_ 0, i_ 0, u_, u_, u_] []))
            refine blk X19 hby b464 (pc' := 272) (Ls' := #[i_ p1, i_ p2, i_ p3, i_ p4, i_ p5, i_ 3, i_ y1, i_ y2, i_ y3, i_ y4, r_ (h4.size), r_ (h9.size), r_ (h13.size), r_ (x'), i_ 1, i_ 0, i_ 0, i_ 0, u_, u_, u_]) (st' := [(.int 1)]) rfl ?_
            refine br0 X19 hby d_code_272 (pc1 := 279) (by decide) (fun hl => absurd (eqT hl) (by decide)) (fun hl => ?_)
            refine blk X19 hby b465 (pc' := 310) (Ls' := #[i_ p1, i_ p2, i_ p3, i_ p4, i_ p5, i_ 3, i_ y1, i_ y2, i_ y3, i_ y4, r_ (h4.size), r_ (h9.size), r_ (h13.size), r_ (x'), i_ 1, i_ 0, i_ 0, i_ 0, i_ 0, u_, u_]) (st' := []) rfl ?_
            refine blk X19 hby b466 (pc' := 312) (Ls' := #[i_ p1, i_ p2, i_ p3, i_ p4, i_ p5, i_ 3, i_ y1, i_ y2, i_ y3, i_ y4, r_ (h4.size), r_ (h9.size), r_ (h13.size), r_ (x'), i_ 1, i_ 0, i_ 0, i_ 0, i_ 0, u_, u_]) (st' := [(.int 0)]) rfl ?_
            refine br0 X19 hby d_code_312 (pc1 := 319) (by decide) (fun hl => ?_) (fun hl => absurd (eqF hl) (fun q => q rfl))
            refine blk X19 hby b467 (pc' := 321) (Ls' := #[i_ p1, i_ p2, i_ p3, i_ p4, i_ p5, i_ 3, i_ y1, i_ y2, i_ y3, i_ y4, r_ (h4.size), r_ (h9.size), r_ (h13.size), r_ (x'), i_ 1, i_ 0, i_ 0, i_ 0, i_ 0, u_, u_]) (st' := [(.int 0)]) rfl ?_
            refine br0 X19 hby d_code_321 (pc1 := 328) (by decide) (fun hl => ?_) (fun hl => absurd (eqF hl) (fun q => q rfl))
            refine blk X19 hby b468 (pc' := 330) (Ls' := #[i_ p1, i_ p2, i_ p3, i_ p4, i_ p5, i_ 3, i_ y1, i_ y2, i_ y3, i_ y4, r_ (h4.size), r_ (h9.size), r_ (h13.size), r_ (x'), i_ 1, i_ 0, i_ 0, i_ 0, i_ 0, u_, u_]) (st' := [(.int 0)]) rfl ?_
            refine br0 X19 hby d_code_330 (pc1 := 337) (by decide) (fun hl => ?_) (fun hl => absurd (eqF hl) (fun q => q rfl))
            refine blk X19 hby b469 (pc' := 339) (Ls' := #[i_ p1, i_ p2, i_ p3, i_ p4, i_ p5, i_ 3, i_ y1, i_ y2, i_ y3, i_ y4, r_ (h4.size), r_ (h9.size), r_ (h13.size), r_ (x'), i_ 1, i_ 0, i_ 0, i_ 0, i_ 0, u_, u_]) (st' := [(.int 1)]) rfl ?_
            refine br0 X19 hby d_code_339 (pc1 := 346) (by decide) (fun hl => absurd (eqT hl) (by decide)) (fun hl => ?_)
            refine blk X19 hby b470 (pc' := 359) (Ls' := #[i_ p1, i_ p2, i_ p3, i_ p4, i_ p5, i_ 3, i_ y1, i_ y2, i_ y3, i_ y4, r_ (h4.size), r_ (h9.size), r_ (h13.size), r_ (x'), i_ 1, i_ 0, i_ 0, i_ 0, i_ 0, i_ 1, i_ ((1 : Int32) - (0 : Int32))]) (st' := [(.ref (x'))]) rfl ?_
            show Go _ _ _ _ (T19.setTop (mkF m 359 #[i_ p1, i_ p2, i_ p3, i_ p4, i_ p5, i_ 3, i_ y1, i_ y2, i_ y3, i_ y4, r_ (h4.size), r_ (h9.size), r_ (h13.size), r_ (x'), i_ 1, i_ 0, i_ 0, i_ 0, i_ 0, i_ 1, i_ 1] [(.ref (x'))]))
            refine gVirt X19 hby (argsL := []) (st := []) (ct_len hw hEL X19.old U hx') hx'.1 (hw _ (List.mem_of_getElem? (i := 59) rfl)) (hw _ (List.mem_of_getElem? (i := 35) rfl)) (hw _ (List.mem_of_getElem? (i := 37) rfl)) (hw _ (List.mem_of_getElem? (i := 36) rfl)) (hw _ (List.mem_of_getElem? (i := 11) rfl)) (hw _ (List.mem_of_getElem? (i := 38) rfl)) pd___I rfl d_code_359 rfl (by rw [hml]; rfl) all0 (by decide) (Nat.le_of_ble_eq_true rfl) (by decide) (by decide) (fun v20 T20 h20 S20 X20 q20 sS20 sz20 => ?_)
            obtain ⟨rfl, rfl⟩ := q20
            show Go _ _ _ _ (T20.setTop (mkF m 362 #[i_ p1, i_ p2, i_ p3, i_ p4, i_ p5, i_ 3, i_ y1, i_ y2, i_ y3, i_ y4, r_ (h4.size), r_ (h9.size), r_ (h13.size), r_ (x'), i_ 1, i_ 0, i_ 0, i_ 0, i_ 0, i_ 1, i_ 1] [(.int (Int32.ofNat (([y1, y2, y3].drop 0).take (1 - 0)).length))]))
            show Go _ _ _ _ (T20.setTop (mkF m 362 #[i_ p1, i_ p2, i_ p3, i_ p4, i_ p5, i_ 3, i_ y1, i_ y2, i_ y3, i_ y4, r_ (h4.size), r_ (h9.size), r_ (h13.size), r_ (x'), i_ 1, i_ 0, i_ 0, i_ 0, i_ 0, i_ 1, i_ 1] [(.int 1)]))
            refine blk X20 hby b471 (pc' := 364) (Ls' := #[i_ p1, i_ p2, i_ p3, i_ p4, i_ p5, i_ 3, i_ y1, i_ y2, i_ y3, i_ y4, r_ (h4.size), r_ (h9.size), r_ (h13.size), r_ (x'), i_ 1, i_ 0, i_ 0, i_ 0, i_ 0, i_ 1, i_ 1]) (st' := [(.int 1), (.int 1)]) rfl ?_
            refine brI X20 hby d_code_364 (pc1 := 369) (by decide) (fun hl => ?_) (fun hl => absurd (eqF hl) (fun q => q rfl))
            refine blk X20 hby b472 (pc' := 371) (Ls' := #[i_ p1, i_ p2, i_ p3, i_ p4, i_ p5, i_ 3, i_ y1, i_ y2, i_ y3, i_ y4, r_ (h4.size), r_ (h9.size), r_ (h13.size), r_ (x'), i_ 1, i_ 0, i_ 0, i_ 0, i_ 0, i_ 1, i_ 1]) (st' := [(.int 1)]) rfl ?_
            refine br0 X20 hby d_code_371 (pc1 := 388) (by decide) (fun hl => absurd (leT hl) (fun q => q (by decide))) (fun hl => ?_)
            refine blk X20 hby b473 (pc' := 377) (Ls' := #[i_ p1, i_ p2, i_ p3, i_ p4, i_ p5, i_ 3, i_ y1, i_ y2, i_ y3, i_ y4, r_ (h4.size), r_ (h9.size), r_ (h13.size), r_ (x'), i_ 1, i_ 0, i_ 0, i_ 0, i_ 0, i_ 1, i_ 1]) (st' := [(.int 0), (.ref (x'))]) rfl ?_
            refine gVirt X20 hby (argsL := [(.int 0)]) (st := []) (ct_chr hw hEL X20.old U hFM hfm hx' (i := 0) (Nat.le_of_ble_eq_true rfl)) hx'.1 (hw _ (List.mem_of_getElem? (i := 121) rfl)) (hw _ (List.mem_of_getElem? (i := 71) rfl)) (hw _ (List.mem_of_getElem? (i := 73) rfl)) (hw _ (List.mem_of_getElem? (i := 72) rfl)) (hw _ (List.mem_of_getElem? (i := 11) rfl)) (hw _ (List.mem_of_getElem? (i := 74) rfl)) pd__I_C rfl d_code_377 rfl (by rw [hml]; rfl) all0 (by decide) (Nat.le_of_ble_eq_true rfl) (by decide) (by decide) (fun v21 T21 h21 S21 X21 q21 sS21 sz21 => ?_)
            obtain ⟨rfl, rfl⟩ := q21
            show Go _ _ _ _ (T21.setTop (mkF m 380 #[i_ p1, i_ p2, i_ p3, i_ p4, i_ p5, i_ 3, i_ y1, i_ y2, i_ y3, i_ y4, r_ (h4.size), r_ (h9.size), r_ (h13.size), r_ (x'), i_ 1, i_ 0, i_ 0, i_ 0, i_ 0, i_ 1, i_ 1] [(.int ((([y1, y2, y3].drop 0).take (1 - 0)).getD 0 0))]))
            show Go _ _ _ _ (T21.setTop (mkF m 380 #[i_ p1, i_ p2, i_ p3, i_ p4, i_ p5, i_ 3, i_ y1, i_ y2, i_ y3, i_ y4, r_ (h4.size), r_ (h9.size), r_ (h13.size), r_ (x'), i_ 1, i_ 0, i_ 0, i_ 0, i_ 0, i_ 1, i_ 1] [(.int y1)]))
            refine blk X21 hby b474 (pc' := 384) (Ls' := #[i_ p1, i_ p2, i_ p3, i_ p4, i_ p5, i_ 3, i_ y1, i_ y2, i_ y3, i_ y4, r_ (h4.size), r_ (h9.size), r_ (h13.size), r_ (x'), i_ 1, i_ 0, i_ 0, i_ 0, i_ 0, i_ 1, i_ 1]) (st' := [(.int 0), (.ref (h4.size)), (.int y1)]) rfl ?_
            refine gLd X21 hby hVd (Or.inr (Or.inl ⟨rfl, rfl⟩)) d_code_384 (i := 0) rfl (Nat.le_of_ble_eq_true rfl) ?_
            refine brI X21 hby d_code_385 (pc1 := 458) (by decide) (fun hl => absurd (neT hl) (fun q => q rfl)) (fun hl => ?_)
            refine blk X21 hby b475 (pc' := 391) (Ls' := #[i_ p1, i_ p2, i_ p3, i_ p4, i_ p5, i_ 3, i_ y1, i_ y2, i_ y3, i_ y4, r_ (h4.size), r_ (h9.size), r_ (h13.size), r_ (x'), i_ 1, i_ 0, i_ 0, i_ 0, i_ 0, i_ 1, i_ 1]) (st' := [(.int 1), (.int 1)]) rfl ?_
            refine brI X21 hby d_code_391 (pc1 := 410) (by decide) (fun hl => ?_) (fun hl => absurd (leF hl) (by decide))
            refine blk X21 hby b476 (pc' := 413) (Ls' := #[i_ p1, i_ p2, i_ p3, i_ p4, i_ p5, i_ 3, i_ y1, i_ y2, i_ y3, i_ y4, r_ (h4.size), r_ (h9.size), r_ (h13.size), r_ (x'), i_ 1, i_ 0, i_ 0, i_ 0, i_ 0, i_ 1, i_ 1]) (st' := [(.int 2), (.int 1)]) rfl ?_
            refine brI X21 hby d_code_413 (pc1 := 432) (by decide) (fun hl => ?_) (fun hl => absurd (leF hl) (by decide))
            refine blk X21 hby b477 (pc' := 435) (Ls' := #[i_ p1, i_ p2, i_ p3, i_ p4, i_ p5, i_ 3, i_ y1, i_ y2, i_ y3, i_ y4, r_ (h4.size), r_ (h9.size), r_ (h13.size), r_ (x'), i_ 1, i_ 0, i_ 0, i_ 0, i_ 0, i_ 1, i_ 1]) (st' := [(.int 3), (.int 1)]) rfl ?_
            refine brI X21 hby d_code_435 (pc1 := 454) (by decide) (fun hl => ?_) (fun hl => absurd (leF hl) (by decide))
            refine blk X21 hby b478 (pc' := 459) (Ls' := #[i_ p1, i_ p2, i_ p3, i_ p4, i_ p5, i_ 3, i_ y1, i_ y2, i_ y3, i_ y4, r_ (h4.size), r_ (h9.size), r_ (h13.size), r_ (x'), i_ 1, i_ 0, i_ 0, i_ 0, i_ 0, i_ 1, i_ 1]) (st' := [(.int 1)]) rfl ?_
            exact retI' X21 hby hret d_code_459 rfl (fun S' hS' => rfl)
          · skip
            have wj0 : wsB y1 = false := g5 (by decide)
            rw [wj0] at hv0
            replace hv0 : v0' = (1 : Int32) := hv0
            subst hv0
            have wj1 : wsB y2 = false := g7 (by decide)
            rw [wj1] at hv1
            replace hv1 : v1' = (1 : Int32) := hv1
            subst hv1
            have wj2 : wsB y3 = true := g6 2 (by decide) (by decide)
            rw [wj2] at hv2
            replace hv2 : v2' = (0 : Int32) := hv2
            subst hv2
            show Go _ _ _ _ (T19.setTop (mkF m 270 #[i_ p1, i_ p2, i_ p3, i_ p4, i_ p5, i_ 3, i_ y1, i_ y2, i_ y3, i_ y4, r_ (h4.size), r_ (h9.size), r_ (h13.size), r_ (x'), i_ 1, i_ 1, i_ 0, i_ 0, u_, u_, u_] []))
            refine blk X19 hby b479 (pc' := 272) (Ls' := #[i_ p1, i_ p2, i_ p3, i_ p4, i_ p5, i_ 3, i_ y1, i_ y2, i_ y3, i_ y4, r_ (h4.size), r_ (h9.size), r_ (h13.size), r_ (x'), i_ 1, i_ 1, i_ 0, i_ 0, u_, u_, u_]) (st' := [(.int 1)]) rfl ?_
            refine br0 X19 hby d_code_272 (pc1 := 279) (by decide) (fun hl => absurd (eqT hl) (by decide)) (fun hl => ?_)
            refine blk X19 hby b480 (pc' := 310) (Ls' := #[i_ p1, i_ p2, i_ p3, i_ p4, i_ p5, i_ 3, i_ y1, i_ y2, i_ y3, i_ y4, r_ (h4.size), r_ (h9.size), r_ (h13.size), r_ (x'), i_ 1, i_ 1, i_ 0, i_ 0, i_ 0, u_, u_]) (st' := []) rfl ?_
            refine blk X19 hby b481 (pc' := 312) (Ls' := #[i_ p1, i_ p2, i_ p3, i_ p4, i_ p5, i_ 3, i_ y1, i_ y2, i_ y3, i_ y4, r_ (h4.size), r_ (h9.size), r_ (h13.size), r_ (x'), i_ 1, i_ 1, i_ 0, i_ 0, i_ 0, u_, u_]) (st' := [(.int 0)]) rfl ?_
            refine br0 X19 hby d_code_312 (pc1 := 319) (by decide) (fun hl => ?_) (fun hl => absurd (eqF hl) (fun q => q rfl))
            refine blk X19 hby b482 (pc' := 321) (Ls' := #[i_ p1, i_ p2, i_ p3, i_ p4, i_ p5, i_ 3, i_ y1, i_ y2, i_ y3, i_ y4, r_ (h4.size), r_ (h9.size), r_ (h13.size), r_ (x'), i_ 1, i_ 1, i_ 0, i_ 0, i_ 0, u_, u_]) (st' := [(.int 0)]) rfl ?_
            refine br0 X19 hby d_code_321 (pc1 := 328) (by decide) (fun hl => ?_) (fun hl => absurd (eqF hl) (fun q => q rfl))
            refine blk X19 hby b483 (pc' := 330) (Ls' := #[i_ p1, i_ p2, i_ p3, i_ p4, i_ p5, i_ 3, i_ y1, i_ y2, i_ y3, i_ y4, r_ (h4.size), r_ (h9.size), r_ (h13.size), r_ (x'), i_ 1, i_ 1, i_ 0, i_ 0, i_ 0, u_, u_]) (st' := [(.int 1)]) rfl ?_
            refine br0 X19 hby d_code_330 (pc1 := 337) (by decide) (fun hl => absurd (eqT hl) (by decide)) (fun hl => ?_)
            refine blk X19 hby b484 (pc' := 359) (Ls' := #[i_ p1, i_ p2, i_ p3, i_ p4, i_ p5, i_ 3, i_ y1, i_ y2, i_ y3, i_ y4, r_ (h4.size), r_ (h9.size), r_ (h13.size), r_ (x'), i_ 1, i_ 1, i_ 0, i_ 0, i_ 0, i_ 2, i_ ((2 : Int32) - (0 : Int32))]) (st' := [(.ref (x'))]) rfl ?_
            show Go _ _ _ _ (T19.setTop (mkF m 359 #[i_ p1, i_ p2, i_ p3, i_ p4, i_ p5, i_ 3, i_ y1, i_ y2, i_ y3, i_ y4, r_ (h4.size), r_ (h9.size), r_ (h13.size), r_ (x'), i_ 1, i_ 1, i_ 0, i_ 0, i_ 0, i_ 2, i_ 2] [(.ref (x'))]))
            refine gVirt X19 hby (argsL := []) (st := []) (ct_len hw hEL X19.old U hx') hx'.1 (hw _ (List.mem_of_getElem? (i := 59) rfl)) (hw _ (List.mem_of_getElem? (i := 35) rfl)) (hw _ (List.mem_of_getElem? (i := 37) rfl)) (hw _ (List.mem_of_getElem? (i := 36) rfl)) (hw _ (List.mem_of_getElem? (i := 11) rfl)) (hw _ (List.mem_of_getElem? (i := 38) rfl)) pd___I rfl d_code_359 rfl (by rw [hml]; rfl) all0 (by decide) (Nat.le_of_ble_eq_true rfl) (by decide) (by decide) (fun v20 T20 h20 S20 X20 q20 sS20 sz20 => ?_)
            obtain ⟨rfl, rfl⟩ := q20
            show Go _ _ _ _ (T20.setTop (mkF m 362 #[i_ p1, i_ p2, i_ p3, i_ p4, i_ p5, i_ 3, i_ y1, i_ y2, i_ y3, i_ y4, r_ (h4.size), r_ (h9.size), r_ (h13.size), r_ (x'), i_ 1, i_ 1, i_ 0, i_ 0, i_ 0, i_ 2, i_ 2] [(.int (Int32.ofNat (([y1, y2, y3].drop 0).take (2 - 0)).length))]))
            show Go _ _ _ _ (T20.setTop (mkF m 362 #[i_ p1, i_ p2, i_ p3, i_ p4, i_ p5, i_ 3, i_ y1, i_ y2, i_ y3, i_ y4, r_ (h4.size), r_ (h9.size), r_ (h13.size), r_ (x'), i_ 1, i_ 1, i_ 0, i_ 0, i_ 0, i_ 2, i_ 2] [(.int 2)]))
            refine blk X20 hby b485 (pc' := 364) (Ls' := #[i_ p1, i_ p2, i_ p3, i_ p4, i_ p5, i_ 3, i_ y1, i_ y2, i_ y3, i_ y4, r_ (h4.size), r_ (h9.size), r_ (h13.size), r_ (x'), i_ 1, i_ 1, i_ 0, i_ 0, i_ 0, i_ 2, i_ 2]) (st' := [(.int 2), (.int 2)]) rfl ?_
            refine brI X20 hby d_code_364 (pc1 := 369) (by decide) (fun hl => ?_) (fun hl => absurd (eqF hl) (fun q => q rfl))
            refine blk X20 hby b486 (pc' := 371) (Ls' := #[i_ p1, i_ p2, i_ p3, i_ p4, i_ p5, i_ 3, i_ y1, i_ y2, i_ y3, i_ y4, r_ (h4.size), r_ (h9.size), r_ (h13.size), r_ (x'), i_ 1, i_ 1, i_ 0, i_ 0, i_ 0, i_ 2, i_ 2]) (st' := [(.int 2)]) rfl ?_
            refine br0 X20 hby d_code_371 (pc1 := 388) (by decide) (fun hl => absurd (leT hl) (fun q => q (by decide))) (fun hl => ?_)
            refine blk X20 hby b487 (pc' := 377) (Ls' := #[i_ p1, i_ p2, i_ p3, i_ p4, i_ p5, i_ 3, i_ y1, i_ y2, i_ y3, i_ y4, r_ (h4.size), r_ (h9.size), r_ (h13.size), r_ (x'), i_ 1, i_ 1, i_ 0, i_ 0, i_ 0, i_ 2, i_ 2]) (st' := [(.int 0), (.ref (x'))]) rfl ?_
            refine gVirt X20 hby (argsL := [(.int 0)]) (st := []) (ct_chr hw hEL X20.old U hFM hfm hx' (i := 0) (Nat.le_of_ble_eq_true rfl)) hx'.1 (hw _ (List.mem_of_getElem? (i := 121) rfl)) (hw _ (List.mem_of_getElem? (i := 71) rfl)) (hw _ (List.mem_of_getElem? (i := 73) rfl)) (hw _ (List.mem_of_getElem? (i := 72) rfl)) (hw _ (List.mem_of_getElem? (i := 11) rfl)) (hw _ (List.mem_of_getElem? (i := 74) rfl)) pd__I_C rfl d_code_377 rfl (by rw [hml]; rfl) all0 (by decide) (Nat.le_of_ble_eq_true rfl) (by decide) (by decide) (fun v21 T21 h21 S21 X21 q21 sS21 sz21 => ?_)
            obtain ⟨rfl, rfl⟩ := q21
            show Go _ _ _ _ (T21.setTop (mkF m 380 #[i_ p1, i_ p2, i_ p3, i_ p4, i_ p5, i_ 3, i_ y1, i_ y2, i_ y3, i_ y4, r_ (h4.size), r_ (h9.size), r_ (h13.size), r_ (x'), i_ 1, i_ 1, i_ 0, i_ 0, i_ 0, i_ 2, i_ 2] [(.int ((([y1, y2, y3].drop 0).take (2 - 0)).getD 0 0))]))
            show Go _ _ _ _ (T21.setTop (mkF m 380 #[i_ p1, i_ p2, i_ p3, i_ p4, i_ p5, i_ 3, i_ y1, i_ y2, i_ y3, i_ y4, r_ (h4.size), r_ (h9.size), r_ (h13.size), r_ (x'), i_ 1, i_ 1, i_ 0, i_ 0, i_ 0, i_ 2, i_ 2] [(.int y1)]))
            refine blk X21 hby b488 (pc' := 384) (Ls' := #[i_ p1, i_ p2, i_ p3, i_ p4, i_ p5, i_ 3, i_ y1, i_ y2, i_ y3, i_ y4, r_ (h4.size), r_ (h9.size), r_ (h13.size), r_ (x'), i_ 1, i_ 1, i_ 0, i_ 0, i_ 0, i_ 2, i_ 2]) (st' := [(.int 0), (.ref (h4.size)), (.int y1)]) rfl ?_
            refine gLd X21 hby hVd (Or.inr (Or.inl ⟨rfl, rfl⟩)) d_code_384 (i := 0) rfl (Nat.le_of_ble_eq_true rfl) ?_
            refine brI X21 hby d_code_385 (pc1 := 458) (by decide) (fun hl => absurd (neT hl) (fun q => q rfl)) (fun hl => ?_)
            refine blk X21 hby b489 (pc' := 391) (Ls' := #[i_ p1, i_ p2, i_ p3, i_ p4, i_ p5, i_ 3, i_ y1, i_ y2, i_ y3, i_ y4, r_ (h4.size), r_ (h9.size), r_ (h13.size), r_ (x'), i_ 1, i_ 1, i_ 0, i_ 0, i_ 0, i_ 2, i_ 2]) (st' := [(.int 1), (.int 2)]) rfl ?_
            refine brI X21 hby d_code_391 (pc1 := 410) (by decide) (fun hl => absurd (leT hl) (fun q => q (by decide))) (fun hl => ?_)
            refine blk X21 hby b490 (pc' := 397) (Ls' := #[i_ p1, i_ p2, i_ p3, i_ p4, i_ p5, i_ 3, i_ y1, i_ y2, i_ y3, i_ y4, r_ (h4.size), r_ (h9.size), r_ (h13.size), r_ (x'), i_ 1, i_ 1, i_ 0, i_ 0, i_ 0, i_ 2, i_ 2]) (st' := [(.int 1), (.ref (x'))]) rfl ?_
            refine gVirt X21 hby (argsL := [(.int 1)]) (st := []) (ct_chr hw hEL X21.old U hFM hfm hx' (i := 1) (Nat.le_of_ble_eq_true rfl)) hx'.1 (hw _ (List.mem_of_getElem? (i := 121) rfl)) (hw _ (List.mem_of_getElem? (i := 71) rfl)) (hw _ (List.mem_of_getElem? (i := 73) rfl)) (hw _ (List.mem_of_getElem? (i := 72) rfl)) (hw _ (List.mem_of_getElem? (i := 11) rfl)) (hw _ (List.mem_of_getElem? (i := 74) rfl)) pd__I_C rfl d_code_397 rfl (by rw [hml]; rfl) all0 (by decide) (Nat.le_of_ble_eq_true rfl) (by decide) (by decide) (fun v22 T22 h22 S22 X22 q22 sS22 sz22 => ?_)
            obtain ⟨rfl, rfl⟩ := q22
            show Go _ _ _ _ (T22.setTop (mkF m 400 #[i_ p1, i_ p2, i_ p3, i_ p4, i_ p5, i_ 3, i_ y1, i_ y2, i_ y3, i_ y4, r_ (h4.size), r_ (h9.size), r_ (h13.size), r_ (x'), i_ 1, i_ 1, i_ 0, i_ 0, i_ 0, i_ 2, i_ 2] [(.int ((([y1, y2, y3].drop 0).take (2 - 0)).getD 1 0))]))
            show Go _ _ _ _ (T22.setTop (mkF m 400 #[i_ p1, i_ p2, i_ p3, i_ p4, i_ p5, i_ 3, i_ y1, i_ y2, i_ y3, i_ y4, r_ (h4.size), r_ (h9.size), r_ (h13.size), r_ (x'), i_ 1, i_ 1, i_ 0, i_ 0, i_ 0, i_ 2, i_ 2] [(.int y2)]))
            refine blk X22 hby b491 (pc' := 406) (Ls' := #[i_ p1, i_ p2, i_ p3, i_ p4, i_ p5, i_ 3, i_ y1, i_ y2, i_ y3, i_ y4, r_ (h4.size), r_ (h9.size), r_ (h13.size), r_ (x'), i_ 1, i_ 1, i_ 0, i_ 0, i_ 0, i_ 2, i_ 2]) (st' := [(.int ((0 : Int32) + (1 : Int32))), (.ref (h4.size)), (.int y2)]) rfl ?_
            refine gLd X22 hby hVd (Or.inr (Or.inl ⟨rfl, rfl⟩)) d_code_406 (i := 1) rfl (Nat.le_of_ble_eq_true rfl) ?_
            refine brI X22 hby d_code_407 (pc1 := 458) (by decide) (fun hl => absurd (neT hl) (fun q => q rfl)) (fun hl => ?_)
            refine blk X22 hby b492 (pc' := 413) (Ls' := #[i_ p1, i_ p2, i_ p3, i_ p4, i_ p5, i_ 3, i_ y1, i_ y2, i_ y3, i_ y4, r_ (h4.size), r_ (h9.size), r_ (h13.size), r_ (x'), i_ 1, i_ 1, i_ 0, i_ 0, i_ 0, i_ 2, i_ 2]) (st' := [(.int 2), (.int 2)]) rfl ?_
            refine brI X22 hby d_code_413 (pc1 := 432) (by decide) (fun hl => ?_) (fun hl => absurd (leF hl) (by decide))
            refine blk X22 hby b493 (pc' := 435) (Ls' := #[i_ p1, i_ p2, i_ p3, i_ p4, i_ p5, i_ 3, i_ y1, i_ y2, i_ y3, i_ y4, r_ (h4.size), r_ (h9.size), r_ (h13.size), r_ (x'), i_ 1, i_ 1, i_ 0, i_ 0, i_ 0, i_ 2, i_ 2]) (st' := [(.int 3), (.int 2)]) rfl ?_
            refine brI X22 hby d_code_435 (pc1 := 454) (by decide) (fun hl => ?_) (fun hl => absurd (leF hl) (by decide))
            refine blk X22 hby b494 (pc' := 459) (Ls' := #[i_ p1, i_ p2, i_ p3, i_ p4, i_ p5, i_ 3, i_ y1, i_ y2, i_ y3, i_ y4, r_ (h4.size), r_ (h9.size), r_ (h13.size), r_ (x'), i_ 1, i_ 1, i_ 0, i_ 0, i_ 0, i_ 2, i_ 2]) (st' := [(.int 1)]) rfl ?_
            exact retI' X22 hby hret d_code_459 rfl (fun S' hS' => rfl)
          · skip
            have wj0 : wsB y1 = false := g5 (by decide)
            rw [wj0] at hv0
            replace hv0 : v0' = (1 : Int32) := hv0
            subst hv0
            have wj2 : wsB y3 = false := g7 (by decide)
            rw [wj2] at hv2
            replace hv2 : v2' = (1 : Int32) := hv2
            subst hv2
            show Go _ _ _ _ (T19.setTop (mkF m 270 #[i_ p1, i_ p2, i_ p3, i_ p4, i_ p5, i_ 3, i_ y1, i_ y2, i_ y3, i_ y4, r_ (h4.size), r_ (h9.size), r_ (h13.size), r_ (x'), i_ 1, i_ (v1'), i_ 1, i_ 0, u_, u_, u_] []))
            refine blk X19 hby b495 (pc' := 272) (Ls' := #[i_ p1, i_ p2, i_ p3, i_ p4, i_ p5, i_ 3, i_ y1, i_ y2, i_ y3, i_ y4, r_ (h4.size), r_ (h9.size), r_ (h13.size), r_ (x'), i_ 1, i_ (v1'), i_ 1, i_ 0, u_, u_, u_]) (st' := [(.int 1)]) rfl ?_
            refine br0 X19 hby d_code_272 (pc1 := 279) (by decide) (fun hl => absurd (eqT hl) (by decide)) (fun hl => ?_)
            refine blk X19 hby b496 (pc' := 310) (Ls' := #[i_ p1, i_ p2, i_ p3, i_ p4, i_ p5, i_ 3, i_ y1, i_ y2, i_ y3, i_ y4, r_ (h4.size), r_ (h9.size), r_ (h13.size), r_ (x'), i_ 1, i_ (v1'), i_ 1, i_ 0, i_ 0, u_, u_]) (st' := []) rfl ?_
            refine blk X19 hby b497 (pc' := 312) (Ls' := #[i_ p1, i_ p2, i_ p3, i_ p4, i_ p5, i_ 3, i_ y1, i_ y2, i_ y3, i_ y4, r_ (h4.size), r_ (h9.size), r_ (h13.size), r_ (x'), i_ 1, i_ (v1'), i_ 1, i_ 0, i_ 0, u_, u_]) (st' := [(.int 0)]) rfl ?_
            refine br0 X19 hby d_code_312 (pc1 := 319) (by decide) (fun hl => ?_) (fun hl => absurd (eqF hl) (fun q => q rfl))
            refine blk X19 hby b498 (pc' := 321) (Ls' := #[i_ p1, i_ p2, i_ p3, i_ p4, i_ p5, i_ 3, i_ y1, i_ y2, i_ y3, i_ y4, r_ (h4.size), r_ (h9.size), r_ (h13.size), r_ (x'), i_ 1, i_ (v1'), i_ 1, i_ 0, i_ 0, u_, u_]) (st' := [(.int 1)]) rfl ?_
            refine br0 X19 hby d_code_321 (pc1 := 328) (by decide) (fun hl => absurd (eqT hl) (by decide)) (fun hl => ?_)
            refine blk X19 hby b499 (pc' := 359) (Ls' := #[i_ p1, i_ p2, i_ p3, i_ p4, i_ p5, i_ 3, i_ y1, i_ y2, i_ y3, i_ y4, r_ (h4.size), r_ (h9.size), r_ (h13.size), r_ (x'), i_ 1, i_ (v1'), i_ 1, i_ 0, i_ 0, i_ 3, i_ ((3 : Int32) - (0 : Int32))]) (st' := [(.ref (x'))]) rfl ?_
            show Go _ _ _ _ (T19.setTop (mkF m 359 #[i_ p1, i_ p2, i_ p3, i_ p4, i_ p5, i_ 3, i_ y1, i_ y2, i_ y3, i_ y4, r_ (h4.size), r_ (h9.size), r_ (h13.size), r_ (x'), i_ 1, i_ (v1'), i_ 1, i_ 0, i_ 0, i_ 3, i_ 3] [(.ref (x'))]))
            refine gVirt X19 hby (argsL := []) (st := []) (ct_len hw hEL X19.old U hx') hx'.1 (hw _ (List.mem_of_getElem? (i := 59) rfl)) (hw _ (List.mem_of_getElem? (i := 35) rfl)) (hw _ (List.mem_of_getElem? (i := 37) rfl)) (hw _ (List.mem_of_getElem? (i := 36) rfl)) (hw _ (List.mem_of_getElem? (i := 11) rfl)) (hw _ (List.mem_of_getElem? (i := 38) rfl)) pd___I rfl d_code_359 rfl (by rw [hml]; rfl) all0 (by decide) (Nat.le_of_ble_eq_true rfl) (by decide) (by decide) (fun v20 T20 h20 S20 X20 q20 sS20 sz20 => ?_)
            obtain ⟨rfl, rfl⟩ := q20
            show Go _ _ _ _ (T20.setTop (mkF m 362 #[i_ p1, i_ p2, i_ p3, i_ p4, i_ p5, i_ 3, i_ y1, i_ y2, i_ y3, i_ y4, r_ (h4.size), r_ (h9.size), r_ (h13.size), r_ (x'), i_ 1, i_ (v1'), i_ 1, i_ 0, i_ 0, i_ 3, i_ 3] [(.int (Int32.ofNat (([y1, y2, y3].drop 0).take (3 - 0)).length))]))
            show Go _ _ _ _ (T20.setTop (mkF m 362 #[i_ p1, i_ p2, i_ p3, i_ p4, i_ p5, i_ 3, i_ y1, i_ y2, i_ y3, i_ y4, r_ (h4.size), r_ (h9.size), r_ (h13.size), r_ (x'), i_ 1, i_ (v1'), i_ 1, i_ 0, i_ 0, i_ 3, i_ 3] [(.int 3)]))
            refine blk X20 hby b500 (pc' := 364) (Ls' := #[i_ p1, i_ p2, i_ p3, i_ p4, i_ p5, i_ 3, i_ y1, i_ y2, i_ y3, i_ y4, r_ (h4.size), r_ (h9.size), r_ (h13.size), r_ (x'), i_ 1, i_ (v1'), i_ 1, i_ 0, i_ 0, i_ 3, i_ 3]) (st' := [(.int 3), (.int 3)]) rfl ?_
            refine brI X20 hby d_code_364 (pc1 := 369) (by decide) (fun hl => ?_) (fun hl => absurd (eqF hl) (fun q => q rfl))
            refine blk X20 hby b501 (pc' := 371) (Ls' := #[i_ p1, i_ p2, i_ p3, i_ p4, i_ p5, i_ 3, i_ y1, i_ y2, i_ y3, i_ y4, r_ (h4.size), r_ (h9.size), r_ (h13.size), r_ (x'), i_ 1, i_ (v1'), i_ 1, i_ 0, i_ 0, i_ 3, i_ 3]) (st' := [(.int 3)]) rfl ?_
            refine br0 X20 hby d_code_371 (pc1 := 388) (by decide) (fun hl => absurd (leT hl) (fun q => q (by decide))) (fun hl => ?_)
            refine blk X20 hby b502 (pc' := 377) (Ls' := #[i_ p1, i_ p2, i_ p3, i_ p4, i_ p5, i_ 3, i_ y1, i_ y2, i_ y3, i_ y4, r_ (h4.size), r_ (h9.size), r_ (h13.size), r_ (x'), i_ 1, i_ (v1'), i_ 1, i_ 0, i_ 0, i_ 3, i_ 3]) (st' := [(.int 0), (.ref (x'))]) rfl ?_
            refine gVirt X20 hby (argsL := [(.int 0)]) (st := []) (ct_chr hw hEL X20.old U hFM hfm hx' (i := 0) (Nat.le_of_ble_eq_true rfl)) hx'.1 (hw _ (List.mem_of_getElem? (i := 121) rfl)) (hw _ (List.mem_of_getElem? (i := 71) rfl)) (hw _ (List.mem_of_getElem? (i := 73) rfl)) (hw _ (List.mem_of_getElem? (i := 72) rfl)) (hw _ (List.mem_of_getElem? (i := 11) rfl)) (hw _ (List.mem_of_getElem? (i := 74) rfl)) pd__I_C rfl d_code_377 rfl (by rw [hml]; rfl) all0 (by decide) (Nat.le_of_ble_eq_true rfl) (by decide) (by decide) (fun v21 T21 h21 S21 X21 q21 sS21 sz21 => ?_)
            obtain ⟨rfl, rfl⟩ := q21
            show Go _ _ _ _ (T21.setTop (mkF m 380 #[i_ p1, i_ p2, i_ p3, i_ p4, i_ p5, i_ 3, i_ y1, i_ y2, i_ y3, i_ y4, r_ (h4.size), r_ (h9.size), r_ (h13.size), r_ (x'), i_ 1, i_ (v1'), i_ 1, i_ 0, i_ 0, i_ 3, i_ 3] [(.int ((([y1, y2, y3].drop 0).take (3 - 0)).getD 0 0))]))
            show Go _ _ _ _ (T21.setTop (mkF m 380 #[i_ p1, i_ p2, i_ p3, i_ p4, i_ p5, i_ 3, i_ y1, i_ y2, i_ y3, i_ y4, r_ (h4.size), r_ (h9.size), r_ (h13.size), r_ (x'), i_ 1, i_ (v1'), i_ 1, i_ 0, i_ 0, i_ 3, i_ 3] [(.int y1)]))
            refine blk X21 hby b503 (pc' := 384) (Ls' := #[i_ p1, i_ p2, i_ p3, i_ p4, i_ p5, i_ 3, i_ y1, i_ y2, i_ y3, i_ y4, r_ (h4.size), r_ (h9.size), r_ (h13.size), r_ (x'), i_ 1, i_ (v1'), i_ 1, i_ 0, i_ 0, i_ 3, i_ 3]) (st' := [(.int 0), (.ref (h4.size)), (.int y1)]) rfl ?_
            refine gLd X21 hby hVd (Or.inr (Or.inl ⟨rfl, rfl⟩)) d_code_384 (i := 0) rfl (Nat.le_of_ble_eq_true rfl) ?_
            refine brI X21 hby d_code_385 (pc1 := 458) (by decide) (fun hl => absurd (neT hl) (fun q => q rfl)) (fun hl => ?_)
            refine blk X21 hby b504 (pc' := 391) (Ls' := #[i_ p1, i_ p2, i_ p3, i_ p4, i_ p5, i_ 3, i_ y1, i_ y2, i_ y3, i_ y4, r_ (h4.size), r_ (h9.size), r_ (h13.size), r_ (x'), i_ 1, i_ (v1'), i_ 1, i_ 0, i_ 0, i_ 3, i_ 3]) (st' := [(.int 1), (.int 3)]) rfl ?_
            refine brI X21 hby d_code_391 (pc1 := 410) (by decide) (fun hl => absurd (leT hl) (fun q => q (by decide))) (fun hl => ?_)
            refine blk X21 hby b505 (pc' := 397) (Ls' := #[i_ p1, i_ p2, i_ p3, i_ p4, i_ p5, i_ 3, i_ y1, i_ y2, i_ y3, i_ y4, r_ (h4.size), r_ (h9.size), r_ (h13.size), r_ (x'), i_ 1, i_ (v1'), i_ 1, i_ 0, i_ 0, i_ 3, i_ 3]) (st' := [(.int 1), (.ref (x'))]) rfl ?_
            refine gVirt X21 hby (argsL := [(.int 1)]) (st := []) (ct_chr hw hEL X21.old U hFM hfm hx' (i := 1) (Nat.le_of_ble_eq_true rfl)) hx'.1 (hw _ (List.mem_of_getElem? (i := 121) rfl)) (hw _ (List.mem_of_getElem? (i := 71) rfl)) (hw _ (List.mem_of_getElem? (i := 73) rfl)) (hw _ (List.mem_of_getElem? (i := 72) rfl)) (hw _ (List.mem_of_getElem? (i := 11) rfl)) (hw _ (List.mem_of_getElem? (i := 74) rfl)) pd__I_C rfl d_code_397 rfl (by rw [hml]; rfl) all0 (by decide) (Nat.le_of_ble_eq_true rfl) (by decide) (by decide) (fun v22 T22 h22 S22 X22 q22 sS22 sz22 => ?_)
            obtain ⟨rfl, rfl⟩ := q22
            show Go _ _ _ _ (T22.setTop (mkF m 400 #[i_ p1, i_ p2, i_ p3, i_ p4, i_ p5, i_ 3, i_ y1, i_ y2, i_ y3, i_ y4, r_ (h4.size), r_ (h9.size), r_ (h13.size), r_ (x'), i_ 1, i_ (v1'), i_ 1, i_ 0, i_ 0, i_ 3, i_ 3] [(.int ((([y1, y2, y3].drop 0).take (3 - 0)).getD 1 0))]))
            show Go _ _ _ _ (T22.setTop (mkF m 400 #[i_ p1, i_ p2, i_ p3, i_ p4, i_ p5, i_ 3, i_ y1, i_ y2, i_ y3, i_ y4, r_ (h4.size), r_ (h9.size), r_ (h13.size), r_ (x'), i_ 1, i_ (v1'), i_ 1, i_ 0, i_ 0, i_ 3, i_ 3] [(.int y2)]))
            refine blk X22 hby b506 (pc' := 406) (Ls' := #[i_ p1, i_ p2, i_ p3, i_ p4, i_ p5, i_ 3, i_ y1, i_ y2, i_ y3, i_ y4, r_ (h4.size), r_ (h9.size), r_ (h13.size), r_ (x'), i_ 1, i_ (v1'), i_ 1, i_ 0, i_ 0, i_ 3, i_ 3]) (st' := [(.int ((0 : Int32) + (1 : Int32))), (.ref (h4.size)), (.int y2)]) rfl ?_
            refine gLd X22 hby hVd (Or.inr (Or.inl ⟨rfl, rfl⟩)) d_code_406 (i := 1) rfl (Nat.le_of_ble_eq_true rfl) ?_
            refine brI X22 hby d_code_407 (pc1 := 458) (by decide) (fun hl => absurd (neT hl) (fun q => q rfl)) (fun hl => ?_)
            refine blk X22 hby b507 (pc' := 413) (Ls' := #[i_ p1, i_ p2, i_ p3, i_ p4, i_ p5, i_ 3, i_ y1, i_ y2, i_ y3, i_ y4, r_ (h4.size), r_ (h9.size), r_ (h13.size), r_ (x'), i_ 1, i_ (v1'), i_ 1, i_ 0, i_ 0, i_ 3, i_ 3]) (st' := [(.int 2), (.int 3)]) rfl ?_
            refine brI X22 hby d_code_413 (pc1 := 432) (by decide) (fun hl => absurd (leT hl) (fun q => q (by decide))) (fun hl => ?_)
            refine blk X22 hby b508 (pc' := 419) (Ls' := #[i_ p1, i_ p2, i_ p3, i_ p4, i_ p5, i_ 3, i_ y1, i_ y2, i_ y3, i_ y4, r_ (h4.size), r_ (h9.size), r_ (h13.size), r_ (x'), i_ 1, i_ (v1'), i_ 1, i_ 0, i_ 0, i_ 3, i_ 3]) (st' := [(.int 2), (.ref (x'))]) rfl ?_
            refine gVirt X22 hby (argsL := [(.int 2)]) (st := []) (ct_chr hw hEL X22.old U hFM hfm hx' (i := 2) (Nat.le_of_ble_eq_true rfl)) hx'.1 (hw _ (List.mem_of_getElem? (i := 121) rfl)) (hw _ (List.mem_of_getElem? (i := 71) rfl)) (hw _ (List.mem_of_getElem? (i := 73) rfl)) (hw _ (List.mem_of_getElem? (i := 72) rfl)) (hw _ (List.mem_of_getElem? (i := 11) rfl)) (hw _ (List.mem_of_getElem? (i := 74) rfl)) pd__I_C rfl d_code_419 rfl (by rw [hml]; rfl) all0 (by decide) (Nat.le_of_ble_eq_true rfl) (by decide) (by decide) (fun v23 T23 h23 S23 X23 q23 sS23 sz23 => ?_)
            obtain ⟨rfl, rfl⟩ := q23
            show Go _ _ _ _ (T23.setTop (mkF m 422 #[i_ p1, i_ p2, i_ p3, i_ p4, i_ p5, i_ 3, i_ y1, i_ y2, i_ y3, i_ y4, r_ (h4.size), r_ (h9.size), r_ (h13.size), r_ (x'), i_ 1, i_ (v1'), i_ 1, i_ 0, i_ 0, i_ 3, i_ 3] [(.int ((([y1, y2, y3].drop 0).take (3 - 0)).getD 2 0))]))
            show Go _ _ _ _ (T23.setTop (mkF m 422 #[i_ p1, i_ p2, i_ p3, i_ p4, i_ p5, i_ 3, i_ y1, i_ y2, i_ y3, i_ y4, r_ (h4.size), r_ (h9.size), r_ (h13.size), r_ (x'), i_ 1, i_ (v1'), i_ 1, i_ 0, i_ 0, i_ 3, i_ 3] [(.int y3)]))
            refine blk X23 hby b509 (pc' := 428) (Ls' := #[i_ p1, i_ p2, i_ p3, i_ p4, i_ p5, i_ 3, i_ y1, i_ y2, i_ y3, i_ y4, r_ (h4.size), r_ (h9.size), r_ (h13.size), r_ (x'), i_ 1, i_ (v1'), i_ 1, i_ 0, i_ 0, i_ 3, i_ 3]) (st' := [(.int ((0 : Int32) + (2 : Int32))), (.ref (h4.size)), (.int y3)]) rfl ?_
            refine gLd X23 hby hVd (Or.inr (Or.inl ⟨rfl, rfl⟩)) d_code_428 (i := 2) rfl (Nat.le_of_ble_eq_true rfl) ?_
            refine brI X23 hby d_code_429 (pc1 := 458) (by decide) (fun hl => absurd (neT hl) (fun q => q rfl)) (fun hl => ?_)
            refine blk X23 hby b510 (pc' := 435) (Ls' := #[i_ p1, i_ p2, i_ p3, i_ p4, i_ p5, i_ 3, i_ y1, i_ y2, i_ y3, i_ y4, r_ (h4.size), r_ (h9.size), r_ (h13.size), r_ (x'), i_ 1, i_ (v1'), i_ 1, i_ 0, i_ 0, i_ 3, i_ 3]) (st' := [(.int 3), (.int 3)]) rfl ?_
            refine brI X23 hby d_code_435 (pc1 := 454) (by decide) (fun hl => ?_) (fun hl => absurd (leF hl) (by decide))
            refine blk X23 hby b511 (pc' := 459) (Ls' := #[i_ p1, i_ p2, i_ p3, i_ p4, i_ p5, i_ 3, i_ y1, i_ y2, i_ y3, i_ y4, r_ (h4.size), r_ (h9.size), r_ (h13.size), r_ (x'), i_ 1, i_ (v1'), i_ 1, i_ 0, i_ 0, i_ 3, i_ 3]) (st' := [(.int 1)]) rfl ?_
            exact retI' X23 hby hret d_code_459 rfl (fun S' hS' => rfl)
          · skip
            have wj0 : wsB y1 = true := g4 0 (by decide)
            rw [wj0] at hv0
            replace hv0 : v0' = (0 : Int32) := hv0
            subst hv0
            have wj1 : wsB y2 = false := g5 (by decide)
            rw [wj1] at hv1
            replace hv1 : v1' = (1 : Int32) := hv1
            subst hv1
            have wj2 : wsB y3 = true := g6 2 (by decide) (by decide)
            rw [wj2] at hv2
            replace hv2 : v2' = (0 : Int32) := hv2
            subst hv2
            show Go _ _ _ _ (T19.setTop (mkF m 270 #[i_ p1, i_ p2, i_ p3, i_ p4, i_ p5, i_ 3, i_ y1, i_ y2, i_ y3, i_ y4, r_ (h4.size), r_ (h9.size), r_ (h13.size), r_ (x'), i_ 0, i_ 1, i_ 0, i_ 0, u_, u_, u_] []))
            refine blk X19 hby b512 (pc' := 272) (Ls' := #[i_ p1, i_ p2, i_ p3, i_ p4, i_ p5, i_ 3, i_ y1, i_ y2, i_ y3, i_ y4, r_ (h4.size), r_ (h9.size), r_ (h13.size), r_ (x'), i_ 0, i_ 1, i_ 0, i_ 0, u_, u_, u_]) (st' := [(.int 0)]) rfl ?_
            refine br0 X19 hby d_code_272 (pc1 := 279) (by decide) (fun hl => ?_) (fun hl => absurd (eqF hl) (fun q => q rfl))
            refine blk X19 hby b513 (pc' := 281) (Ls' := #[i_ p1, i_ p2, i_ p3, i_ p4, i_ p5, i_ 3, i_ y1, i_ y2, i_ y3, i_ y4, r_ (h4.size), r_ (h9.size), r_ (h13.size), r_ (x'), i_ 0, i_ 1, i_ 0, i_ 0, u_, u_, u_]) (st' := [(.int 1)]) rfl ?_
            refine br0 X19 hby d_code_281 (pc1 := 288) (by decide) (fun hl => absurd (eqT hl) (by decide)) (fun hl => ?_)
            refine blk X19 hby b514 (pc' := 310) (Ls' := #[i_ p1, i_ p2, i_ p3, i_ p4, i_ p5, i_ 3, i_ y1, i_ y2, i_ y3, i_ y4, r_ (h4.size), r_ (h9.size), r_ (h13.size), r_ (x'), i_ 0, i_ 1, i_ 0, i_ 0, i_ 1, u_, u_]) (st' := []) rfl ?_
            refine blk X19 hby b515 (pc' := 312) (Ls' := #[i_ p1, i_ p2, i_ p3, i_ p4, i_ p5, i_ 3, i_ y1, i_ y2, i_ y3, i_ y4, r_ (h4.size), r_ (h9.size), r_ (h13.size), r_ (x'), i_ 0, i_ 1, i_ 0, i_ 0, i_ 1, u_, u_]) (st' := [(.int 0)]) rfl ?_
            refine br0 X19 hby d_code_312 (pc1 := 319) (by decide) (fun hl => ?_) (fun hl => absurd (eqF hl) (fun q => q rfl))
            refine blk X19 hby b516 (pc' := 321) (Ls' := #[i_ p1, i_ p2, i_ p3, i_ p4, i_ p5, i_ 3, i_ y1, i_ y2, i_ y3, i_ y4, r_ (h4.size), r_ (h9.size), r_ (h13.size), r_ (x'), i_ 0, i_ 1, i_ 0, i_ 0, i_ 1, u_, u_]) (st' := [(.int 0)]) rfl ?_
            refine br0 X19 hby d_code_321 (pc1 := 328) (by decide) (fun hl => ?_) (fun hl => absurd (eqF hl) (fun q => q rfl))
            refine blk X19 hby b517 (pc' := 330) (Ls' := #[i_ p1, i_ p2, i_ p3, i_ p4, i_ p5, i_ 3, i_ y1, i_ y2, i_ y3, i_ y4, r_ (h4.size), r_ (h9.size), r_ (h13.size), r_ (x'), i_ 0, i_ 1, i_ 0, i_ 0, i_ 1, u_, u_]) (st' := [(.int 1)]) rfl ?_
            refine br0 X19 hby d_code_330 (pc1 := 337) (by decide) (fun hl => absurd (eqT hl) (by decide)) (fun hl => ?_)
            refine blk X19 hby b518 (pc' := 359) (Ls' := #[i_ p1, i_ p2, i_ p3, i_ p4, i_ p5, i_ 3, i_ y1, i_ y2, i_ y3, i_ y4, r_ (h4.size), r_ (h9.size), r_ (h13.size), r_ (x'), i_ 0, i_ 1, i_ 0, i_ 0, i_ 1, i_ 2, i_ ((2 : Int32) - (1 : Int32))]) (st' := [(.ref (x'))]) rfl ?_
            show Go _ _ _ _ (T19.setTop (mkF m 359 #[i_ p1, i_ p2, i_ p3, i_ p4, i_ p5, i_ 3, i_ y1, i_ y2, i_ y3, i_ y4, r_ (h4.size), r_ (h9.size), r_ (h13.size), r_ (x'), i_ 0, i_ 1, i_ 0, i_ 0, i_ 1, i_ 2, i_ 1] [(.ref (x'))]))
            refine gVirt X19 hby (argsL := []) (st := []) (ct_len hw hEL X19.old U hx') hx'.1 (hw _ (List.mem_of_getElem? (i := 59) rfl)) (hw _ (List.mem_of_getElem? (i := 35) rfl)) (hw _ (List.mem_of_getElem? (i := 37) rfl)) (hw _ (List.mem_of_getElem? (i := 36) rfl)) (hw _ (List.mem_of_getElem? (i := 11) rfl)) (hw _ (List.mem_of_getElem? (i := 38) rfl)) pd___I rfl d_code_359 rfl (by rw [hml]; rfl) all0 (by decide) (Nat.le_of_ble_eq_true rfl) (by decide) (by decide) (fun v20 T20 h20 S20 X20 q20 sS20 sz20 => ?_)
            obtain ⟨rfl, rfl⟩ := q20
            show Go _ _ _ _ (T20.setTop (mkF m 362 #[i_ p1, i_ p2, i_ p3, i_ p4, i_ p5, i_ 3, i_ y1, i_ y2, i_ y3, i_ y4, r_ (h4.size), r_ (h9.size), r_ (h13.size), r_ (x'), i_ 0, i_ 1, i_ 0, i_ 0, i_ 1, i_ 2, i_ 1] [(.int (Int32.ofNat (([y1, y2, y3].drop 1).take (2 - 1)).length))]))
            show Go _ _ _ _ (T20.setTop (mkF m 362 #[i_ p1, i_ p2, i_ p3, i_ p4, i_ p5, i_ 3, i_ y1, i_ y2, i_ y3, i_ y4, r_ (h4.size), r_ (h9.size), r_ (h13.size), r_ (x'), i_ 0, i_ 1, i_ 0, i_ 0, i_ 1, i_ 2, i_ 1] [(.int 1)]))
            refine blk X20 hby b519 (pc' := 364) (Ls' := #[i_ p1, i_ p2, i_ p3, i_ p4, i_ p5, i_ 3, i_ y1, i_ y2, i_ y3, i_ y4, r_ (h4.size), r_ (h9.size), r_ (h13.size), r_ (x'), i_ 0, i_ 1, i_ 0, i_ 0, i_ 1, i_ 2, i_ 1]) (st' := [(.int 1), (.int 1)]) rfl ?_
            refine brI X20 hby d_code_364 (pc1 := 369) (by decide) (fun hl => ?_) (fun hl => absurd (eqF hl) (fun q => q rfl))
            refine blk X20 hby b520 (pc' := 371) (Ls' := #[i_ p1, i_ p2, i_ p3, i_ p4, i_ p5, i_ 3, i_ y1, i_ y2, i_ y3, i_ y4, r_ (h4.size), r_ (h9.size), r_ (h13.size), r_ (x'), i_ 0, i_ 1, i_ 0, i_ 0, i_ 1, i_ 2, i_ 1]) (st' := [(.int 1)]) rfl ?_
            refine br0 X20 hby d_code_371 (pc1 := 388) (by decide) (fun hl => absurd (leT hl) (fun q => q (by decide))) (fun hl => ?_)
            refine blk X20 hby b521 (pc' := 377) (Ls' := #[i_ p1, i_ p2, i_ p3, i_ p4, i_ p5, i_ 3, i_ y1, i_ y2, i_ y3, i_ y4, r_ (h4.size), r_ (h9.size), r_ (h13.size), r_ (x'), i_ 0, i_ 1, i_ 0, i_ 0, i_ 1, i_ 2, i_ 1]) (st' := [(.int 0), (.ref (x'))]) rfl ?_
            refine gVirt X20 hby (argsL := [(.int 0)]) (st := []) (ct_chr hw hEL X20.old U hFM hfm hx' (i := 0) (Nat.le_of_ble_eq_true rfl)) hx'.1 (hw _ (List.mem_of_getElem? (i := 121) rfl)) (hw _ (List.mem_of_getElem? (i := 71) rfl)) (hw _ (List.mem_of_getElem? (i := 73) rfl)) (hw _ (List.mem_of_getElem? (i := 72) rfl)) (hw _ (List.mem_of_getElem? (i := 11) rfl)) (hw _ (List.mem_of_getElem? (i := 74) rfl)) pd__I_C rfl d_code_377 rfl (by rw [hml]; rfl) all0 (by decide) (Nat.le_of_ble_eq_true rfl) (by decide) (by decide) (fun v21 T21 h21 S21 X21 q21 sS21 sz21 => ?_)
            obtain ⟨rfl, rfl⟩ := q21
            show Go _ _ _ _ (T21.setTop (mkF m 380 #[i_ p1, i_ p2, i_ p3, i_ p4, i_ p5, i_ 3, i_ y1, i_ y2, i_ y3, i_ y4, r_ (h4.size), r_ (h9.size), r_ (h13.size), r_ (x'), i_ 0, i_ 1, i_ 0, i_ 0, i_ 1, i_ 2, i_ 1] [(.int ((([y1, y2, y3].drop 1).take (2 - 1)).getD 0 0))]))
            show Go _ _ _ _ (T21.setTop (mkF m 380 #[i_ p1, i_ p2, i_ p3, i_ p4, i_ p5, i_ 3, i_ y1, i_ y2, i_ y3, i_ y4, r_ (h4.size), r_ (h9.size), r_ (h13.size), r_ (x'), i_ 0, i_ 1, i_ 0, i_ 0, i_ 1, i_ 2, i_ 1] [(.int y2)]))
            refine blk X21 hby b522 (pc' := 384) (Ls' := #[i_ p1, i_ p2, i_ p3, i_ p4, i_ p5, i_ 3, i_ y1, i_ y2, i_ y3, i_ y4, r_ (h4.size), r_ (h9.size), r_ (h13.size), r_ (x'), i_ 0, i_ 1, i_ 0, i_ 0, i_ 1, i_ 2, i_ 1]) (st' := [(.int 1), (.ref (h4.size)), (.int y2)]) rfl ?_
            refine gLd X21 hby hVd (Or.inr (Or.inl ⟨rfl, rfl⟩)) d_code_384 (i := 1) rfl (Nat.le_of_ble_eq_true rfl) ?_
            refine brI X21 hby d_code_385 (pc1 := 458) (by decide) (fun hl => absurd (neT hl) (fun q => q rfl)) (fun hl => ?_)
            refine blk X21 hby b523 (pc' := 391) (Ls' := #[i_ p1, i_ p2, i_ p3, i_ p4, i_ p5, i_ 3, i_ y1, i_ y2, i_ y3, i_ y4, r_ (h4.size), r_ (h9.size), r_ (h13.size), r_ (x'), i_ 0, i_ 1, i_ 0, i_ 0, i_ 1, i_ 2, i_ 1]) (st' := [(.int 1), (.int 1)]) rfl ?_
            refine brI X21 hby d_code_391 (pc1 := 410) (by decide) (fun hl => ?_) (fun hl => absurd (leF hl) (by decide))
            refine blk X21 hby b524 (pc' := 413) (Ls' := #[i_ p1, i_ p2, i_ p3, i_ p4, i_ p5, i_ 3, i_ y1, i_ y2, i_ y3, i_ y4, r_ (h4.size), r_ (h9.size), r_ (h13.size), r_ (x'), i_ 0, i_ 1, i_ 0, i_ 0, i_ 1, i_ 2, i_ 1]) (st' := [(.int 2), (.int 1)]) rfl ?_
            refine brI X21 hby d_code_413 (pc1 := 432) (by decide) (fun hl => ?_) (fun hl => absurd (leF hl) (by decide))
            refine blk X21 hby b525 (pc' := 435) (Ls' := #[i_ p1, i_ p2, i_ p3, i_ p4, i_ p5, i_ 3, i_ y1, i_ y2, i_ y3, i_ y4, r_ (h4.size), r_ (h9.size), r_ (h13.size), r_ (x'), i_ 0, i_ 1, i_ 0, i_ 0, i_ 1, i_ 2, i_ 1]) (st' := [(.int 3), (.int 1)]) rfl ?_
            refine brI X21 hby d_code_435 (pc1 := 454) (by decide) (fun hl => ?_) (fun hl => absurd (leF hl) (by decide))
            refine blk X21 hby b526 (pc' := 459) (Ls' := #[i_ p1, i_ p2, i_ p3, i_ p4, i_ p5, i_ 3, i_ y1, i_ y2, i_ y3, i_ y4, r_ (h4.size), r_ (h9.size), r_ (h13.size), r_ (x'), i_ 0, i_ 1, i_ 0, i_ 0, i_ 1, i_ 2, i_ 1]) (st' := [(.int 1)]) rfl ?_
            exact retI' X21 hby hret d_code_459 rfl (fun S' hS' => rfl)
          · skip
            have wj0 : wsB y1 = true := g4 0 (by decide)
            rw [wj0] at hv0
            replace hv0 : v0' = (0 : Int32) := hv0
            subst hv0
            have wj1 : wsB y2 = false := g5 (by decide)
            rw [wj1] at hv1
            replace hv1 : v1' = (1 : Int32) := hv1
            subst hv1
            have wj2 : wsB y3 = false := g7 (by decide)
            rw [wj2] at hv2
            replace hv2 : v2' = (1 : Int32) := hv2
            subst hv2
            show Go _ _ _ _ (T19.setTop (mkF m 270 #[i_ p1, i_ p2, i_ p3, i_ p4, i_ p5, i_ 3, i_ y1, i_ y2, i_ y3, i_ y4, r_ (h4.size), r_ (h9.size), r_ (h13.size), r_ (x'), i_ 0, i_ 1, i_ 1, i_ 0, u_, u_, u_] []))
            refine blk X19 hby b527 (pc' := 272) (Ls' := #[i_ p1, i_ p2, i_ p3, i_ p4, i_ p5, i_ 3, i_ y1, i_ y2, i_ y3, i_ y4, r_ (h4.size), r_ (h9.size), r_ (h13.size), r_ (x'), i_ 0, i_ 1, i_ 1, i_ 0, u_, u_, u_]) (st' := [(.int 0)]) rfl ?_
            refine br0 X19 hby d_code_272 (pc1 := 279) (by decide) (fun hl => ?_) (fun hl => absurd (eqF hl) (fun q => q rfl))
            refine blk X19 hby b528 (pc' := 281) (Ls' := #[i_ p1, i_ p2, i_ p3, i_ p4, i_ p5, i_ 3, i_ y1, i_ y2, i_ y3, i_ y4, r_ (h4.size), r_ (h9.size), r_ (h13.size), r_ (x'), i_ 0, i_ 1, i_ 1, i_ 0, u_, u_, u_]) (st' := [(.int 1)]) rfl ?_
            refine br0 X19 hby d_code_281 (pc1 := 288) (by decide) (fun hl => absurd (eqT hl) (by decide)) (fun hl => ?_)
            refine blk X19 hby b529 (pc' := 310) (Ls' := #[i_ p1, i_ p2, i_ p3, i_ p4, i_ p5, i_ 3, i_ y1, i_ y2, i_ y3, i_ y4, r_ (h4.size), r_ (h9.size), r_ (h13.size), r_ (x'), i_ 0, i_ 1, i_ 1, i_ 0, i_ 1, u_, u_]) (st' := []) rfl ?_
            refine blk X19 hby b530 (pc' := 312) (Ls' := #[i_ p1, i_ p2, i_ p3, i_ p4, i_ p5, i_ 3, i_ y1, i_ y2, i_ y3, i_ y4, r_ (h4.size), r_ (h9.size), r_ (h13.size), r_ (x'), i_ 0, i_ 1, i_ 1, i_ 0, i_ 1, u_, u_]) (st' := [(.int 0)]) rfl ?_
            refine br0 X19 hby d_code_312 (pc1 := 319) (by decide) (fun hl => ?_) (fun hl => absurd (eqF hl) (fun q => q rfl))
            refine blk X19 hby b531 (pc' := 321) (Ls' := #[i_ p1, i_ p2, i_ p3, i_ p4, i_ p5, i_ 3, i_ y1, i_ y2, i_ y3, i_ y4, r_ (h4.size), r_ (h9.size), r_ (h13.size), r_ (x'), i_ 0, i_ 1, i_ 1, i_ 0, i_ 1, u_, u_]) (st' := [(.int 1)]) rfl ?_
            refine br0 X19 hby d_code_321 (pc1 := 328) (by decide) (fun hl => absurd (eqT hl) (by decide)) (fun hl => ?_)
            refine blk X19 hby b532 (pc' := 359) (Ls' := #[i_ p1, i_ p2, i_ p3, i_ p4, i_ p5, i_ 3, i_ y1, i_ y2, i_ y3, i_ y4, r_ (h4.size), r_ (h9.size), r_ (h13.size), r_ (x'), i_ 0, i_ 1, i_ 1, i_ 0, i_ 1, i_ 3, i_ ((3 : Int32) - (1 : Int32))]) (st' := [(.ref (x'))]) rfl ?_
            show Go _ _ _ _ (T19.setTop (mkF m 359 #[i_ p1, i_ p2, i_ p3, i_ p4, i_ p5, i_ 3, i_ y1, i_ y2, i_ y3, i_ y4, r_ (h4.size), r_ (h9.size), r_ (h13.size), r_ (x'), i_ 0, i_ 1, i_ 1, i_ 0, i_ 1, i_ 3, i_ 2] [(.ref (x'))]))
            refine gVirt X19 hby (argsL := []) (st := []) (ct_len hw hEL X19.old U hx') hx'.1 (hw _ (List.mem_of_getElem? (i := 59) rfl)) (hw _ (List.mem_of_getElem? (i := 35) rfl)) (hw _ (List.mem_of_getElem? (i := 37) rfl)) (hw _ (List.mem_of_getElem? (i := 36) rfl)) (hw _ (List.mem_of_getElem? (i := 11) rfl)) (hw _ (List.mem_of_getElem? (i := 38) rfl)) pd___I rfl d_code_359 rfl (by rw [hml]; rfl) all0 (by decide) (Nat.le_of_ble_eq_true rfl) (by decide) (by decide) (fun v20 T20 h20 S20 X20 q20 sS20 sz20 => ?_)
            obtain ⟨rfl, rfl⟩ := q20
            show Go _ _ _ _ (T20.setTop (mkF m 362 #[i_ p1, i_ p2, i_ p3, i_ p4, i_ p5, i_ 3, i_ y1, i_ y2, i_ y3, i_ y4, r_ (h4.size), r_ (h9.size), r_ (h13.size), r_ (x'), i_ 0, i_ 1, i_ 1, i_ 0, i_ 1, i_ 3, i_ 2] [(.int (Int32.ofNat (([y1, y2, y3].drop 1).take (3 - 1)).length))]))
            show Go _ _ _ _ (T20.setTop (mkF m 362 #[i_ p1, i_ p2, i_ p3, i_ p4, i_ p5, i_ 3, i_ y1, i_ y2, i_ y3, i_ y4, r_ (h4.size), r_ (h9.size), r_ (h13.size), r_ (x'), i_ 0, i_ 1, i_ 1, i_ 0, i_ 1, i_ 3, i_ 2] [(.int 2)]))
            refine blk X20 hby b533 (pc' := 364) (Ls' := #[i_ p1, i_ p2, i_ p3, i_ p4, i_ p5, i_ 3, i_ y1, i_ y2, i_ y3, i_ y4, r_ (h4.size), r_ (h9.size), r_ (h13.size), r_ (x'), i_ 0, i_ 1, i_ 1, i_ 0, i_ 1, i_ 3, i_ 2]) (st' := [(.int 2), (.int 2)]) rfl ?_
            refine brI X20 hby d_code_364 (pc1 := 369) (by decide) (fun hl => ?_) (fun hl => absurd (eqF hl) (fun q => q rfl))
            refine blk X20 hby b534 (pc' := 371) (Ls' := #[i_ p1, i_ p2, i_ p3, i_ p4, i_ p5, i_ 3, i_ y1, i_ y2, i_ y3, i_ y4, r_ (h4.size), r_ (h9.size), r_ (h13.size), r_ (x'), i_ 0, i_ 1, i_ 1, i_ 0, i_ 1, i_ 3, i_ 2]) (st' := [(.int 2)]) rfl ?_
            refine br0 X20 hby d_code_371 (pc1 := 388) (by decide) (fun hl => absurd (leT hl) (fun q => q (by decide))) (fun hl => ?_)
            refine blk X20 hby b535 (pc' := 377) (Ls' := #[i_ p1, i_ p2, i_ p3, i_ p4, i_ p5, i_ 3, i_ y1, i_ y2, i_ y3, i_ y4, r_ (h4.size), r_ (h9.size), r_ (h13.size), r_ (x'), i_ 0, i_ 1, i_ 1, i_ 0, i_ 1, i_ 3, i_ 2]) (st' := [(.int 0), (.ref (x'))]) rfl ?_
            refine gVirt X20 hby (argsL := [(.int 0)]) (st := []) (ct_chr hw hEL X20.old U hFM hfm hx' (i := 0) (Nat.le_of_ble_eq_true rfl)) hx'.1 (hw _ (List.mem_of_getElem? (i := 121) rfl)) (hw _ (List.mem_of_getElem? (i := 71) rfl)) (hw _ (List.mem_of_getElem? (i := 73) rfl)) (hw _ (List.mem_of_getElem? (i := 72) rfl)) (hw _ (List.mem_of_getElem? (i := 11) rfl)) (hw _ (List.mem_of_getElem? (i := 74) rfl)) pd__I_C rfl d_code_377 rfl (by rw [hml]; rfl) all0 (by decide) (Nat.le_of_ble_eq_true rfl) (by decide) (by decide) (fun v21 T21 h21 S21 X21 q21 sS21 sz21 => ?_)
            obtain ⟨rfl, rfl⟩ := q21
            show Go _ _ _ _ (T21.setTop (mkF m 380 #[i_ p1, i_ p2, i_ p3, i_ p4, i_ p5, i_ 3, i_ y1, i_ y2, i_ y3, i_ y4, r_ (h4.size), r_ (h9.size), r_ (h13.size), r_ (x'), i_ 0, i_ 1, i_ 1, i_ 0, i_ 1, i_ 3, i_ 2] [(.int ((([y1, y2, y3].drop 1).take (3 - 1)).getD 0 0))]))
            show Go _ _ _ _ (T21.setTop (mkF m 380 #[i_ p1, i_ p2, i_ p3, i_ p4, i_ p5, i_ 3, i_ y1, i_ y2, i_ y3, i_ y4, r_ (h4.size), r_ (h9.size), r_ (h13.size), r_ (x'), i_ 0, i_ 1, i_ 1, i_ 0, i_ 1, i_ 3, i_ 2] [(.int y2)]))
            refine blk X21 hby b536 (pc' := 384) (Ls' := #[i_ p1, i_ p2, i_ p3, i_ p4, i_ p5, i_ 3, i_ y1, i_ y2, i_ y3, i_ y4, r_ (h4.size), r_ (h9.size), r_ (h13.size), r_ (x'), i_ 0, i_ 1, i_ 1, i_ 0, i_ 1, i_ 3, i_ 2]) (st' := [(.int 1), (.ref (h4.size)), (.int y2)]) rfl ?_
            refine gLd X21 hby hVd (Or.inr (Or.inl ⟨rfl, rfl⟩)) d_code_384 (i := 1) rfl (Nat.le_of_ble_eq_true rfl) ?_
            refine brI X21 hby d_code_385 (pc1 := 458) (by decide) (fun hl => absurd (neT hl) (fun q => q rfl)) (fun hl => ?_)
            refine blk X21 hby b537 (pc' := 391) (Ls' := #[i_ p1, i_ p2, i_ p3, i_ p4, i_ p5, i_ 3, i_ y1, i_ y2, i_ y3, i_ y4, r_ (h4.size), r_ (h9.size), r_ (h13.size), r_ (x'), i_ 0, i_ 1, i_ 1, i_ 0, i_ 1, i_ 3, i_ 2]) (st' := [(.int 1), (.int 2)]) rfl ?_
            refine brI X21 hby d_code_391 (pc1 := 410) (by decide) (fun hl => absurd (leT hl) (fun q => q (by decide))) (fun hl => ?_)
            refine blk X21 hby b538 (pc' := 397) (Ls' := #[i_ p1, i_ p2, i_ p3, i_ p4, i_ p5, i_ 3, i_ y1, i_ y2, i_ y3, i_ y4, r_ (h4.size), r_ (h9.size), r_ (h13.size), r_ (x'), i_ 0, i_ 1, i_ 1, i_ 0, i_ 1, i_ 3, i_ 2]) (st' := [(.int 1), (.ref (x'))]) rfl ?_
            refine gVirt X21 hby (argsL := [(.int 1)]) (st := []) (ct_chr hw hEL X21.old U hFM hfm hx' (i := 1) (Nat.le_of_ble_eq_true rfl)) hx'.1 (hw _ (List.mem_of_getElem? (i := 121) rfl)) (hw _ (List.mem_of_getElem? (i := 71) rfl)) (hw _ (List.mem_of_getElem? (i := 73) rfl)) (hw _ (List.mem_of_getElem? (i := 72) rfl)) (hw _ (List.mem_of_getElem? (i := 11) rfl)) (hw _ (List.mem_of_getElem? (i := 74) rfl)) pd__I_C rfl d_code_397 rfl (by rw [hml]; rfl) all0 (by decide) (Nat.le_of_ble_eq_true rfl) (by decide) (by decide) (fun v22 T22 h22 S22 X22 q22 sS22 sz22 => ?_)
            obtain ⟨rfl, rfl⟩ := q22
            show Go _ _ _ _ (T22.setTop (mkF m 400 #[i_ p1, i_ p2, i_ p3, i_ p4, i_ p5, i_ 3, i_ y1, i_ y2, i_ y3, i_ y4, r_ (h4.size), r_ (h9.size), r_ (h13.size), r_ (x'), i_ 0, i_ 1, i_ 1, i_ 0, i_ 1, i_ 3, i_ 2] [(.int ((([y1, y2, y3].drop 1).take (3 - 1)).getD 1 0))]))
            show Go _ _ _ _ (T22.setTop (mkF m 400 #[i_ p1, i_ p2, i_ p3, i_ p4, i_ p5, i_ 3, i_ y1, i_ y2, i_ y3, i_ y4, r_ (h4.size), r_ (h9.size), r_ (h13.size), r_ (x'), i_ 0, i_ 1, i_ 1, i_ 0, i_ 1, i_ 3, i_ 2] [(.int y3)]))
            refine blk X22 hby b539 (pc' := 406) (Ls' := #[i_ p1, i_ p2, i_ p3, i_ p4, i_ p5, i_ 3, i_ y1, i_ y2, i_ y3, i_ y4, r_ (h4.size), r_ (h9.size), r_ (h13.size), r_ (x'), i_ 0, i_ 1, i_ 1, i_ 0, i_ 1, i_ 3, i_ 2]) (st' := [(.int ((1 : Int32) + (1 : Int32))), (.ref (h4.size)), (.int y3)]) rfl ?_
            refine gLd X22 hby hVd (Or.inr (Or.inl ⟨rfl, rfl⟩)) d_code_406 (i := 2) rfl (Nat.le_of_ble_eq_true rfl) ?_
            refine brI X22 hby d_code_407 (pc1 := 458) (by decide) (fun hl => absurd (neT hl) (fun q => q rfl)) (fun hl => ?_)
            refine blk X22 hby b540 (pc' := 413) (Ls' := #[i_ p1, i_ p2, i_ p3, i_ p4, i_ p5, i_ 3, i_ y1, i_ y2, i_ y3, i_ y4, r_ (h4.size), r_ (h9.size), r_ (h13.size), r_ (x'), i_ 0, i_ 1, i_ 1, i_ 0, i_ 1, i_ 3, i_ 2]) (st' := [(.int 2), (.int 2)]) rfl ?_
            refine brI X22 hby d_code_413 (pc1 := 432) (by decide) (fun hl => ?_) (fun hl => absurd (leF hl) (by decide))
            refine blk X22 hby b541 (pc' := 435) (Ls' := #[i_ p1, i_ p2, i_ p3, i_ p4, i_ p5, i_ 3, i_ y1, i_ y2, i_ y3, i_ y4, r_ (h4.size), r_ (h9.size), r_ (h13.size), r_ (x'), i_ 0, i_ 1, i_ 1, i_ 0, i_ 1, i_ 3, i_ 2]) (st' := [(.int 3), (.int 2)]) rfl ?_
            refine brI X22 hby d_code_435 (pc1 := 454) (by decide) (fun hl => ?_) (fun hl => absurd (leF hl) (by decide))
            refine blk X22 hby b542 (pc' := 459) (Ls' := #[i_ p1, i_ p2, i_ p3, i_ p4, i_ p5, i_ 3, i_ y1, i_ y2, i_ y3, i_ y4, r_ (h4.size), r_ (h9.size), r_ (h13.size), r_ (x'), i_ 0, i_ 1, i_ 1, i_ 0, i_ 1, i_ 3, i_ 2]) (st' := [(.int 1)]) rfl ?_
            exact retI' X22 hby hret d_code_459 rfl (fun S' hS' => rfl)
          · skip
            have wj0 : wsB y1 = true := g4 0 (by decide)
            rw [wj0] at hv0
            replace hv0 : v0' = (0 : Int32) := hv0
            subst hv0
            have wj1 : wsB y2 = true := g4 1 (by decide)
            rw [wj1] at hv1
            replace hv1 : v1' = (0 : Int32) := hv1
            subst hv1
            have wj2 : wsB y3 = false := g5 (by decide)
            rw [wj2] at hv2
            replace hv2 : v2' = (1 : Int32) := hv2
            subst hv2
            show Go _ _ _ _ (T19.setTop (mkF m 270 #[i_ p1, i_ p2, i_ p3, i_ p4, i_ p5, i_ 3, i_ y1, i_ y2, i_ y3, i_ y4, r_ (h4.size), r_ (h9.size), r_ (h13.size), r_ (x'), i_ 0, i_ 0, i_ 1, i_ 0, u_, u_, u_] []))
            refine blk X19 hby b543 (pc' := 272) (Ls' := #[i_ p1, i_ p2, i_ p3, i_ p4, i_ p5, i_ 3, i_ y1, i_ y2, i_ y3, i_ y4, r_ (h4.size), r_ (h9.size), r_ (h13.size), r_ (x'), i_ 0, i_ 0, i_ 1, i_ 0, u_, u_, u_]) (st' := [(.int 0)]) rfl ?_
            refine br0 X19 hby d_code_272 (pc1 := 279) (by decide) (fun hl => ?_) (fun hl => absurd (eqF hl) (fun q => q rfl))
            refine blk X19 hby b544 (pc' := 281) (Ls' := #[i_ p1, i_ p2, i_ p3, i_ p4, i_ p5, i_ 3, i_ y1, i_ y2, i_ y3, i_ y4, r_ (h4.size), r_ (h9.size), r_ (h13.size), r_ (x'), i_ 0, i_ 0, i_ 1, i_ 0, u_, u_, u_]) (st' := [(.int 0)]) rfl ?_
            refine br0 X19 hby d_code_281 (pc1 := 288) (by decide) (fun hl => ?_) (fun hl => absurd (eqF hl) (fun q => q rfl))
            refine blk X19 hby b545 (pc' := 290) (Ls' := #[i_ p1, i_ p2, i_ p3, i_ p4, i_ p5, i_ 3, i_ y1, i_ y2, i_ y3, i_ y4, r_ (h4.size), r_ (h9.size), r_ (h13.size), r_ (x'), i_ 0, i_ 0, i_ 1, i_ 0, u_, u_, u_]) (st' := [(.int 1)]) rfl ?_
            refine br0 X19 hby d_code_290 (pc1 := 297) (by decide) (fun hl => absurd (eqT hl) (by decide)) (fun hl => ?_)
            refine blk X19 hby b546 (pc' := 310) (Ls' := #[i_ p1, i_ p2, i_ p3, i_ p4, i_ p5, i_ 3, i_ y1, i_ y2, i_ y3, i_ y4, r_ (h4.size), r_ (h9.size), r_ (h13.size), r_ (x'), i_ 0, i_ 0, i_ 1, i_ 0, i_ 2, u_, u_]) (st' := []) rfl ?_
            refine blk X19 hby b547 (pc' := 312) (Ls' := #[i_ p1, i_ p2, i_ p3, i_ p4, i_ p5, i_ 3, i_ y1, i_ y2, i_ y3, i_ y4, r_ (h4.size), r_ (h9.size), r_ (h13.size), r_ (x'), i_ 0, i_ 0, i_ 1, i_ 0, i_ 2, u_, u_]) (st' := [(.int 0)]) rfl ?_
            refine br0 X19 hby d_code_312 (pc1 := 319) (by decide) (fun hl => ?_) (fun hl => absurd (eqF hl) (fun q => q rfl))
            refine blk X19 hby b548 (pc' := 321) (Ls' := #[i_ p1, i_ p2, i_ p3, i_ p4, i_ p5, i_ 3, i_ y1, i_ y2, i_ y3, i_ y4, r_ (h4.size), r_ (h9.size), r_ (h13.size), r_ (x'), i_ 0, i_ 0, i_ 1, i_ 0, i_ 2, u_, u_]) (st' := [(.int 1)]) rfl ?_
            refine br0 X19 hby d_code_321 (pc1 := 328) (by decide) (fun hl => absurd (eqT hl) (by decide)) (fun hl => ?_)
            refine blk X19 hby b549 (pc' := 359) (Ls' := #[i_ p1, i_ p2, i_ p3, i_ p4, i_ p5, i_ 3, i_ y1, i_ y2, i_ y3, i_ y4, r_ (h4.size), r_ (h9.size), r_ (h13.size), r_ (x'), i_ 0, i_ 0, i_ 1, i_ 0, i_ 2, i_ 3, i_ ((3 : Int32) - (2 : Int32))]) (st' := [(.ref (x'))]) rfl ?_
            show Go _ _ _ _ (T19.setTop (mkF m 359 #[i_ p1, i_ p2, i_ p3, i_ p4, i_ p5, i_ 3, i_ y1, i_ y2, i_ y3, i_ y4, r_ (h4.size), r_ (h9.size), r_ (h13.size), r_ (x'), i_ 0, i_ 0, i_ 1, i_ 0, i_ 2, i_ 3, i_ 1] [(.ref (x'))]))
            refine gVirt X19 hby (argsL := []) (st := []) (ct_len hw hEL X19.old U hx') hx'.1 (hw _ (List.mem_of_getElem? (i := 59) rfl)) (hw _ (List.mem_of_getElem? (i := 35) rfl)) (hw _ (List.mem_of_getElem? (i := 37) rfl)) (hw _ (List.mem_of_getElem? (i := 36) rfl)) (hw _ (List.mem_of_getElem? (i := 11) rfl)) (hw _ (List.mem_of_getElem? (i := 38) rfl)) pd___I rfl d_code_359 rfl (by rw [hml]; rfl) all0 (by decide) (Nat.le_of_ble_eq_true rfl) (by decide) (by decide) (fun v20 T20 h20 S20 X20 q20 sS20 sz20 => ?_)
            obtain ⟨rfl, rfl⟩ := q20
            show Go _ _ _ _ (T20.setTop (mkF m 362 #[i_ p1, i_ p2, i_ p3, i_ p4, i_ p5, i_ 3, i_ y1, i_ y2, i_ y3, i_ y4, r_ (h4.size), r_ (h9.size), r_ (h13.size), r_ (x'), i_ 0, i_ 0, i_ 1, i_ 0, i_ 2, i_ 3, i_ 1] [(.int (Int32.ofNat (([y1, y2, y3].drop 2).take (3 - 2)).length))]))
            show Go _ _ _ _ (T20.setTop (mkF m 362 #[i_ p1, i_ p2, i_ p3, i_ p4, i_ p5, i_ 3, i_ y1, i_ y2, i_ y3, i_ y4, r_ (h4.size), r_ (h9.size), r_ (h13.size), r_ (x'), i_ 0, i_ 0, i_ 1, i_ 0, i_ 2, i_ 3, i_ 1] [(.int 1)]))
            refine blk X20 hby b550 (pc' := 364) (Ls' := #[i_ p1, i_ p2, i_ p3, i_ p4, i_ p5, i_ 3, i_ y1, i_ y2, i_ y3, i_ y4, r_ (h4.size), r_ (h9.size), r_ (h13.size), r_ (x'), i_ 0, i_ 0, i_ 1, i_ 0, i_ 2, i_ 3, i_ 1]) (st' := [(.int 1), (.int 1)]) rfl ?_
            refine brI X20 hby d_code_364 (pc1 := 369) (by decide) (fun hl => ?_) (fun hl => absurd (eqF hl) (fun q => q rfl))
            refine blk X20 hby b551 (pc' := 371) (Ls' := #[i_ p1, i_ p2, i_ p3, i_ p4, i_ p5, i_ 3, i_ y1, i_ y2, i_ y3, i_ y4, r_ (h4.size), r_ (h9.size), r_ (h13.size), r_ (x'), i_ 0, i_ 0, i_ 1, i_ 0, i_ 2, i_ 3, i_ 1]) (st' := [(.int 1)]) rfl ?_
            refine br0 X20 hby d_code_371 (pc1 := 388) (by decide) (fun hl => absurd (leT hl) (fun q => q (by decide))) (fun hl => ?_)
            refine blk X20 hby b552 (pc' := 377) (Ls' := #[i_ p1, i_ p2, i_ p3, i_ p4, i_ p5, i_ 3, i_ y1, i_ y2, i_ y3, i_ y4, r_ (h4.size), r_ (h9.size), r_ (h13.size), r_ (x'), i_ 0, i_ 0, i_ 1, i_ 0, i_ 2, i_ 3, i_ 1]) (st' := [(.int 0), (.ref (x'))]) rfl ?_
            refine gVirt X20 hby (argsL := [(.int 0)]) (st := []) (ct_chr hw hEL X20.old U hFM hfm hx' (i := 0) (Nat.le_of_ble_eq_true rfl)) hx'.1 (hw _ (List.mem_of_getElem? (i := 121) rfl)) (hw _ (List.mem_of_getElem? (i := 71) rfl)) (hw _ (List.mem_of_getElem? (i := 73) rfl)) (hw _ (List.mem_of_getElem? (i := 72) rfl)) (hw _ (List.mem_of_getElem? (i := 11) rfl)) (hw _ (List.mem_of_getElem? (i := 74) rfl)) pd__I_C rfl d_code_377 rfl (by rw [hml]; rfl) all0 (by decide) (Nat.le_of_ble_eq_true rfl) (by decide) (by decide) (fun v21 T21 h21 S21 X21 q21 sS21 sz21 => ?_)
            obtain ⟨rfl, rfl⟩ := q21
            show Go _ _ _ _ (T21.setTop (mkF m 380 #[i_ p1, i_ p2, i_ p3, i_ p4, i_ p5, i_ 3, i_ y1, i_ y2, i_ y3, i_ y4, r_ (h4.size), r_ (h9.size), r_ (h13.size), r_ (x'), i_ 0, i_ 0, i_ 1, i_ 0, i_ 2, i_ 3, i_ 1] [(.int ((([y1, y2, y3].drop 2).take (3 - 2)).getD 0 0))]))
            show Go _ _ _ _ (T21.setTop (mkF m 380 #[i_ p1, i_ p2, i_ p3, i_ p4, i_ p5, i_ 3, i_ y1, i_ y2, i_ y3, i_ y4, r_ (h4.size), r_ (h9.size), r_ (h13.size), r_ (x'), i_ 0, i_ 0, i_ 1, i_ 0, i_ 2, i_ 3, i_ 1] [(.int y3)]))
            refine blk X21 hby b553 (pc' := 384) (Ls' := #[i_ p1, i_ p2, i_ p3, i_ p4, i_ p5, i_ 3, i_ y1, i_ y2, i_ y3, i_ y4, r_ (h4.size), r_ (h9.size), r_ (h13.size), r_ (x'), i_ 0, i_ 0, i_ 1, i_ 0, i_ 2, i_ 3, i_ 1]) (st' := [(.int 2), (.ref (h4.size)), (.int y3)]) rfl ?_
            refine gLd X21 hby hVd (Or.inr (Or.inl ⟨rfl, rfl⟩)) d_code_384 (i := 2) rfl (Nat.le_of_ble_eq_true rfl) ?_
            refine brI X21 hby d_code_385 (pc1 := 458) (by decide) (fun hl => absurd (neT hl) (fun q => q rfl)) (fun hl => ?_)
            refine blk X21 hby b554 (pc' := 391) (Ls' := #[i_ p1, i_ p2, i_ p3, i_ p4, i_ p5, i_ 3, i_ y1, i_ y2, i_ y3, i_ y4, r_ (h4.size), r_ (h9.size), r_ (h13.size), r_ (x'), i_ 0, i_ 0, i_ 1, i_ 0, i_ 2, i_ 3, i_ 1]) (st' := [(.int 1), (.int 1)]) rfl ?_
            refine brI X21 hby d_code_391 (pc1 := 410) (by decide) (fun hl => ?_) (fun hl => absurd (leF hl) (by decide))
            refine blk X21 hby b555 (pc' := 413) (Ls' := #[i_ p1, i_ p2, i_ p3, i_ p4, i_ p5, i_ 3, i_ y1, i_ y2, i_ y3, i_ y4, r_ (h4.size), r_ (h9.size), r_ (h13.size), r_ (x'), i_ 0, i_ 0, i_ 1, i_ 0, i_ 2, i_ 3, i_ 1]) (st' := [(.int 2), (.int 1)]) rfl ?_
            refine brI X21 hby d_code_413 (pc1 := 432) (by decide) (fun hl => ?_) (fun hl => absurd (leF hl) (by decide))
            refine blk X21 hby b556 (pc' := 435) (Ls' := #[i_ p1, i_ p2, i_ p3, i_ p4, i_ p5, i_ 3, i_ y1, i_ y2, i_ y3, i_ y4, r_ (h4.size), r_ (h9.size), r_ (h13.size), r_ (x'), i_ 0, i_ 0, i_ 1, i_ 0, i_ 2, i_ 3, i_ 1]) (st' := [(.int 3), (.int 1)]) rfl ?_
            refine brI X21 hby d_code_435 (pc1 := 454) (by decide) (fun hl => ?_) (fun hl => absurd (leF hl) (by decide))
            refine blk X21 hby b557 (pc' := 459) (Ls' := #[i_ p1, i_ p2, i_ p3, i_ p4, i_ p5, i_ 3, i_ y1, i_ y2, i_ y3, i_ y4, r_ (h4.size), r_ (h9.size), r_ (h13.size), r_ (x'), i_ 0, i_ 0, i_ 1, i_ 0, i_ 2, i_ 3, i_ 1]) (st' := [(.int 1)]) rfl ?_
            exact retI' X21 hby hret d_code_459 rfl (fun S' hS' => rfl)
          · skip
            have wj0 : wsB y1 = true := g4 0 (by decide)
            rw [wj0] at hv0
            replace hv0 : v0' = (0 : Int32) := hv0
            subst hv0
            have wj1 : wsB y2 = true := g4 1 (by decide)
            rw [wj1] at hv1
            replace hv1 : v1' = (0 : Int32) := hv1
            subst hv1
            have wj2 : wsB y3 = true := g4 2 (by decide)
            rw [wj2] at hv2
            replace hv2 : v2' = (0 : Int32) := hv2
            subst hv2
            show Go _ _ _ _ (T19.setTop (mkF m 270 #[i_ p1, i_ p2, i_ p3, i_ p4, i_ p5, i_ 3, i_ y1, i_ y2, i_ y3, i_ y4, r_ (h4.size), r_ (h9.size), r_ (h13.size), r_ (x'), i_ 0, i_ 0, i_ 0, i_ 0, u_, u_, u_] []))
            refine blk X19 hby b558 (pc' := 272) (Ls' := #[i_ p1, i_ p2, i_ p3, i_ p4, i_ p5, i_ 3, i_ y1, i_ y2, i_ y3, i_ y4, r_ (h4.size), r_ (h9.size), r_ (h13.size), r_ (x'), i_ 0, i_ 0, i_ 0, i_ 0, u_, u_, u_]) (st' := [(.int 0)]) rfl ?_
            refine br0 X19 hby d_code_272 (pc1 := 279) (by decide) (fun hl => ?_) (fun hl => absurd (eqF hl) (fun q => q rfl))
            refine blk X19 hby b559 (pc' := 281) (Ls' := #[i_ p1, i_ p2, i_ p3, i_ p4, i_ p5, i_ 3, i_ y1, i_ y2, i_ y3, i_ y4, r_ (h4.size), r_ (h9.size), r_ (h13.size), r_ (x'), i_ 0, i_ 0, i_ 0, i_ 0, u_, u_, u_]) (st' := [(.int 0)]) rfl ?_
            refine br0 X19 hby d_code_281 (pc1 := 288) (by decide) (fun hl => ?_) (fun hl => absurd (eqF hl) (fun q => q rfl))
            refine blk X19 hby b560 (pc' := 290) (Ls' := #[i_ p1, i_ p2, i_ p3, i_ p4, i_ p5, i_ 3, i_ y1, i_ y2, i_ y3, i_ y4, r_ (h4.size), r_ (h9.size), r_ (h13.size), r_ (x'), i_ 0, i_ 0, i_ 0, i_ 0, u_, u_, u_]) (st' := [(.int 0)]) rfl ?_
            refine br0 X19 hby d_code_290 (pc1 := 297) (by decide) (fun hl => ?_) (fun hl => absurd (eqF hl) (fun q => q rfl))
            refine blk X19 hby b561 (pc' := 299) (Ls' := #[i_ p1, i_ p2, i_ p3, i_ p4, i_ p5, i_ 3, i_ y1, i_ y2, i_ y3, i_ y4, r_ (h4.size), r_ (h9.size), r_ (h13.size), r_ (x'), i_ 0, i_ 0, i_ 0, i_ 0, u_, u_, u_]) (st' := [(.int 0)]) rfl ?_
            refine br0 X19 hby d_code_299 (pc1 := 306) (by decide) (fun hl => ?_) (fun hl => absurd (eqF hl) (fun q => q rfl))
            refine blk X19 hby b562 (pc' := 312) (Ls' := #[i_ p1, i_ p2, i_ p3, i_ p4, i_ p5, i_ 3, i_ y1, i_ y2, i_ y3, i_ y4, r_ (h4.size), r_ (h9.size), r_ (h13.size), r_ (x'), i_ 0, i_ 0, i_ 0, i_ 0, i_ 3, u_, u_]) (st' := [(.int 0)]) rfl ?_
            refine br0 X19 hby d_code_312 (pc1 := 319) (by decide) (fun hl => ?_) (fun hl => absurd (eqF hl) (fun q => q rfl))
            refine blk X19 hby b563 (pc' := 321) (Ls' := #[i_ p1, i_ p2, i_ p3, i_ p4, i_ p5, i_ 3, i_ y1, i_ y2, i_ y3, i_ y4, r_ (h4.size), r_ (h9.size), r_ (h13.size), r_ (x'), i_ 0, i_ 0, i_ 0, i_ 0, i_ 3, u_, u_]) (st' := [(.int 0)]) rfl ?_
            refine br0 X19 hby d_code_321 (pc1 := 328) (by decide) (fun hl => ?_) (fun hl => absurd (eqF hl) (fun q => q rfl))
            refine blk X19 hby b564 (pc' := 330) (Ls' := #[i_ p1, i_ p2, i_ p3, i_ p4, i_ p5, i_ 3, i_ y1, i_ y2, i_ y3, i_ y4, r_ (h4.size), r_ (h9.size), r_ (h13.size), r_ (x'), i_ 0, i_ 0, i_ 0, i_ 0, i_ 3, u_, u_]) (st' := [(.int 0)]) rfl ?_
            refine br0 X19 hby d_code_330 (pc1 := 337) (by decide) (fun hl => ?_) (fun hl => absurd (eqF hl) (fun q => q rfl))
            refine blk X19 hby b565 (pc' := 339) (Ls' := #[i_ p1, i_ p2, i_ p3, i_ p4, i_ p5, i_ 3, i_ y1, i_ y2, i_ y3, i_ y4, r_ (h4.size), r_ (h9.size), r_ (h13.size), r_ (x'), i_ 0, i_ 0, i_ 0, i_ 0, i_ 3, u_, u_]) (st' := [(.int 0)]) rfl ?_
            refine br0 X19 hby d_code_339 (pc1 := 346) (by decide) (fun hl => ?_) (fun hl => absurd (eqF hl) (fun q => q rfl))
            refine blk X19 hby b566 (pc' := 359) (Ls' := #[i_ p1, i_ p2, i_ p3, i_ p4, i_ p5, i_ 3, i_ y1, i_ y2, i_ y3, i_ y4, r_ (h4.size), r_ (h9.size), r_ (h13.size), r_ (x'), i_ 0, i_ 0, i_ 0, i_ 0, i_ 3, i_ 3, i_ ((3 : Int32) - (3 : Int32))]) (st' := [(.ref (x'))]) rfl ?_
            show Go _ _ _ _ (T19.setTop (mkF m 359 #[i_ p1, i_ p2, i_ p3, i_ p4, i_ p5, i_ 3, i_ y1, i_ y2, i_ y3, i_ y4, r_ (h4.size), r_ (h9.size), r_ (h13.size), r_ (x'), i_ 0, i_ 0, i_ 0, i_ 0, i_ 3, i_ 3, i_ 0] [(.ref (x'))]))
            refine gVirt X19 hby (argsL := []) (st := []) (ct_len hw hEL X19.old U hx') hx'.1 (hw _ (List.mem_of_getElem? (i := 59) rfl)) (hw _ (List.mem_of_getElem? (i := 35) rfl)) (hw _ (List.mem_of_getElem? (i := 37) rfl)) (hw _ (List.mem_of_getElem? (i := 36) rfl)) (hw _ (List.mem_of_getElem? (i := 11) rfl)) (hw _ (List.mem_of_getElem? (i := 38) rfl)) pd___I rfl d_code_359 rfl (by rw [hml]; rfl) all0 (by decide) (Nat.le_of_ble_eq_true rfl) (by decide) (by decide) (fun v20 T20 h20 S20 X20 q20 sS20 sz20 => ?_)
            obtain ⟨rfl, rfl⟩ := q20
            show Go _ _ _ _ (T20.setTop (mkF m 362 #[i_ p1, i_ p2, i_ p3, i_ p4, i_ p5, i_ 3, i_ y1, i_ y2, i_ y3, i_ y4, r_ (h4.size), r_ (h9.size), r_ (h13.size), r_ (x'), i_ 0, i_ 0, i_ 0, i_ 0, i_ 3, i_ 3, i_ 0] [(.int (Int32.ofNat (([y1, y2, y3].drop 3).take (3 - 3)).length))]))
            show Go _ _ _ _ (T20.setTop (mkF m 362 #[i_ p1, i_ p2, i_ p3, i_ p4, i_ p5, i_ 3, i_ y1, i_ y2, i_ y3, i_ y4, r_ (h4.size), r_ (h9.size), r_ (h13.size), r_ (x'), i_ 0, i_ 0, i_ 0, i_ 0, i_ 3, i_ 3, i_ 0] [(.int 0)]))
            refine blk X20 hby b567 (pc' := 364) (Ls' := #[i_ p1, i_ p2, i_ p3, i_ p4, i_ p5, i_ 3, i_ y1, i_ y2, i_ y3, i_ y4, r_ (h4.size), r_ (h9.size), r_ (h13.size), r_ (x'), i_ 0, i_ 0, i_ 0, i_ 0, i_ 3, i_ 3, i_ 0]) (st' := [(.int 0), (.int 0)]) rfl ?_
            refine brI X20 hby d_code_364 (pc1 := 369) (by decide) (fun hl => ?_) (fun hl => absurd (eqF hl) (fun q => q rfl))
            refine blk X20 hby b568 (pc' := 371) (Ls' := #[i_ p1, i_ p2, i_ p3, i_ p4, i_ p5, i_ 3, i_ y1, i_ y2, i_ y3, i_ y4, r_ (h4.size), r_ (h9.size), r_ (h13.size), r_ (x'), i_ 0, i_ 0, i_ 0, i_ 0, i_ 3, i_ 3, i_ 0]) (st' := [(.int 0)]) rfl ?_
            refine br0 X20 hby d_code_371 (pc1 := 388) (by decide) (fun hl => ?_) (fun hl => absurd (leF hl) (by decide))
            refine blk X20 hby b569 (pc' := 391) (Ls' := #[i_ p1, i_ p2, i_ p3, i_ p4, i_ p5, i_ 3, i_ y1, i_ y2, i_ y3, i_ y4, r_ (h4.size), r_ (h9.size), r_ (h13.size), r_ (x'), i_ 0, i_ 0, i_ 0, i_ 0, i_ 3, i_ 3, i_ 0]) (st' := [(.int 1), (.int 0)]) rfl ?_
            refine brI X20 hby d_code_391 (pc1 := 410) (by decide) (fun hl => ?_) (fun hl => absurd (leF hl) (by decide))
            refine blk X20 hby b570 (pc' := 413) (Ls' := #[i_ p1, i_ p2, i_ p3, i_ p4, i_ p5, i_ 3, i_ y1, i_ y2, i_ y3, i_ y4, r_ (h4.size), r_ (h9.size), r_ (h13.size), r_ (x'), i_ 0, i_ 0, i_ 0, i_ 0, i_ 3, i_ 3, i_ 0]) (st' := [(.int 2), (.int 0)]) rfl ?_
            refine brI X20 hby d_code_413 (pc1 := 432) (by decide) (fun hl => ?_) (fun hl => absurd (leF hl) (by decide))
            refine blk X20 hby b571 (pc' := 435) (Ls' := #[i_ p1, i_ p2, i_ p3, i_ p4, i_ p5, i_ 3, i_ y1, i_ y2, i_ y3, i_ y4, r_ (h4.size), r_ (h9.size), r_ (h13.size), r_ (x'), i_ 0, i_ 0, i_ 0, i_ 0, i_ 3, i_ 3, i_ 0]) (st' := [(.int 3), (.int 0)]) rfl ?_
            refine brI X20 hby d_code_435 (pc1 := 454) (by decide) (fun hl => ?_) (fun hl => absurd (leF hl) (by decide))
            refine blk X20 hby b572 (pc' := 459) (Ls' := #[i_ p1, i_ p2, i_ p3, i_ p4, i_ p5, i_ 3, i_ y1, i_ y2, i_ y3, i_ y4, r_ (h4.size), r_ (h9.size), r_ (h13.size), r_ (x'), i_ 0, i_ 0, i_ 0, i_ 0, i_ 3, i_ 3, i_ 0]) (st' := [(.int 1)]) rfl ?_
            exact retI' X20 hby hret d_code_459 rfl (fun S' hS' => rfl)
        skip
        refine br0 X19 hby d_code_239 (pc1 := 246) (by decide) (fun hw2 => ?_) (fun hw2 => ?_)
        · replace hw2 := neT hw2
          refine blk X19 hby b573 (pc' := 247) (Ls' := #[i_ p1, i_ p2, i_ p3, i_ p4, i_ p5, i_ 3, i_ y1, i_ y2, i_ y3, i_ y4, r_ (h4.size), r_ (h9.size), r_ (h13.size), r_ (x'), i_ (v0'), i_ (v1'), u_, u_, u_, u_, u_]) (st' := [(.int 0)]) rfl ?_
          exact nx2 _ (by rw [if_pos (by simpa using fun q => hw2 (ite10.mpr q))])
        · replace hw2 := neF hw2
          refine blk X19 hby b574 (pc' := 247) (Ls' := #[i_ p1, i_ p2, i_ p3, i_ p4, i_ p5, i_ 3, i_ y1, i_ y2, i_ y3, i_ y4, r_ (h4.size), r_ (h9.size), r_ (h13.size), r_ (x'), i_ (v0'), i_ (v1'), u_, u_, u_, u_, u_]) (st' := [(.int 1)]) rfl ?_
          exact nx2 _ (by rw [ite10.mp hw2]; rfl)
      skip
      refine br0 X18 hby d_code_218 (pc1 := 225) (by decide) (fun hw1 => ?_) (fun hw1 => ?_)
      · replace hw1 := neT hw1
        refine blk X18 hby b575 (pc' := 226) (Ls' := #[i_ p1, i_ p2, i_ p3, i_ p4, i_ p5, i_ 3, i_ y1, i_ y2, i_ y3, i_ y4, r_ (h4.size), r_ (h9.size), r_ (h13.size), r_ (x'), i_ (v0'), u_, u_, u_, u_, u_, u_]) (st' := [(.int 0)]) rfl ?_
        exact nx1 _ (by rw [if_pos (by simpa using fun q => hw1 (ite10.mpr q))])
      · replace hw1 := neF hw1
        refine blk X18 hby b576 (pc' := 226) (Ls' := #[i_ p1, i_ p2, i_ p3, i_ p4, i_ p5, i_ 3, i_ y1, i_ y2, i_ y3, i_ y4, r_ (h4.size), r_ (h9.size), r_ (h13.size), r_ (x'), i_ (v0'), u_, u_, u_, u_, u_, u_]) (st' := [(.int 1)]) rfl ?_
        exact nx1 _ (by rw [ite10.mp hw1]; rfl)
    skip
    refine br0 X17 hby d_code_197 (pc1 := 204) (by decide) (fun hw0 => ?_) (fun hw0 => ?_)
    · replace hw0 := neT hw0
      refine blk X17 hby b577 (pc' := 205) (Ls' := #[i_ p1, i_ p2, i_ p3, i_ p4, i_ p5, i_ 3, i_ y1, i_ y2, i_ y3, i_ y4, r_ (h4.size), r_ (h9.size), r_ (h13.size), r_ (x'), u_, u_, u_, u_, u_, u_, u_]) (st' := [(.int 0)]) rfl ?_
      exact nx0 _ (by rw [if_pos (by simpa using fun q => hw0 (ite10.mpr q))])
    · replace hw0 := neF hw0
      refine blk X17 hby b578 (pc' := 205) (Ls' := #[i_ p1, i_ p2, i_ p3, i_ p4, i_ p5, i_ 3, i_ y1, i_ y2, i_ y3, i_ y4, r_ (h4.size), r_ (h9.size), r_ (h13.size), r_ (x'), u_, u_, u_, u_, u_, u_, u_]) (st' := [(.int 1)]) rfl ?_
      exact nx0 _ (by rw [ite10.mp hw0]; rfl)
  · rw [hq]
    show Go _ _ _ _ (T9.setTop (mkF m 58 #[i_ p1, i_ p2, i_ p3, i_ p4, i_ p5, i_ 4, i_ y1, i_ y2, i_ y3, i_ y4, r_ (h4.size), u_, u_, u_, u_, u_, u_, u_, u_, u_, u_] []))
    refine blk X9 hby b579 (pc' := 60) (Ls' := #[i_ p1, i_ p2, i_ p3, i_ p4, i_ p5, i_ 4, i_ y1, i_ y2, i_ y3, i_ y4, r_ (h4.size), u_, u_, u_, u_, u_, u_, u_, u_, u_, u_]) (st' := [(.int 4)]) rfl ?_
    refine br0 X9 hby d_code_60 (pc1 := 71) (by decide) (fun hn => ?_) (fun hn => absurd (neF hn) (by decide))
    refine blk X9 hby b580 (pc' := 74) (Ls' := #[i_ p1, i_ p2, i_ p3, i_ p4, i_ p5, i_ 4, i_ y1, i_ y2, i_ y3, i_ y4, r_ (h4.size), u_, u_, u_, u_, u_, u_, u_, u_, u_, u_]) (st' := [(.int 1), (.int 4)]) rfl ?_
    refine brI X9 hby d_code_74 (pc1 := 90) (by decide) (fun hn => ?_) (fun hn => absurd (neF hn) (by decide))
    refine blk X9 hby b581 (pc' := 93) (Ls' := #[i_ p1, i_ p2, i_ p3, i_ p4, i_ p5, i_ 4, i_ y1, i_ y2, i_ y3, i_ y4, r_ (h4.size), u_, u_, u_, u_, u_, u_, u_, u_, u_, u_]) (st' := [(.int 2), (.int 4)]) rfl ?_
    refine brI X9 hby d_code_93 (pc1 := 114) (by decide) (fun hn => ?_) (fun hn => absurd (neF hn) (by decide))
    refine blk X9 hby b582 (pc' := 117) (Ls' := #[i_ p1, i_ p2, i_ p3, i_ p4, i_ p5, i_ 4, i_ y1, i_ y2, i_ y3, i_ y4, r_ (h4.size), u_, u_, u_, u_, u_, u_, u_, u_, u_, u_]) (st' := [(.int 3), (.int 4)]) rfl ?_
    refine brI X9 hby d_code_117 (pc1 := 143) (by decide) (fun hn => ?_) (fun hn => absurd (neF hn) (by decide))
    refine blk X9 hby b583 (pc' := 144) (Ls' := #[i_ p1, i_ p2, i_ p3, i_ p4, i_ p5, i_ 4, i_ y1, i_ y2, i_ y3, i_ y4, r_ (h4.size), u_, u_, u_, u_, u_, u_, u_, u_, u_, u_]) (st' := [(.int 4)]) rfl ?_
    refine gNewA X9 hby (aty := .char) (hw _ (List.mem_of_getElem? (i := 8) rfl)) d_code_144 rfl (N := 4) (cap := 4) rfl (by decide) (by decide) (by decide) (by decide) (fun T10 h10 S10 X10 E10 V10 sS10 sn10 => ?_)
    have ga : Z.heap.size ≤ h9.size := X9.old.2.1
    have hV : Ari Z h10 h9.size .char (List.replicate 4 0) := V10
    have hsa : S10 h9.size := sn10
    have hVlt := hVc.lt
    replace hVc := hVc.ext E10
    have nca : h4.size ≠ h9.size := Nat.ne_of_lt hVlt
    refine blk X10 hby b584 (pc' := 150) (Ls' := #[i_ p1, i_ p2, i_ p3, i_ p4, i_ p5, i_ 4, i_ y1, i_ y2, i_ y3, i_ y4, r_ (h4.size), u_, u_, u_, u_, u_, u_, u_, u_, u_, u_]) (st' := [(.int y1), (.int 0), (.ref (h9.size)), (.ref (h9.size))]) rfl ?_
    refine gSt X10 hby hV (Or.inr (Or.inl ⟨rfl, rfl⟩)) d_code_150 (i := 0) rfl (Nat.le_of_ble_eq_true rfl) (fits_nar_char _) ga hsa (fun T11 h11 S11 X11 W11 V11 sS11 => ?_)
    rw [nar_char hr1] at V11
    replace hV := V11; replace hsa := sS11 _ hsa; replace hVc := hVc.other W11 nca
    refine blk X11 hby b585 (pc' := 155) (Ls' := #[i_ p1, i_ p2, i_ p3, i_ p4, i_ p5, i_ 4, i_ y1, i_ y2, i_ y3, i_ y4, r_ (h4.size), u_, u_, u_, u_, u_, u_, u_, u_, u_, u_]) (st' := [(.int y2), (.int 1), (.ref (h9.size)), (.ref (h9.size))]) rfl ?_
    refine gSt X11 hby hV (Or.inr (Or.inl ⟨rfl, rfl⟩)) d_code_155 (i := 1) rfl (Nat.le_of_ble_eq_true rfl) (fits_nar_char _) ga hsa (fun T12 h12 S12 X12 W12 V12 sS12 => ?_)
    rw [nar_char hr2] at V12
    replace hV := V12; replace hsa := sS12 _ hsa; replace hVc := hVc.other W12 nca
    refine blk X12 hby b586 (pc' := 160) (Ls' := #[i_ p1, i_ p2, i_ p3, i_ p4, i_ p5, i_ 4, i_ y1, i_ y2, i_ y3, i_ y4, r_ (h4.size), u_, u_, u_, u_, u_, u_, u_, u_, u_, u_]) (st' := [(.int y3), (.int 2), (.ref (h9.size)), (.ref (h9.size))]) rfl ?_
    refine gSt X12 hby hV (Or.inr (Or.inl ⟨rfl, rfl⟩)) d_code_160 (i := 2) rfl (Nat.le_of_ble_eq_true rfl) (fits_nar_char _) ga hsa (fun T13 h13 S13 X13 W13 V13 sS13 => ?_)
    rw [nar_char hr3] at V13
    replace hV := V13; replace hsa := sS13 _ hsa; replace hVc := hVc.other W13 nca
    refine blk X13 hby b587 (pc' := 165) (Ls' := #[i_ p1, i_ p2, i_ p3, i_ p4, i_ p5, i_ 4, i_ y1, i_ y2, i_ y3, i_ y4, r_ (h4.size), u_, u_, u_, u_, u_, u_, u_, u_, u_, u_]) (st' := [(.int y4), (.int 3), (.ref (h9.size)), (.ref (h9.size))]) rfl ?_
    refine gSt X13 hby hV (Or.inr (Or.inl ⟨rfl, rfl⟩)) d_code_165 (i := 3) rfl (Nat.le_of_ble_eq_true rfl) (fits_nar_char _) ga hsa (fun T14 h14 S14 X14 W14 V14 sS14 => ?_)
    rw [nar_char hr4] at V14
    replace hV := V14; replace hsa := sS14 _ hsa; replace hVc := hVc.other W14 nca
    replace hV : Ari Z h14 h9.size .char [y1, y2, y3, y4] := hV
    refine blk X14 hby b588 (pc' := 168) (Ls' := #[i_ p1, i_ p2, i_ p3, i_ p4, i_ p5, i_ 4, i_ y1, i_ y2, i_ y3, i_ y4, r_ (h4.size), r_ (h9.size), u_, u_, u_, u_, u_, u_, u_, u_, u_]) (st' := []) rfl ?_
    refine gNew X14 hby (hw _ (List.mem_of_getElem? (i := 9) rfl)) (hw _ (List.mem_of_getElem? (i := 10) rfl)) (hw _ (List.mem_of_getElem? (i := 11) rfl)) d_code_168 (by decide) (by decide) (fun T15 h15 S15 X15 E15 A15 D15 M15 sS15 sn15 => ?_)
    refine blk X15 hby b589 (pc' := 174) (Ls' := #[i_ p1, i_ p2, i_ p3, i_ p4, i_ p5, i_ 4, i_ y1, i_ y2, i_ y3, i_ y4, r_ (h4.size), r_ (h9.size), u_, u_, u_, u_, u_, u_, u_, u_, u_]) (st' := [(.ref (h9.size)), (.ref (h14.size)), (.ref (h14.size))]) rfl ?_
    refine gInit X15 hby (argsL := [(.ref (h9.size))]) (st := [(.ref (h14.size))]) (ct_init1 hw hEL X15.old U A15 (D15 (O := "java/lang/String") (nm := "value") (d := "[B") (Or.inr (hw _ (List.mem_of_getElem? (i := 24) rfl))) (ty := .array .byte) (by decide)) (D15 (O := "java/lang/String") (nm := "coder") (d := "B") (Or.inr (hw _ (List.mem_of_getElem? (i := 25) rfl))) (ty := .byte) (by decide)) (hV.ext E15) X14.old.2.1 (Nat.le_of_ble_eq_true rfl)) rfl (hw _ (List.mem_of_getElem? (i := 12) rfl)) (hw _ (List.mem_of_getElem? (i := 13) rfl)) (hw _ (List.mem_of_getElem? (i := 11) rfl)) (hw _ (List.mem_of_getElem? (i := 14) rfl)) pd___C_V rfl d_code_174 rfl (by rw [hml]; rfl) (allS sn15 all0) (by decide) (Nat.le_of_ble_eq_true rfl) (by decide) (by decide) (fun v16 T16 h16 S16 X16 q16 sS16 sz16 => ?_)
    obtain ⟨rfl, u1, b, hx, -⟩ := q16
    have hVd : Ari Z h16 h4.size .char [y1, y2, y3, y4] := (hVc.ext E15).keep u1 (fun z => by rw [List.mem_singleton] at z; exact absurd hVc.lt (by rw [z]; exact Nat.lt_irrefl _))
    show Go _ _ _ _ (T16.setTop (mkF m 177 #[i_ p1, i_ p2, i_ p3, i_ p4, i_ p5, i_ 4, i_ y1, i_ y2, i_ y3, i_ y4, r_ (h4.size), r_ (h9.size), u_, u_, u_, u_, u_, u_, u_, u_, u_] [(.ref (h14.size))]))
    refine blk X16 hby b590 (pc' := 181) (Ls' := #[i_ p1, i_ p2, i_ p3, i_ p4, i_ p5, i_ 4, i_ y1, i_ y2, i_ y3, i_ y4, r_ (h4.size), r_ (h9.size), r_ (h14.size), u_, u_, u_, u_, u_, u_, u_, u_]) (st' := [(.ref (h14.size))]) rfl ?_
    refine gStatic X16 hby (argsL := [(.ref (h14.size))]) (st := []) (ct_ent hw hEL X16.old U hFM hfm hx (Nat.le_of_ble_eq_true rfl)) (hw _ (List.mem_of_getElem? (i := 30) rfl)) (hw _ (List.mem_of_getElem? (i := 31) rfl)) (hw _ (List.mem_of_getElem? (i := 32) rfl)) (hw _ (List.mem_of_getElem? (i := 33) rfl)) pd__Ljava_lang_String__Ljava_lang_String_ rfl d_code_181 rfl (by rw [hml]; rfl) all0 (by decide) (Nat.le_of_ble_eq_true rfl) (by decide) (by decide) (fun v17 T17 h17 S17 X17 q17 sS17 sz17 => ?_)
    obtain ⟨i, k, x', b', rfl, g1, g2, g3, g4, g5, g6, g7, hx', K'⟩ := q17
    replace hVd := hVd.keep K' nin0
    show Go _ _ _ _ (T17.setTop (mkF m 184 #[i_ p1, i_ p2, i_ p3, i_ p4, i_ p5, i_ 4, i_ y1, i_ y2, i_ y3, i_ y4, r_ (h4.size), r_ (h9.size), r_ (h14.size), u_, u_, u_, u_, u_, u_, u_, u_] [(.ref (x'))]))
    replace g2 : k ≤ 4 := g2; replace g3 : i < 4 → i < k := g3; replace g5 : i < 4 → wsB ([y1, y2, y3, y4].getD i 0) = false := g5; replace g6 : ∀ j, k ≤ j → j < 4 → wsB ([y1, y2, y3, y4].getD j 0) = true := g6
    refine blk X17 hby b591 (pc' := 189) (Ls' := #[i_ p1, i_ p2, i_ p3, i_ p4, i_ p5, i_ 4, i_ y1, i_ y2, i_ y3, i_ y4, r_ (h4.size), r_ (h9.size), r_ (h14.size), r_ (x'), u_, u_, u_, u_, u_, u_, u_]) (st' := [(.int 4), (.int 0)]) rfl ?_
    refine brI X17 hby d_code_189 (pc1 := 204) (by decide) (fun hj0 => absurd (geT hj0) (fun q => q (by decide))) (fun hj0 => ?_)
    refine blk X17 hby b592 (pc' := 194) (Ls' := #[i_ p1, i_ p2, i_ p3, i_ p4, i_ p5, i_ 4, i_ y1, i_ y2, i_ y3, i_ y4, r_ (h4.size), r_ (h9.size), r_ (h14.size), r_ (x'), u_, u_, u_, u_, u_, u_, u_]) (st' := [(.int y1)]) rfl ?_
    refine gStatic X17 hby (argsL := [(.int y1)]) (st := []) (ct_isws hw hEL X17.old) (hw _ (List.mem_of_getElem? (i := 118) rfl)) (hw _ (List.mem_of_getElem? (i := 119) rfl)) (hw _ (List.mem_of_getElem? (i := 3) rfl)) (hw _ (List.mem_of_getElem? (i := 120) rfl)) pd__C_Z rfl d_code_194 rfl (by rw [hml]; rfl) all0 (by decide) (Nat.le_of_ble_eq_true rfl) (by decide) (by decide) (fun v18 T18 h18 S18 X18 q18 sS18 sz18 => ?_)
    obtain ⟨rfl, rfl⟩ := q18
    show Go _ _ _ _ (T18.setTop (mkF m 197 #[i_ p1, i_ p2, i_ p3, i_ p4, i_ p5, i_ 4, i_ y1, i_ y2, i_ y3, i_ y4, r_ (h4.size), r_ (h9.size), r_ (h14.size), r_ (x'), u_, u_, u_, u_, u_, u_, u_] [(.int (if wsB y1 = true then 1 else 0))]))
    have nx0 : ∀ v0' : Int32, v0' = (if wsB y1 = true then 0 else 1) → Go p e below (Pst true Z EL room_1.cells room_1.slots (QL) s) (T18.setTop (mkF m 205 #[i_ p1, i_ p2, i_ p3, i_ p4, i_ p5, i_ 4, i_ y1, i_ y2, i_ y3, i_ y4, r_ (h4.size), r_ (h9.size), r_ (h14.size), r_ (x'), u_, u_, u_, u_, u_, u_, u_] [.int v0'])) := by
      intro v0' hv0
      refine blk X18 hby b593 (pc' := 207) (Ls' := #[i_ p1, i_ p2, i_ p3, i_ p4, i_ p5, i_ 4, i_ y1, i_ y2, i_ y3, i_ y4, r_ (h4.size), r_ (h9.size), r_ (h14.size), r_ (x'), i_ (v0'), u_, u_, u_, u_, u_, u_]) (st' := []) rfl ?_
      refine blk X18 hby b594 (pc' := 210) (Ls' := #[i_ p1, i_ p2, i_ p3, i_ p4, i_ p5, i_ 4, i_ y1, i_ y2, i_ y3, i_ y4, r_ (h4.size), r_ (h9.size), r_ (h14.size), r_ (x'), i_ (v0'), u_, u_, u_, u_, u_, u_]) (st' := [(.int 4), (.int 1)]) rfl ?_
      refine brI X18 hby d_code_210 (pc1 := 225) (by decide) (fun hj1 => absurd (geT hj1) (fun q => q (by decide))) (fun hj1 => ?_)
      refine blk X18 hby b595 (pc' := 215) (Ls' := #[i_ p1, i_ p2, i_ p3, i_ p4, i_ p5, i_ 4, i_ y1, i_ y2, i_ y3, i_ y4, r_ (h4.size), r_ (h9.size), r_ (h14.size), r_ (x'), i_ (v0'), u_, u_, u_, u_, u_, u_]) (st' := [(.int y2)]) rfl ?_
      refine gStatic X18 hby (argsL := [(.int y2)]) (st := []) (ct_isws hw hEL X18.old) (hw _ (List.mem_of_getElem? (i := 118) rfl)) (hw _ (List.mem_of_getElem? (i := 119) rfl)) (hw _ (List.mem_of_getElem? (i := 3) rfl)) (hw _ (List.mem_of_getElem? (i := 120) rfl)) pd__C_Z rfl d_code_215 rfl (by rw [hml]; rfl) all0 (by decide) (Nat.le_of_ble_eq_true rfl) (by decide) (by decide) (fun v19 T19 h19 S19 X19 q19 sS19 sz19 => ?_)
      obtain ⟨rfl, rfl⟩ := q19
      show Go _ _ _ _ (T19.setTop (mkF m 218 #[i_ p1, i_ p2, i_ p3, i_ p4, i_ p5, i_ 4, i_ y1, i_ y2, i_ y3, i_ y4, r_ (h4.size), r_ (h9.size), r_ (h14.size), r_ (x'), i_ (v0'), u_, u_, u_, u_, u_, u_] [(.int (if wsB y2 = true then 1 else 0))]))
      have nx1 : ∀ v1' : Int32, v1' = (if wsB y2 = true then 0 else 1) → Go p e below (Pst true Z EL room_1.cells room_1.slots (QL) s) (T19.setTop (mkF m 226 #[i_ p1, i_ p2, i_ p3, i_ p4, i_ p5, i_ 4, i_ y1, i_ y2, i_ y3, i_ y4, r_ (h4.size), r_ (h9.size), r_ (h14.size), r_ (x'), i_ (v0'), u_, u_, u_, u_, u_, u_] [.int v1'])) := by
        intro v1' hv1
        refine blk X19 hby b596 (pc' := 228) (Ls' := #[i_ p1, i_ p2, i_ p3, i_ p4, i_ p5, i_ 4, i_ y1, i_ y2, i_ y3, i_ y4, r_ (h4.size), r_ (h9.size), r_ (h14.size), r_ (x'), i_ (v0'), i_ (v1'), u_, u_, u_, u_, u_]) (st' := []) rfl ?_
        refine blk X19 hby b597 (pc' := 231) (Ls' := #[i_ p1, i_ p2, i_ p3, i_ p4, i_ p5, i_ 4, i_ y1, i_ y2, i_ y3, i_ y4, r_ (h4.size), r_ (h9.size), r_ (h14.size), r_ (x'), i_ (v0'), i_ (v1'), u_, u_, u_, u_, u_]) (st' := [(.int 4), (.int 2)]) rfl ?_
        refine brI X19 hby d_code_231 (pc1 := 246) (by decide) (fun hj2 => absurd (geT hj2) (fun q => q (by decide))) (fun hj2 => ?_)
        refine blk X19 hby b598 (pc' := 236) (Ls' := #[i_ p1, i_ p2, i_ p3, i_ p4, i_ p5, i_ 4, i_ y1, i_ y2, i_ y3, i_ y4, r_ (h4.size), r_ (h9.size), r_ (h14.size), r_ (x'), i_ (v0'), i_ (v1'), u_, u_, u_, u_, u_]) (st' := [(.int y3)]) rfl ?_
        refine gStatic X19 hby (argsL := [(.int y3)]) (st := []) (ct_isws hw hEL X19.old) (hw _ (List.mem_of_getElem? (i := 118) rfl)) (hw _ (List.mem_of_getElem? (i := 119) rfl)) (hw _ (List.mem_of_getElem? (i := 3) rfl)) (hw _ (List.mem_of_getElem? (i := 120) rfl)) pd__C_Z rfl d_code_236 rfl (by rw [hml]; rfl) all0 (by decide) (Nat.le_of_ble_eq_true rfl) (by decide) (by decide) (fun v20 T20 h20 S20 X20 q20 sS20 sz20 => ?_)
        obtain ⟨rfl, rfl⟩ := q20
        show Go _ _ _ _ (T20.setTop (mkF m 239 #[i_ p1, i_ p2, i_ p3, i_ p4, i_ p5, i_ 4, i_ y1, i_ y2, i_ y3, i_ y4, r_ (h4.size), r_ (h9.size), r_ (h14.size), r_ (x'), i_ (v0'), i_ (v1'), u_, u_, u_, u_, u_] [(.int (if wsB y3 = true then 1 else 0))]))
        have nx2 : ∀ v2' : Int32, v2' = (if wsB y3 = true then 0 else 1) → Go p e below (Pst true Z EL room_1.cells room_1.slots (QL) s) (T20.setTop (mkF m 247 #[i_ p1, i_ p2, i_ p3, i_ p4, i_ p5, i_ 4, i_ y1, i_ y2, i_ y3, i_ y4, r_ (h4.size), r_ (h9.size), r_ (h14.size), r_ (x'), i_ (v0'), i_ (v1'), u_, u_, u_, u_, u_] [.int v2'])) := by
          intro v2' hv2
          refine blk X20 hby b599 (pc' := 249) (Ls' := #[i_ p1, i_ p2, i_ p3, i_ p4, i_ p5, i_ 4, i_ y1, i_ y2, i_ y3, i_ y4, r_ (h4.size), r_ (h9.size), r_ (h14.size), r_ (x'), i_ (v0'), i_ (v1'), i_ (v2'), u_, u_, u_, u_]) (st' := []) rfl ?_
          refine blk X20 hby b600 (pc' := 252) (Ls' := #[i_ p1, i_ p2, i_ p3, i_ p4, i_ p5, i_ 4, i_ y1, i_ y2, i_ y3, i_ y4, r_ (h4.size), r_ (h9.size), r_ (h14.size), r_ (x'), i_ (v0'), i_ (v1'), i_ (v2'), u_, u_, u_, u_]) (st' := [(.int 4), (.int 3)]) rfl ?_
          refine brI X20 hby d_code_252 (pc1 := 267) (by decide) (fun hj3 => absurd (geT hj3) (fun q => q (by decide))) (fun hj3 => ?_)
          refine blk X20 hby b601 (pc' := 257) (Ls' := #[i_ p1, i_ p2, i_ p3, i_ p4, i_ p5, i_ 4, i_ y1, i_ y2, i_ y3, i_ y4, r_ (h4.size), r_ (h9.size), r_ (h14.size), r_ (x'), i_ (v0'), i_ (v1'), i_ (v2'), u_, u_, u_, u_]) (st' := [(.int y4)]) rfl ?_
          refine gStatic X20 hby (argsL := [(.int y4)]) (st := []) (ct_isws hw hEL X20.old) (hw _ (List.mem_of_getElem? (i := 118) rfl)) (hw _ (List.mem_of_getElem? (i := 119) rfl)) (hw _ (List.mem_of_getElem? (i := 3) rfl)) (hw _ (List.mem_of_getElem? (i := 120) rfl)) pd__C_Z rfl d_code_257 rfl (by rw [hml]; rfl) all0 (by decide) (Nat.le_of_ble_eq_true rfl) (by decide) (by decide) (fun v21 T21 h21 S21 X21 q21 sS21 sz21 => ?_)
          obtain ⟨rfl, rfl⟩ := q21
          show Go _ _ _ _ (T21.setTop (mkF m 260 #[i_ p1, i_ p2, i_ p3, i_ p4, i_ p5, i_ 4, i_ y1, i_ y2, i_ y3, i_ y4, r_ (h4.size), r_ (h9.size), r_ (h14.size), r_ (x'), i_ (v0'), i_ (v1'), i_ (v2'), u_, u_, u_, u_] [(.int (if wsB y4 = true then 1 else 0))]))
          have nx3 : ∀ v3' : Int32, v3' = (if wsB y4 = true then 0 else 1) → Go p e below (Pst true Z EL room_1.cells room_1.slots (QL) s) (T21.setTop (mkF m 268 #[i_ p1, i_ p2, i_ p3, i_ p4, i_ p5, i_ 4, i_ y1, i_ y2, i_ y3, i_ y4, r_ (h4.size), r_ (h9.size), r_ (h14.size), r_ (x'), i_ (v0'), i_ (v1'), i_ (v2'), u_, u_, u_, u_] [.int v3'])) := by
            intro v3' hv3
            refine blk X21 hby b602 (pc' := 270) (Ls' := #[i_ p1, i_ p2, i_ p3, i_ p4, i_ p5, i_ 4, i_ y1, i_ y2, i_ y3, i_ y4, r_ (h4.size), r_ (h9.size), r_ (h14.size), r_ (x'), i_ (v0'), i_ (v1'), i_ (v2'), i_ (v3'), u_, u_, u_]) (st' := []) rfl ?_
            have hik : (i = 0 ∧ k = 1) ∨ (i = 0 ∧ k = 2) ∨ (i = 0 ∧ k = 3) ∨ (i = 0 ∧ k = 4) ∨ (i = 1 ∧ k = 2) ∨ (i = 1 ∧ k = 3) ∨ (i = 1 ∧ k = 4) ∨ (i = 2 ∧ k = 3) ∨ (i = 2 ∧ k = 4) ∨ (i = 3 ∧ k = 4) ∨ (i = 4 ∧ k = 4) := by omega
            rcases hik with ⟨rfl, rfl⟩ | ⟨rfl, rfl⟩ | ⟨rfl, rfl⟩ | ⟨rfl, rfl⟩ | ⟨rfl, rfl⟩ | ⟨rfl, rfl⟩ | ⟨rfl, rfl⟩ | ⟨rfl, rfl⟩ | ⟨rfl, rfl⟩ | ⟨rfl, rfl⟩ | ⟨rfl, rfl⟩
            · skip
              have wj0 : wsB y1 = false := g5 (by decide)
              rw [wj0] at hv0
              replace hv0 : v0' = (1 : Int32) := hv0
              subst hv0
              have wj1 : wsB y2 = true := g6 1 (by decide) (by decide)
              rw [wj1] at hv1
              replace hv1 : v1' = (0 : Int32) := hv1
              subst hv1
              have wj2 : wsB y3 = true := g6 2 (by decide) (by decide)
              rw [wj2] at hv2
              replace hv2 : v2' = (0 : Int32) := hv2
              subst hv2
              have wj3 : wsB y4 = true := g6 3 (by decide) (by decide)
              rw [wj3] at hv3
              replace hv3 : v3' = (0 : Int32) := hv3
              subst hv3
              show Go _ _ _ _ (T21.setTop (mkF m 270 #[i_ p1, i_ p2, i_ p3, i_ p4, i_ p5, i_ 4, i_ y1, i_ y2, i_ y3, i_ y4, r_ (h4.size), r_ (h9.size), r_ (h14.size), r_ (x'), i_ 1, i_ 0, i_ 0, i_ 0, u_, u_, u_] []))
              refine blk X21 hby b603 (pc' := 272) (Ls' := #[i_ p1, i_ p2, i_ p3, i_ p4, i_ p5, i_ 4, i_ y1, i_ y2, i_ y3, i_ y4, r_ (h4.size), r_ (h9.size), r_ (h14.size), r_ (x'), i_ 1, i_ 0, i_ 0, i_ 0, u_, u_, u_]) (st' := [(.int 1)]) rfl ?_
              refine br0 X21 hby d_code_272 (pc1 := 279) (by decide) (fun hl => absurd (eqT hl) (by decide)) (fun hl => ?_)
              refine blk X21 hby b604 (pc' := 310) (Ls' := #[i_ p1, i_ p2, i_ p3, i_ p4, i_ p5, i_ 4, i_ y1, i_ y2, i_ y3, i_ y4, r_ (h4.size), r_ (h9.size), r_ (h14.size), r_ (x'), i_ 1, i_ 0, i_ 0, i_ 0, i_ 0, u_, u_]) (st' := []) rfl ?_
              refine blk X21 hby b605 (pc' := 312) (Ls' := #[i_ p1, i_ p2, i_ p3, i_ p4, i_ p5, i_ 4, i_ y1, i_ y2, i_ y3, i_ y4, r_ (h4.size), r_ (h9.size), r_ (h14.size), r_ (x'), i_ 1, i_ 0, i_ 0, i_ 0, i_ 0, u_, u_]) (st' := [(.int 0)]) rfl ?_
              refine br0 X21 hby d_code_312 (pc1 := 319) (by decide) (fun hl => ?_) (fun hl => absurd (eqF hl) (fun q => q rfl))
              refine blk X21 hby b606 (pc' := 321) (Ls' := #[i_ p1, i_ p2, i_ p3, i_ p4, i_ p5, i_ 4, i_ y1, i_ y2, i_ y3, i_ y4, r_ (h4.size), r_ (h9.size), r_ (h14.size), r_ (x'), i_ 1, i_ 0, i_ 0, i_ 0, i_ 0, u_, u_]) (st' := [(.int 0)]) rfl ?_
              refine br0 X21 hby d_code_321 (pc1 := 328) (by decide) (fun hl => ?_) (fun hl => absurd (eqF hl) (fun q => q rfl))
              refine blk X21 hby b607 (pc' := 330) (Ls' := #[i_ p1, i_ p2, i_ p3, i_ p4, i_ p5, i_ 4, i_ y1, i_ y2, i_ y3, i_ y4, r_ (h4.size), r_ (h9.size), r_ (h14.size), r_ (x'), i_ 1, i_ 0, i_ 0, i_ 0, i_ 0, u_, u_]) (st' := [(.int 0)]) rfl ?_
              refine br0 X21 hby d_code_330 (pc1 := 337) (by decide) (fun hl => ?_) (fun hl => absurd (eqF hl) (fun q => q rfl))
              refine blk X21 hby b608 (pc' := 339) (Ls' := #[i_ p1, i_ p2, i_ p3, i_ p4, i_ p5, i_ 4, i_ y1, i_ y2, i_ y3, i_ y4, r_ (h4.size), r_ (h9.size), r_ (h14.size), r_ (x'), i_ 1, i_ 0, i_ 0, i_ 0, i_ 0, u_, u_]) (st' := [(.int 1)]) rfl ?_
              refine br0 X21 hby d_code_339 (pc1 := 346) (by decide) (fun hl => absurd (eqT hl) (by decide)) (fun hl => ?_)
              refine blk X21 hby b609 (pc' := 359) (Ls' := #[i_ p1, i_ p2, i_ p3, i_ p4, i_ p5, i_ 4, i_ y1, i_ y2, i_ y3, i_ y4, r_ (h4.size), r_ (h9.size), r_ (h14.size), r_ (x'), i_ 1, i_ 0, i_ 0, i_ 0, i_ 0, i_ 1, i_ ((1 : Int32) - (0 : Int32))]) (st' := [(.ref (x'))]) rfl ?_
              show Go _ _ _ _ (T21.setTop (mkF m 359 #[i_ p1, i_ p2, i_ p3, i_ p4, i_ p5, i_ 4, i_ y1, i_ y2, i_ y3, i_ y4, r_ (h4.size), r_ (h9.size), r_ (h14.size), r_ (x'), i_ 1, i_ 0, i_ 0, i_ 0, i_ 0, i_ 1, i_ 1] [(.ref (x'))]))
              refine gVirt X21 hby (argsL := []) (st := []) (ct_len hw hEL X21.old U hx') hx'.1 (hw _ (List.mem_of_getElem? (i := 59) rfl)) (hw _ (List.mem_of_getElem? (i := 35) rfl)) (hw _ (List.mem_of_getElem? (i := 37) rfl)) (hw _ (List.mem_of_getElem? (i := 36) rfl)) (hw _ (List.mem_of_getElem? (i := 11) rfl)) (hw _ (List.mem_of_getElem? (i := 38) rfl)) pd___I rfl d_code_359 rfl (by rw [hml]; rfl) all0 (by decide) (Nat.le_of_ble_eq_true rfl) (by decide) (by decide) (fun v22 T22 h22 S22 X22 q22 sS22 sz22 => ?_)
              obtain ⟨rfl, rfl⟩ := q22
              show Go _ _ _ _ (T22.setTop (mkF m 362 #[i_ p1, i_ p2, i_ p3, i_ p4, i_ p5, i_ 4, i_ y1, i_ y2, i_ y3, i_ y4, r_ (h4.size), r_ (h9.size), r_ (h14.size), r_ (x'), i_ 1, i_ 0, i_ 0, i_ 0, i_ 0, i_ 1, i_ 1] [(.int (Int32.ofNat (([y1, y2, y3, y4].drop 0).take (1 - 0)).length))]))
              show Go _ _ _ _ (T22.setTop (mkF m 362 #[i_ p1, i_ p2, i_ p3, i_ p4, i_ p5, i_ 4, i_ y1, i_ y2, i_ y3, i_ y4, r_ (h4.size), r_ (h9.size), r_ (h14.size), r_ (x'), i_ 1, i_ 0, i_ 0, i_ 0, i_ 0, i_ 1, i_ 1] [(.int 1)]))
              refine blk X22 hby b610 (pc' := 364) (Ls' := #[i_ p1, i_ p2, i_ p3, i_ p4, i_ p5, i_ 4, i_ y1, i_ y2, i_ y3, i_ y4, r_ (h4.size), r_ (h9.size), r_ (h14.size), r_ (x'), i_ 1, i_ 0, i_ 0, i_ 0, i_ 0, i_ 1, i_ 1]) (st' := [(.int 1), (.int 1)]) rfl ?_
              refine brI X22 hby d_code_364 (pc1 := 369) (by decide) (fun hl => ?_) (fun hl => absurd (eqF hl) (fun q => q rfl))
              refine blk X22 hby b611 (pc' := 371) (Ls' := #[i_ p1, i_ p2, i_ p3, i_ p4, i_ p5, i_ 4, i_ y1, i_ y2, i_ y3, i_ y4, r_ (h4.size), r_ (h9.size), r_ (h14.size), r_ (x'), i_ 1, i_ 0, i_ 0, i_ 0, i_ 0, i_ 1, i_ 1]) (st' := [(.int 1)]) rfl ?_
              refine br0 X22 hby d_code_371 (pc1 := 388) (by decide) (fun hl => absurd (leT hl) (fun q => q (by decide))) (fun hl => ?_)
              refine blk X22 hby b612 (pc' := 377) (Ls' := #[i_ p1, i_ p2, i_ p3, i_ p4, i_ p5, i_ 4, i_ y1, i_ y2, i_ y3, i_ y4, r_ (h4.size), r_ (h9.size), r_ (h14.size), r_ (x'), i_ 1, i_ 0, i_ 0, i_ 0, i_ 0, i_ 1, i_ 1]) (st' := [(.int 0), (.ref (x'))]) rfl ?_
              refine gVirt X22 hby (argsL := [(.int 0)]) (st := []) (ct_chr hw hEL X22.old U hFM hfm hx' (i := 0) (Nat.le_of_ble_eq_true rfl)) hx'.1 (hw _ (List.mem_of_getElem? (i := 121) rfl)) (hw _ (List.mem_of_getElem? (i := 71) rfl)) (hw _ (List.mem_of_getElem? (i := 73) rfl)) (hw _ (List.mem_of_getElem? (i := 72) rfl)) (hw _ (List.mem_of_getElem? (i := 11) rfl)) (hw _ (List.mem_of_getElem? (i := 74) rfl)) pd__I_C rfl d_code_377 rfl (by rw [hml]; rfl) all0 (by decide) (Nat.le_of_ble_eq_true rfl) (by decide) (by decide) (fun v23 T23 h23 S23 X23 q23 sS23 sz23 => ?_)
              obtain ⟨rfl, rfl⟩ := q23
              show Go _ _ _ _ (T23.setTop (mkF m 380 #[i_ p1, i_ p2, i_ p3, i_ p4, i_ p5, i_ 4, i_ y1, i_ y2, i_ y3, i_ y4, r_ (h4.size), r_ (h9.size), r_ (h14.size), r_ (x'), i_ 1, i_ 0, i_ 0, i_ 0, i_ 0, i_ 1, i_ 1] [(.int ((([y1, y2, y3, y4].drop 0).take (1 - 0)).getD 0 0))]))
              show Go _ _ _ _ (T23.setTop (mkF m 380 #[i_ p1, i_ p2, i_ p3, i_ p4, i_ p5, i_ 4, i_ y1, i_ y2, i_ y3, i_ y4, r_ (h4.size), r_ (h9.size), r_ (h14.size), r_ (x'), i_ 1, i_ 0, i_ 0, i_ 0, i_ 0, i_ 1, i_ 1] [(.int y1)]))
              refine blk X23 hby b613 (pc' := 384) (Ls' := #[i_ p1, i_ p2, i_ p3, i_ p4, i_ p5, i_ 4, i_ y1, i_ y2, i_ y3, i_ y4, r_ (h4.size), r_ (h9.size), r_ (h14.size), r_ (x'), i_ 1, i_ 0, i_ 0, i_ 0, i_ 0, i_ 1, i_ 1]) (st' := [(.int 0), (.ref (h4.size)), (.int y1)]) rfl ?_
              refine gLd X23 hby hVd (Or.inr (Or.inl ⟨rfl, rfl⟩)) d_code_384 (i := 0) rfl (Nat.le_of_ble_eq_true rfl) ?_
              refine brI X23 hby d_code_385 (pc1 := 458) (by decide) (fun hl => absurd (neT hl) (fun q => q rfl)) (fun hl => ?_)
              refine blk X23 hby b614 (pc' := 391) (Ls' := #[i_ p1, i_ p2, i_ p3, i_ p4, i_ p5, i_ 4, i_ y1, i_ y2, i_ y3, i_ y4, r_ (h4.size), r_ (h9.size), r_ (h14.size), r_ (x'), i_ 1, i_ 0, i_ 0, i_ 0, i_ 0, i_ 1, i_ 1]) (st' := [(.int 1), (.int 1)]) rfl ?_
              refine brI X23 hby d_code_391 (pc1 := 410) (by decide) (fun hl => ?_) (fun hl => absurd (leF hl) (by decide))
              refine blk X23 hby b615 (pc' := 413) (Ls' := #[i_ p1, i_ p2, i_ p3, i_ p4, i_ p5, i_ 4, i_ y1, i_ y2, i_ y3, i_ y4, r_ (h4.size), r_ (h9.size), r_ (h14.size), r_ (x'), i_ 1, i_ 0, i_ 0, i_ 0, i_ 0, i_ 1, i_ 1]) (st' := [(.int 2), (.int 1)]) rfl ?_
              refine brI X23 hby d_code_413 (pc1 := 432) (by decide) (fun hl => ?_) (fun hl => absurd (leF hl) (by decide))
              refine blk X23 hby b616 (pc' := 435) (Ls' := #[i_ p1, i_ p2, i_ p3, i_ p4, i_ p5, i_ 4, i_ y1, i_ y2, i_ y3, i_ y4, r_ (h4.size), r_ (h9.size), r_ (h14.size), r_ (x'), i_ 1, i_ 0, i_ 0, i_ 0, i_ 0, i_ 1, i_ 1]) (st' := [(.int 3), (.int 1)]) rfl ?_
              refine brI X23 hby d_code_435 (pc1 := 454) (by decide) (fun hl => ?_) (fun hl => absurd (leF hl) (by decide))
              refine blk X23 hby b617 (pc' := 459) (Ls' := #[i_ p1, i_ p2, i_ p3, i_ p4, i_ p5, i_ 4, i_ y1, i_ y2, i_ y3, i_ y4, r_ (h4.size), r_ (h9.size), r_ (h14.size), r_ (x'), i_ 1, i_ 0, i_ 0, i_ 0, i_ 0, i_ 1, i_ 1]) (st' := [(.int 1)]) rfl ?_
              exact retI' X23 hby hret d_code_459 rfl (fun S' hS' => rfl)
            · skip
              have wj0 : wsB y1 = false := g5 (by decide)
              rw [wj0] at hv0
              replace hv0 : v0' = (1 : Int32) := hv0
              subst hv0
              have wj1 : wsB y2 = false := g7 (by decide)
              rw [wj1] at hv1
              replace hv1 : v1' = (1 : Int32) := hv1
              subst hv1
              have wj2 : wsB y3 = true := g6 2 (by decide) (by decide)
              rw [wj2] at hv2
              replace hv2 : v2' = (0 : Int32) := hv2
              subst hv2
              have wj3 : wsB y4 = true := g6 3 (by decide) (by decide)
              rw [wj3] at hv3
              replace hv3 : v3' = (0 : Int32) := hv3
              subst hv3
              show Go _ _ _ _ (T21.setTop (mkF m 270 #[i_ p1, i_ p2, i_ p3, i_ p4, i_ p5, i_ 4, i_ y1, i_ y2, i_ y3, i_ y4, r_ (h4.size), r_ (h9.size), r_ (h14.size), r_ (x'), i_ 1, i_ 1, i_ 0, i_ 0, u_, u_, u_] []))
              refine blk X21 hby b618 (pc' := 272) (Ls' := #[i_ p1, i_ p2, i_ p3, i_ p4, i_ p5, i_ 4, i_ y1, i_ y2, i_ y3, i_ y4, r_ (h4.size), r_ (h9.size), r_ (h14.size), r_ (x'), i_ 1, i_ 1, i_ 0, i_ 0, u_, u_, u_]) (st' := [(.int 1)]) rfl ?_
              refine br0 X21 hby d_code_272 (pc1 := 279) (by decide) (fun hl => absurd (eqT hl) (by decide)) (fun hl => ?_)
              refine blk X21 hby b619 (pc' := 310) (Ls' := #[i_ p1, i_ p2, i_ p3, i_ p4, i_ p5, i_ 4, i_ y1, i_ y2, i_ y3, i_ y4, r_ (h4.size), r_ (h9.size), r_ (h14.size), r_ (x'), i_ 1, i_ 1, i_ 0, i_ 0, i_ 0, u_, u_]) (st' := []) rfl ?_
              refine blk X21 hby b620 (pc' := 312) (Ls' := #[i_ p1, i_ p2, i_ p3, i_ p4, i_ p5, i_ 4, i_ y1, i_ y2, i_ y3, i_ y4, r_ (h4.size), r_ (h9.size), r_ (h14.size), r_ (x'), i_ 1, i_ 1, i_ 0, i_ 0, i_ 0, u_, u_]) (st' := [(.int 0)]) rfl ?_
              refine br0 X21 hby d_code_312 (pc1 := 319) (by decide) (fun hl => ?_) (fun hl => absurd (eqF hl) (fun q => q rfl))
              refine blk X21 hby b621 (pc' := 321) (Ls' := #[i_ p1, i_ p2, i_ p3, i_ p4, i_ p5, i_ 4, i_ y1, i_ y2, i_ y3, i_ y4, r_ (h4.size), r_ (h9.size), r_ (h14.size), r_ (x'), i_ 1, i_ 1, i_ 0, i_ 0, i_ 0, u_, u_]) (st' := [(.int 0)]) rfl ?_
              refine br0 X21 hby d_code_321 (pc1 := 328) (by decide) (fun hl => ?_) (fun hl => absurd (eqF hl) (fun q => q rfl))
              refine blk X21 hby b622 (pc' := 330) (Ls' := #[i_ p1, i_ p2, i_ p3, i_ p4, i_ p5, i_ 4, i_ y1, i_ y2, i_ y3, i_ y4, r_ (h4.size), r_ (h9.size), r_ (h14.size), r_ (x'), i_ 1, i_ 1, i_ 0, i_ 0, i_ 0, u_, u_]) (st' := [(.int 1)]) rfl ?_
              refine br0 X21 hby d_code_330 (pc1 := 337) (by decide) (fun hl => absurd (eqT hl) (by decide)) (fun hl => ?_)
              refine blk X21 hby b623 (pc' := 359) (Ls' := #[i_ p1, i_ p2, i_ p3, i_ p4, i_ p5, i_ 4, i_ y1, i_ y2, i_ y3, i_ y4, r_ (h4.size), r_ (h9.size), r_ (h14.size), r_ (x'), i_ 1, i_ 1, i_ 0, i_ 0, i_ 0, i_ 2, i_ ((2 : Int32) - (0 : Int32))]) (st' := [(.ref (x'))]) rfl ?_
              show Go _ _ _ _ (T21.setTop (mkF m 359 #[i_ p1, i_ p2, i_ p3, i_ p4, i_ p5, i_ 4, i_ y1, i_ y2, i_ y3, i_ y4, r_ (h4.size), r_ (h9.size), r_ (h14.size), r_ (x'), i_ 1, i_ 1, i_ 0, i_ 0, i_ 0, i_ 2, i_ 2] [(.ref (x'))]))
              refine gVirt X21 hby (argsL := []) (st := []) (ct_len hw hEL X21.old U hx') hx'.1 (hw _ (List.mem_of_getElem? (i := 59) rfl)) (hw _ (List.mem_of_getElem? (i := 35) rfl)) (hw _ (List.mem_of_getElem? (i := 37) rfl)) (hw _ (List.mem_of_getElem? (i := 36) rfl)) (hw _ (List.mem_of_getElem? (i := 11) rfl)) (hw _ (List.mem_of_getElem? (i := 38) rfl)) pd___I rfl d_code_359 rfl (by rw [hml]; rfl) all0 (by decide) (Nat.le_of_ble_eq_true rfl) (by decide) (by decide) (fun v22 T22 h22 S22 X22 q22 sS22 sz22 => ?_)
              obtain ⟨rfl, rfl⟩ := q22
              show Go _ _ _ _ (T22.setTop (mkF m 362 #[i_ p1, i_ p2, i_ p3, i_ p4, i_ p5, i_ 4, i_ y1, i_ y2, i_ y3, i_ y4, r_ (h4.size), r_ (h9.size), r_ (h14.size), r_ (x'), i_ 1, i_ 1, i_ 0, i_ 0, i_ 0, i_ 2, i_ 2] [(.int (Int32.ofNat (([y1, y2, y3, y4].drop 0).take (2 - 0)).length))]))
              show Go _ _ _ _ (T22.setTop (mkF m 362 #[i_ p1, i_ p2, i_ p3, i_ p4, i_ p5, i_ 4, i_ y1, i_ y2, i_ y3, i_ y4, r_ (h4.size), r_ (h9.size), r_ (h14.size), r_ (x'), i_ 1, i_ 1, i_ 0, i_ 0, i_ 0, i_ 2, i_ 2] [(.int 2)]))
              refine blk X22 hby b624 (pc' := 364) (Ls' := #[i_ p1, i_ p2, i_ p3, i_ p4, i_ p5, i_ 4, i_ y1, i_ y2, i_ y3, i_ y4, r_ (h4.size), r_ (h9.size), r_ (h14.size), r_ (x'), i_ 1, i_ 1, i_ 0, i_ 0, i_ 0, i_ 2, i_ 2]) (st' := [(.int 2), (.int 2)]) rfl ?_
              refine brI X22 hby d_code_364 (pc1 := 369) (by decide) (fun hl => ?_) (fun hl => absurd (eqF hl) (fun q => q rfl))
              refine blk X22 hby b625 (pc' := 371) (Ls' := #[i_ p1, i_ p2, i_ p3, i_ p4, i_ p5, i_ 4, i_ y1, i_ y2, i_ y3, i_ y4, r_ (h4.size), r_ (h9.size), r_ (h14.size), r_ (x'), i_ 1, i_ 1, i_ 0, i_ 0, i_ 0, i_ 2, i_ 2]) (st' := [(.int 2)]) rfl ?_
              refine br0 X22 hby d_code_371 (pc1 := 388) (by decide) (fun hl => absurd (leT hl) (fun q => q (by decide))) (fun hl => ?_)
              refine blk X22 hby b626 (pc' := 377) (Ls' := #[i_ p1, i_ p2, i_ p3, i_ p4, i_ p5, i_ 4, i_ y1, i_ y2, i_ y3, i_ y4, r_ (h4.size), r_ (h9.size), r_ (h14.size), r_ (x'), i_ 1, i_ 1, i_ 0, i_ 0, i_ 0, i_ 2, i_ 2]) (st' := [(.int 0), (.ref (x'))]) rfl ?_
              refine gVirt X22 hby (argsL := [(.int 0)]) (st := []) (ct_chr hw hEL X22.old U hFM hfm hx' (i := 0) (Nat.le_of_ble_eq_true rfl)) hx'.1 (hw _ (List.mem_of_getElem? (i := 121) rfl)) (hw _ (List.mem_of_getElem? (i := 71) rfl)) (hw _ (List.mem_of_getElem? (i := 73) rfl)) (hw _ (List.mem_of_getElem? (i := 72) rfl)) (hw _ (List.mem_of_getElem? (i := 11) rfl)) (hw _ (List.mem_of_getElem? (i := 74) rfl)) pd__I_C rfl d_code_377 rfl (by rw [hml]; rfl) all0 (by decide) (Nat.le_of_ble_eq_true rfl) (by decide) (by decide) (fun v23 T23 h23 S23 X23 q23 sS23 sz23 => ?_)
              obtain ⟨rfl, rfl⟩ := q23
              show Go _ _ _ _ (T23.setTop (mkF m 380 #[i_ p1, i_ p2, i_ p3, i_ p4, i_ p5, i_ 4, i_ y1, i_ y2, i_ y3, i_ y4, r_ (h4.size), r_ (h9.size), r_ (h14.size), r_ (x'), i_ 1, i_ 1, i_ 0, i_ 0, i_ 0, i_ 2, i_ 2] [(.int ((([y1, y2, y3, y4].drop 0).take (2 - 0)).getD 0 0))]))
              show Go _ _ _ _ (T23.setTop (mkF m 380 #[i_ p1, i_ p2, i_ p3, i_ p4, i_ p5, i_ 4, i_ y1, i_ y2, i_ y3, i_ y4, r_ (h4.size), r_ (h9.size), r_ (h14.size), r_ (x'), i_ 1, i_ 1, i_ 0, i_ 0, i_ 0, i_ 2, i_ 2] [(.int y1)]))
              refine blk X23 hby b627 (pc' := 384) (Ls' := #[i_ p1, i_ p2, i_ p3, i_ p4, i_ p5, i_ 4, i_ y1, i_ y2, i_ y3, i_ y4, r_ (h4.size), r_ (h9.size), r_ (h14.size), r_ (x'), i_ 1, i_ 1, i_ 0, i_ 0, i_ 0, i_ 2, i_ 2]) (st' := [(.int 0), (.ref (h4.size)), (.int y1)]) rfl ?_
              refine gLd X23 hby hVd (Or.inr (Or.inl ⟨rfl, rfl⟩)) d_code_384 (i := 0) rfl (Nat.le_of_ble_eq_true rfl) ?_
              refine brI X23 hby d_code_385 (pc1 := 458) (by decide) (fun hl => absurd (neT hl) (fun q => q rfl)) (fun hl => ?_)
              refine blk X23 hby b628 (pc' := 391) (Ls' := #[i_ p1, i_ p2, i_ p3, i_ p4, i_ p5, i_ 4, i_ y1, i_ y2, i_ y3, i_ y4, r_ (h4.size), r_ (h9.size), r_ (h14.size), r_ (x'), i_ 1, i_ 1, i_ 0, i_ 0, i_ 0, i_ 2, i_ 2]) (st' := [(.int 1), (.int 2)]) rfl ?_
              refine brI X23 hby d_code_391 (pc1 := 410) (by decide) (fun hl => absurd (leT hl) (fun q => q (by decide))) (fun hl => ?_)
              refine blk X23 hby b629 (pc' := 397) (Ls' := #[i_ p1, i_ p2, i_ p3, i_ p4, i_ p5, i_ 4, i_ y1, i_ y2, i_ y3, i_ y4, r_ (h4.size), r_ (h9.size), r_ (h14.size), r_ (x'), i_ 1, i_ 1, i_ 0, i_ 0, i_ 0, i_ 2, i_ 2]) (st' := [(.int 1), (.ref (x'))]) rfl ?_
              refine gVirt X23 hby (argsL := [(.int 1)]) (st := []) (ct_chr hw hEL X23.old U hFM hfm hx' (i := 1) (Nat.le_of_ble_eq_true rfl)) hx'.1 (hw _ (List.mem_of_getElem? (i := 121) rfl)) (hw _ (List.mem_of_getElem? (i := 71) rfl)) (hw _ (List.mem_of_getElem? (i := 73) rfl)) (hw _ (List.mem_of_getElem? (i := 72) rfl)) (hw _ (List.mem_of_getElem? (i := 11) rfl)) (hw _ (List.mem_of_getElem? (i := 74) rfl)) pd__I_C rfl d_code_397 rfl (by rw [hml]; rfl) all0 (by decide) (Nat.le_of_ble_eq_true rfl) (by decide) (by decide) (fun v24 T24 h24 S24 X24 q24 sS24 sz24 => ?_)
              obtain ⟨rfl, rfl⟩ := q24
              show Go _ _ _ _ (T24.setTop (mkF m 400 #[i_ p1, i_ p2, i_ p3, i_ p4, i_ p5, i_ 4, i_ y1, i_ y2, i_ y3, i_ y4, r_ (h4.size), r_ (h9.size), r_ (h14.size), r_ (x'), i_ 1, i_ 1, i_ 0, i_ 0, i_ 0, i_ 2, i_ 2] [(.int ((([y1, y2, y3, y4].drop 0).take (2 - 0)).getD 1 0))]))
              show Go _ _ _ _ (T24.setTop (mkF m 400 #[i_ p1, i_ p2, i_ p3, i_ p4, i_ p5, i_ 4, i_ y1, i_ y2, i_ y3, i_ y4, r_ (h4.size), r_ (h9.size), r_ (h14.size), r_ (x'), i_ 1, i_ 1, i_ 0, i_ 0, i_ 0, i_ 2, i_ 2] [(.int y2)]))
              refine blk X24 hby b630 (pc' := 406) (Ls' := #[i_ p1, i_ p2, i_ p3, i_ p4, i_ p5, i_ 4, i_ y1, i_ y2, i_ y3, i_ y4, r_ (h4.size), r_ (h9.size), r_ (h14.size), r_ (x'), i_ 1, i_ 1, i_ 0, i_ 0, i_ 0, i_ 2, i_ 2]) (st' := [(.int ((0 : Int32) + (1 : Int32))), (.ref (h4.size)), (.int y2)]) rfl ?_
              refine gLd X24 hby hVd (Or.inr (Or.inl ⟨rfl, rfl⟩)) d_code_406 (i := 1) rfl (Nat.le_of_ble_eq_true rfl) ?_
              refine brI X24 hby d_code_407 (pc1 := 458) (by decide) (fun hl => absurd (neT hl) (fun q => q rfl)) (fun hl => ?_)
              refine blk X24 hby b631 (pc' := 413) (Ls' := #[i_ p1, i_ p2, i_ p3, i_ p4, i_ p5, i_ 4, i_ y1, i_ y2, i_ y3, i_ y4, r_ (h4.size), r_ (h9.size), r_ (h14.size), r_ (x'), i_ 1, i_ 1, i_ 0, i_ 0, i_ 0, i_ 2, i_ 2]) (st' := [(.int 2), (.int 2)]) rfl ?_
              refine brI X24 hby d_code_413 (pc1 := 432) (by decide) (fun hl => ?_) (fun hl => absurd (leF hl) (by decide))
              refine blk X24 hby b632 (pc' := 435) (Ls' := #[i_ p1, i_ p2, i_ p3, i_ p4, i_ p5, i_ 4, i_ y1, i_ y2, i_ y3, i_ y4, r_ (h4.size), r_ (h9.size), r_ (h14.size), r_ (x'), i_ 1, i_ 1, i_ 0, i_ 0, i_ 0, i_ 2, i_ 2]) (st' := [(.int 3), (.int 2)]) rfl ?_
              refine brI X24 hby d_code_435 (pc1 := 454) (by decide) (fun hl => ?_) (fun hl => absurd (leF hl) (by decide))
              refine blk X24 hby b633 (pc' := 459) (Ls' := #[i_ p1, i_ p2, i_ p3, i_ p4, i_ p5, i_ 4, i_ y1, i_ y2, i_ y3, i_ y4, r_ (h4.size), r_ (h9.size), r_ (h14.size), r_ (x'), i_ 1, i_ 1, i_ 0, i_ 0, i_ 0, i_ 2, i_ 2]) (st' := [(.int 1)]) rfl ?_
              exact retI' X24 hby hret d_code_459 rfl (fun S' hS' => rfl)
            · skip
              have wj0 : wsB y1 = false := g5 (by decide)
              rw [wj0] at hv0
              replace hv0 : v0' = (1 : Int32) := hv0
              subst hv0
              have wj2 : wsB y3 = false := g7 (by decide)
              rw [wj2] at hv2
              replace hv2 : v2' = (1 : Int32) := hv2
              subst hv2
              have wj3 : wsB y4 = true := g6 3 (by decide) (by decide)
              rw [wj3] at hv3
              replace hv3 : v3' = (0 : Int32) := hv3
              subst hv3
              show Go _ _ _ _ (T21.setTop (mkF m 270 #[i_ p1, i_ p2, i_ p3, i_ p4, i_ p5, i_ 4, i_ y1, i_ y2, i_ y3, i_ y4, r_ (h4.size), r_ (h9.size), r_ (h14.size), r_ (x'), i_ 1, i_ (v1'), i_ 1, i_ 0, u_, u_, u_] []))
              refine blk X21 hby b634 (pc' := 272) (Ls' := #[i_ p1, i_ p2, i_ p3, i_ p4, i_ p5, i_ 4, i_ y1, i_ y2, i_ y3, i_ y4, r_ (h4.size), r_ (h9.size), r_ (h14.size), r_ (x'), i_ 1, i_ (v1'), i_ 1, i_ 0, u_, u_, u_]) (st' := [(.int 1)]) rfl ?_
              refine br0 X21 hby d_code_272 (pc1 := 279) (by decide) (fun hl => absurd (eqT hl) (by decide)) (fun hl => ?_)
              refine blk X21 hby b635 (pc' := 310) (Ls' := #[i_ p1, i_ p2, i_ p3, i_ p4, i_ p5, i_ 4, i_ y1, i_ y2, i_ y3, i_ y4, r_ (h4.size), r_ (h9.size), r_ (h14.size), r_ (x'), i_ 1, i_ (v1'), i_ 1, i_ 0, i_ 0, u_, u_]) (st' := []) rfl ?_
              refine blk X21 hby b636 (pc' := 312) (Ls' := #[i_ p1, i_ p2, i_ p3, i_ p4, i_ p5, i_ 4, i_ y1, i_ y2, i_ y3, i_ y4, r_ (h4.size), r_ (h9.size), r_ (h14.size), r_ (x'), i_ 1, i_ (v1'), i_ 1, i_ 0, i_ 0, u_, u_]) (st' := [(.int 0)]) rfl ?_
              refine br0 X21 hby d_code_312 (pc1 := 319) (by decide) (fun hl => ?_) (fun hl => absurd (eqF hl) (fun q => q rfl))
              refine blk X21 hby b637 (pc' := 321) (Ls' := #[i_ p1, i_ p2, i_ p3, i_ p4, i_ p5, i_ 4, i_ y1, i_ y2, i_ y3, i_ y4, r_ (h4.size), r_ (h9.size), r_ (h14.size), r_ (x'), i_ 1, i_ (v1'), i_ 1, i_ 0, i_ 0, u_, u_]) (st' := [(.int 1)]) rfl ?_
              refine br0 X21 hby d_code_321 (pc1 := 328) (by decide) (fun hl => absurd (eqT hl) (by decide)) (fun hl => ?_)
              refine blk X21 hby b638 (pc' := 359) (Ls' := #[i_ p1, i_ p2, i_ p3, i_ p4, i_ p5, i_ 4, i_ y1, i_ y2, i_ y3, i_ y4, r_ (h4.size), r_ (h9.size), r_ (h14.size), r_ (x'), i_ 1, i_ (v1'), i_ 1, i_ 0, i_ 0, i_ 3, i_ ((3 : Int32) - (0 : Int32))]) (st' := [(.ref (x'))]) rfl ?_
              show Go _ _ _ _ (T21.setTop (mkF m 359 #[i_ p1, i_ p2, i_ p3, i_ p4, i_ p5, i_ 4, i_ y1, i_ y2, i_ y3, i_ y4, r_ (h4.size), r_ (h9.size), r_ (h14.size), r_ (x'), i_ 1, i_ (v1'), i_ 1, i_ 0, i_ 0, i_ 3, i_ 3] [(.ref (x'))]))
              refine gVirt X21 hby (argsL := []) (st := []) (ct_len hw hEL X21.old U hx') hx'.1 (hw _ (List.mem_of_getElem? (i := 59) rfl)) (hw _ (List.mem_of_getElem? (i := 35) rfl)) (hw _ (List.mem_of_getElem? (i := 37) rfl)) (hw _ (List.mem_of_getElem? (i := 36) rfl)) (hw _ (List.mem_of_getElem? (i := 11) rfl)) (hw _ (List.mem_of_getElem? (i := 38) rfl)) pd___I rfl d_code_359 rfl (by rw [hml]; rfl) all0 (by decide) (Nat.le_of_ble_eq_true rfl) (by decide) (by decide) (fun v22 T22 h22 S22 X22 q22 sS22 sz22 => ?_)
              obtain ⟨rfl, rfl⟩ := q22
              show Go _ _ _ _ (T22.setTop (mkF m 362 #[i_ p1, i_ p2, i_ p3, i_ p4, i_ p5, i_ 4, i_ y1, i_ y2, i_ y3, i_ y4, r_ (h4.size), r_ (h9.size), r_ (h14.size), r_ (x'), i_ 1, i_ (v1'), i_ 1, i_ 0, i_ 0, i_ 3, i_ 3] [(.int (Int32.ofNat (([y1, y2, y3, y4].drop 0).take (3 - 0)).length))]))
              show Go _ _ _ _ (T22.setTop (mkF m 362 #[i_ p1, i_ p2, i_ p3, i_ p4, i_ p5, i_ 4, i_ y1, i_ y2, i_ y3, i_ y4, r_ (h4.size), r_ (h9.size), r_ (h14.size), r_ (x'), i_ 1, i_ (v1'), i_ 1, i_ 0, i_ 0, i_ 3, i_ 3] [(.int 3)]))
              refine blk X22 hby b639 (pc' := 364) (Ls' := #[i_ p1, i_ p2, i_ p3, i_ p4, i_ p5, i_ 4, i_ y1, i_ y2, i_ y3, i_ y4, r_ (h4.size), r_ (h9.size), r_ (h14.size), r_ (x'), i_ 1, i_ (v1'), i_ 1, i_ 0, i_ 0, i_ 3, i_ 3]) (st' := [(.int 3), (.int 3)]) rfl ?_
              refine brI X22 hby d_code_364 (pc1 := 369) (by decide) (fun hl => ?_) (fun hl => absurd (eqF hl) (fun q => q rfl))
              refine blk X22 hby b640 (pc' := 371) (Ls' := #[i_ p1, i_ p2, i_ p3, i_ p4, i_ p5, i_ 4, i_ y1, i_ y2, i_ y3, i_ y4, r_ (h4.size), r_ (h9.size), r_ (h14.size), r_ (x'), i_ 1, i_ (v1'), i_ 1, i_ 0, i_ 0, i_ 3, i_ 3]) (st' := [(.int 3)]) rfl ?_
              refine br0 X22 hby d_code_371 (pc1 := 388) (by decide) (fun hl => absurd (leT hl) (fun q => q (by decide))) (fun hl => ?_)
              refine blk X22 hby b641 (pc' := 377) (Ls' := #[i_ p1, i_ p2, i_ p3, i_ p4, i_ p5, i_ 4, i_ y1, i_ y2, i_ y3, i_ y4, r_ (h4.size), r_ (h9.size), r_ (h14.size), r_ (x'), i_ 1, i_ (v1'), i_ 1, i_ 0, i_ 0, i_ 3, i_ 3]) (st' := [(.int 0), (.ref (x'))]) rfl ?_
              refine gVirt X22 hby (argsL := [(.int 0)]) (st := []) (ct_chr hw hEL X22.old U hFM hfm hx' (i := 0) (Nat.le_of_ble_eq_true rfl)) hx'.1 (hw _ (List.mem_of_getElem? (i := 121) rfl)) (hw _ (List.mem_of_getElem? (i := 71) rfl)) (hw _ (List.mem_of_getElem? (i := 73) rfl)) (hw _ (List.mem_of_getElem? (i := 72) rfl)) (hw _ (List.mem_of_getElem? (i := 11) rfl)) (hw _ (List.mem_of_getElem? (i := 74) rfl)) pd__I_C rfl d_code_377 rfl (by rw [hml]; rfl) all0 (by decide) (Nat.le_of_ble_eq_true rfl) (by decide) (by decide) (fun v23 T23 h23 S23 X23 q23 sS23 sz23 => ?_)
              obtain ⟨rfl, rfl⟩ := q23
              show Go _ _ _ _ (T23.setTop (mkF m 380 #[i_ p1, i_ p2, i_ p3, i_ p4, i_ p5, i_ 4, i_ y1, i_ y2, i_ y3, i_ y4, r_ (h4.size), r_ (h9.size), r_ (h14.size), r_ (x'), i_ 1, i_ (v1'), i_ 1, i_ 0, i_ 0, i_ 3, i_ 3] [(.int ((([y1, y2, y3, y4].drop 0).take (3 - 0)).getD 0 0))]))
              show Go _ _ _ _ (T23.setTop (mkF m 380 #[i_ p1, i_ p2, i_ p3, i_ p4, i_ p5, i_ 4, i_ y1, i_ y2, i_ y3, i_ y4, r_ (h4.size), r_ (h9.size), r_ (h14.size), r_ (x'), i_ 1, i_ (v1'), i_ 1, i_ 0, i_ 0, i_ 3, i_ 3] [(.int y1)]))
              refine blk X23 hby b642 (pc' := 384) (Ls' := #[i_ p1, i_ p2, i_ p3, i_ p4, i_ p5, i_ 4, i_ y1, i_ y2, i_ y3, i_ y4, r_ (h4.size), r_ (h9.size), r_ (h14.size), r_ (x'), i_ 1, i_ (v1'), i_ 1, i_ 0, i_ 0, i_ 3, i_ 3]) (st' := [(.int 0), (.ref (h4.size)), (.int y1)]) rfl ?_
              refine gLd X23 hby hVd (Or.inr (Or.inl ⟨rfl, rfl⟩)) d_code_384 (i := 0) rfl (Nat.le_of_ble_eq_true rfl) ?_
              refine brI X23 hby d_code_385 (pc1 := 458) (by decide) (fun hl => absurd (neT hl) (fun q => q rfl)) (fun hl => ?_)
              refine blk X23 hby b643 (pc' := 391) (Ls' := #[i_ p1, i_ p2, i_ p3, i_ p4, i_ p5, i_ 4, i_ y1, i_ y2, i_ y3, i_ y4, r_ (h4.size), r_ (h9.size), r_ (h14.size), r_ (x'), i_ 1, i_ (v1'), i_ 1, i_ 0, i_ 0, i_ 3, i_ 3]) (st' := [(.int 1), (.int 3)]) rfl ?_
              refine brI X23 hby d_code_391 (pc1 := 410) (by decide) (fun hl => absurd (leT hl) (fun q => q (by decide))) (fun hl => ?_)
              refine blk X23 hby b644 (pc' := 397) (Ls' := #[i_ p1, i_ p2, i_ p3, i_ p4, i_ p5, i_ 4, i_ y1, i_ y2, i_ y3, i_ y4, r_ (h4.size), r_ (h9.size), r_ (h14.size), r_ (x'), i_ 1, i_ (v1'), i_ 1, i_ 0, i_ 0, i_ 3, i_ 3]) (st' := [(.int 1), (.ref (x'))]) rfl ?_
              refine gVirt X23 hby (argsL := [(.int 1)]) (st := []) (ct_chr hw hEL X23.old U hFM hfm hx' (i := 1) (Nat.le_of_ble_eq_true rfl)) hx'.1 (hw _ (List.mem_of_getElem? (i := 121) rfl)) (hw _ (List.mem_of_getElem? (i := 71) rfl)) (hw _ (List.mem_of_getElem? (i := 73) rfl)) (hw _ (List.mem_of_getElem? (i := 72) rfl)) (hw _ (List.mem_of_getElem? (i := 11) rfl)) (hw _ (List.mem_of_getElem? (i := 74) rfl)) pd__I_C rfl d_code_397 rfl (by rw [hml]; rfl) all0 (by decide) (Nat.le_of_ble_eq_true rfl) (by decide) (by decide) (fun v24 T24 h24 S24 X24 q24 sS24 sz24 => ?_)
              obtain ⟨rfl, rfl⟩ := q24
              show Go _ _ _ _ (T24.setTop (mkF m 400 #[i_ p1, i_ p2, i_ p3, i_ p4, i_ p5, i_ 4, i_ y1, i_ y2, i_ y3, i_ y4, r_ (h4.size), r_ (h9.size), r_ (h14.size), r_ (x'), i_ 1, i_ (v1'), i_ 1, i_ 0, i_ 0, i_ 3, i_ 3] [(.int ((([y1, y2, y3, y4].drop 0).take (3 - 0)).getD 1 0))]))
              show Go _ _ _ _ (T24.setTop (mkF m 400 #[i_ p1, i_ p2, i_ p3, i_ p4, i_ p5, i_ 4, i_ y1, i_ y2, i_ y3, i_ y4, r_ (h4.size), r_ (h9.size), r_ (h14.size), r_ (x'), i_ 1, i_ (v1'), i_ 1, i_ 0, i_ 0, i_ 3, i_ 3] [(.int y2)]))
              refine blk X24 hby b645 (pc' := 406) (Ls' := #[i_ p1, i_ p2, i_ p3, i_ p4, i_ p5, i_ 4, i_ y1, i_ y2, i_ y3, i_ y4, r_ (h4.size), r_ (h9.size), r_ (h14.size), r_ (x'), i_ 1, i_ (v1'), i_ 1, i_ 0, i_ 0, i_ 3, i_ 3]) (st' := [(.int ((0 : Int32) + (1 : Int32))), (.ref (h4.size)), (.int y2)]) rfl ?_
              refine gLd X24 hby hVd (Or.inr (Or.inl ⟨rfl, rfl⟩)) d_code_406 (i := 1) rfl (Nat.le_of_ble_eq_true rfl) ?_
              refine brI X24 hby d_code_407 (pc1 := 458) (by decide) (fun hl => absurd (neT hl) (fun q => q rfl)) (fun hl => ?_)
              refine blk X24 hby b646 (pc' := 413) (Ls' := #[i_ p1, i_ p2, i_ p3, i_ p4, i_ p5, i_ 4, i_ y1, i_ y2, i_ y3, i_ y4, r_ (h4.size), r_ (h9.size), r_ (h14.size), r_ (x'), i_ 1, i_ (v1'), i_ 1, i_ 0, i_ 0, i_ 3, i_ 3]) (st' := [(.int 2), (.int 3)]) rfl ?_
              refine brI X24 hby d_code_413 (pc1 := 432) (by decide) (fun hl => absurd (leT hl) (fun q => q (by decide))) (fun hl => ?_)
              refine blk X24 hby b647 (pc' := 419) (Ls' := #[i_ p1, i_ p2, i_ p3, i_ p4, i_ p5, i_ 4, i_ y1, i_ y2, i_ y3, i_ y4, r_ (h4.size), r_ (h9.size), r_ (h14.size), r_ (x'), i_ 1, i_ (v1'), i_ 1, i_ 0, i_ 0, i_ 3, i_ 3]) (st' := [(.int 2), (.ref (x'))]) rfl ?_
              refine gVirt X24 hby (argsL := [(.int 2)]) (st := []) (ct_chr hw hEL X24.old U hFM hfm hx' (i := 2) (Nat.le_of_ble_eq_true rfl)) hx'.1 (hw _ (List.mem_of_getElem? (i := 121) rfl)) (hw _ (List.mem_of_getElem? (i := 71) rfl)) (hw _ (List.mem_of_getElem? (i := 73) rfl)) (hw _ (List.mem_of_getElem? (i := 72) rfl)) (hw _ (List.mem_of_getElem? (i := 11) rfl)) (hw _ (List.mem_of_getElem? (i := 74) rfl)) pd__I_C rfl d_code_419 rfl (by rw [hml]; rfl) all0 (by decide) (Nat.le_of_ble_eq_true rfl) (by decide) (by decide) (fun v25 T25 h25 S25 X25 q25 sS25 sz25 => ?_)
              obtain ⟨rfl, rfl⟩ := q25
              show Go _ _ _ _ (T25.setTop (mkF m 422 #[i_ p1, i_ p2, i_ p3, i_ p4, i_ p5, i_ 4, i_ y1, i_ y2, i_ y3, i_ y4, r_ (h4.size), r_ (h9.size), r_ (h14.size), r_ (x'), i_ 1, i_ (v1'), i_ 1, i_ 0, i_ 0, i_ 3, i_ 3] [(.int ((([y1, y2, y3, y4].drop 0).take (3 - 0)).getD 2 0))]))
              show Go _ _ _ _ (T25.setTop (mkF m 422 #[i_ p1, i_ p2, i_ p3, i_ p4, i_ p5, i_ 4, i_ y1, i_ y2, i_ y3, i_ y4, r_ (h4.size), r_ (h9.size), r_ (h14.size), r_ (x'), i_ 1, i_ (v1'), i_ 1, i_ 0, i_ 0, i_ 3, i_ 3] [(.int y3)]))
              refine blk X25 hby b648 (pc' := 428) (Ls' := #[i_ p1, i_ p2, i_ p3, i_ p4, i_ p5, i_ 4, i_ y1, i_ y2, i_ y3, i_ y4, r_ (h4.size), r_ (h9.size), r_ (h14.size), r_ (x'), i_ 1, i_ (v1'), i_ 1, i_ 0, i_ 0, i_ 3, i_ 3]) (st' := [(.int ((0 : Int32) + (2 : Int32))), (.ref (h4.size)), (.int y3)]) rfl ?_
              refine gLd X25 hby hVd (Or.inr (Or.inl ⟨rfl, rfl⟩)) d_code_428 (i := 2) rfl (Nat.le_of_ble_eq_true rfl) ?_
              refine brI X25 hby d_code_429 (pc1 := 458) (by decide) (fun hl => absurd (neT hl) (fun q => q rfl)) (fun hl => ?_)
              refine blk X25 hby b649 (pc' := 435) (Ls' := #[i_ p1, i_ p2, i_ p3, i_ p4, i_ p5, i_ 4, i_ y1, i_ y2, i_ y3, i_ y4, r_ (h4.size), r_ (h9.size), r_ (h14.size), r_ (x'), i_ 1, i_ (v1'), i_ 1, i_ 0, i_ 0, i_ 3, i_ 3]) (st' := [(.int 3), (.int 3)]) rfl ?_
              refine brI X25 hby d_code_435 (pc1 := 454) (by decide) (fun hl => ?_) (fun hl => absurd (leF hl) (by decide))
              refine blk X25 hby b650 (pc' := 459) (Ls' := #[i_ p1, i_ p2, i_ p3, i_ p4, i_ p5, i_ 4, i_ y1, i_ y2, i_ y3, i_ y4, r_ (h4.size), r_ (h9.size), r_ (h14.size), r_ (x'), i_ 1, i_ (v1'), i_ 1, i_ 0, i_ 0, i_ 3, i_ 3]) (st' := [(.int 1)]) rfl ?_
              exact retI' X25 hby hret d_code_459 rfl (fun S' hS' => rfl)
            · skip
              have wj0 : wsB y1 = false := g5 (by decide)
              rw [wj0] at hv0
              replace hv0 : v0' = (1 : Int32) := hv0
              subst hv0
              have wj3 : wsB y4 = false := g7 (by decide)
              rw [wj3] at hv3
              replace hv3 : v3' = (1 : Int32) := hv3
              subst hv3
              show Go _ _ _ _ (T21.setTop (mkF m 270 #[i_ p1, i_ p2, i_ p3, i_ p4, i_ p5, i_ 4, i_ y1, i_ y2, i_ y3, i_ y4, r_ (h4.size), r_ (h9.size), r_ (h14.size), r_ (x'), i_ 1, i_ (v1'), i_ (v2'), i_ 1, u_, u_, u_] []))
              refine blk X21 hby b651 (pc' := 272) (Ls' := #[i_ p1, i_ p2, i_ p3, i_ p4, i_ p5, i_ 4, i_ y1, i_ y2, i_ y3, i_ y4, r_ (h4.size), r_ (h9.size), r_ (h14.size), r_ (x'), i_ 1, i_ (v1'), i_ (v2'), i_ 1, u_, u_, u_]) (st' := [(.int 1)]) rfl ?_
              refine br0 X21 hby d_code_272 (pc1 := 279) (by decide) (fun hl => absurd (eqT hl) (by decide)) (fun hl => ?_)
              refine blk X21 hby b652 (pc' := 310) (Ls' := #[i_ p1, i_ p2, i_ p3, i_ p4, i_ p5, i_ 4, i_ y1, i_ y2, i_ y3, i_ y4, r_ (h4.size), r_ (h9.size), r_ (h14.size), r_ (x'), i_ 1, i_ (v1'), i_ (v2'), i_ 1, i_ 0, u_, u_]) (st' := []) rfl ?_
              refine blk X21 hby b653 (pc' := 312) (Ls' := #[i_ p1, i_ p2, i_ p3, i_ p4, i_ p5, i_ 4, i_ y1, i_ y2, i_ y3, i_ y4, r_ (h4.size), r_ (h9.size), r_ (h14.size), r_ (x'), i_ 1, i_ (v1'), i_ (v2'), i_ 1, i_ 0, u_, u_]) (st' := [(.int 1)]) rfl ?_
              refine br0 X21 hby d_code_312 (pc1 := 319) (by decide) (fun hl => absurd (eqT hl) (by decide)) (fun hl => ?_)
              refine blk X21 hby b654 (pc' := 359) (Ls' := #[i_ p1, i_ p2, i_ p3, i_ p4, i_ p5, i_ 4, i_ y1, i_ y2, i_ y3, i_ y4, r_ (h4.size), r_ (h9.size), r_ (h14.size), r_ (x'), i_ 1, i_ (v1'), i_ (v2'), i_ 1, i_ 0, i_ 4, i_ ((4 : Int32) - (0 : Int32))]) (st' := [(.ref (x'))]) rfl ?_
              show Go _ _ _ _ (T21.setTop (mkF m 359 #[i_ p1, i_ p2, i_ p3, i_ p4, i_ p5, i_ 4, i_ y1, i_ y2, i_ y3, i_ y4, r_ (h4.size), r_ (h9.size), r_ (h14.size), r_ (x'), i_ 1, i_ (v1'), i_ (v2'), i_ 1, i_ 0, i_ 4, i_ 4] [(.ref (x'))]))
              refine gVirt X21 hby (argsL := []) (st := []) (ct_len hw hEL X21.old U hx') hx'.1 (hw _ (List.mem_of_getElem? (i := 59) rfl)) (hw _ (List.mem_of_getElem? (i := 35) rfl)) (hw _ (List.mem_of_getElem? (i := 37) rfl)) (hw _ (List.mem_of_getElem? (i := 36) rfl)) (hw _ (List.mem_of_getElem? (i := 11) rfl)) (hw _ (List.mem_of_getElem? (i := 38) rfl)) pd___I rfl d_code_359 rfl (by rw [hml]; rfl) all0 (by decide) (Nat.le_of_ble_eq_true rfl) (by decide) (by decide) (fun v22 T22 h22 S22 X22 q22 sS22 sz22 => ?_)
              obtain ⟨rfl, rfl⟩ := q22
              show Go _ _ _ _ (T22.setTop (mkF m 362 #[i_ p1, i_ p2, i_ p3, i_ p4, i_ p5, i_ 4, i_ y1, i_ y2, i_ y3, i_ y4, r_ (h4.size), r_ (h9.size), r_ (h14.size), r_ (x'), i_ 1, i_ (v1'), i_ (v2'), i_ 1, i_ 0, i_ 4, i_ 4] [(.int (Int32.ofNat (([y1, y2, y3, y4].drop 0).take (4 - 0)).length))]))
              show Go _ _ _ _ (T22.setTop (mkF m 362 #[i_ p1, i_ p2, i_ p3, i_ p4, i_ p5, i_ 4, i_ y1, i_ y2, i_ y3, i_ y4, r_ (h4.size), r_ (h9.size), r_ (h14.size), r_ (x'), i_ 1, i_ (v1'), i_ (v2'), i_ 1, i_ 0, i_ 4, i_ 4] [(.int 4)]))
              refine blk X22 hby b655 (pc' := 364) (Ls' := #[i_ p1, i_ p2, i_ p3, i_ p4, i_ p5, i_ 4, i_ y1, i_ y2, i_ y3, i_ y4, r_ (h4.size), r_ (h9.size), r_ (h14.size), r_ (x'), i_ 1, i_ (v1'), i_ (v2'), i_ 1, i_ 0, i_ 4, i_ 4]) (st' := [(.int 4), (.int 4)]) rfl ?_
              refine brI X22 hby d_code_364 (pc1 := 369) (by decide) (fun hl => ?_) (fun hl => absurd (eqF hl) (fun q => q rfl))
              refine blk X22 hby b656 (pc' := 371) (Ls' := #[i_ p1, i_ p2, i_ p3, i_ p4, i_ p5, i_ 4, i_ y1, i_ y2, i_ y3, i_ y4, r_ (h4.size), r_ (h9.size), r_ (h14.size), r_ (x'), i_ 1, i_ (v1'), i_ (v2'), i_ 1, i_ 0, i_ 4, i_ 4]) (st' := [(.int 4)]) rfl ?_
              refine br0 X22 hby d_code_371 (pc1 := 388) (by decide) (fun hl => absurd (leT hl) (fun q => q (by decide))) (fun hl => ?_)
              refine blk X22 hby b657 (pc' := 377) (Ls' := #[i_ p1, i_ p2, i_ p3, i_ p4, i_ p5, i_ 4, i_ y1, i_ y2, i_ y3, i_ y4, r_ (h4.size), r_ (h9.size), r_ (h14.size), r_ (x'), i_ 1, i_ (v1'), i_ (v2'), i_ 1, i_ 0, i_ 4, i_ 4]) (st' := [(.int 0), (.ref (x'))]) rfl ?_
              refine gVirt X22 hby (argsL := [(.int 0)]) (st := []) (ct_chr hw hEL X22.old U hFM hfm hx' (i := 0) (Nat.le_of_ble_eq_true rfl)) hx'.1 (hw _ (List.mem_of_getElem? (i := 121) rfl)) (hw _ (List.mem_of_getElem? (i := 71) rfl)) (hw _ (List.mem_of_getElem? (i := 73) rfl)) (hw _ (List.mem_of_getElem? (i := 72) rfl)) (hw _ (List.mem_of_getElem? (i := 11) rfl)) (hw _ (List.mem_of_getElem? (i := 74) rfl)) pd__I_C rfl d_code_377 rfl (by rw [hml]; rfl) all0 (by decide) (Nat.le_of_ble_eq_true rfl) (by decide) (by decide) (fun v23 T23 h23 S23 X23 q23 sS23 sz23 => ?_)
              obtain ⟨rfl, rfl⟩ := q23
              show Go _ _ _ _ (T23.setTop (mkF m 380 #[i_ p1, i_ p2, i_ p3, i_ p4, i_ p5, i_ 4, i_ y1, i_ y2, i_ y3, i_ y4, r_ (h4.size), r_ (h9.size), r_ (h14.size), r_ (x'), i_ 1, i_ (v1'), i_ (v2'), i_ 1, i_ 0, i_ 4, i_ 4] [(.int ((([y1, y2, y3, y4].drop 0).take (4 - 0)).getD 0 0))]))
              show Go _ _ _ _ (T23.setTop (mkF m 380 #[i_ p1, i_ p2, i_ p3, i_ p4, i_ p5, i_ 4, i_ y1, i_ y2, i_ y3, i_ y4, r_ (h4.size), r_ (h9.size), r_ (h14.size), r_ (x'), i_ 1, i_ (v1'), i_ (v2'), i_ 1, i_ 0, i_ 4, i_ 4] [(.int y1)]))
              refine blk X23 hby b658 (pc' := 384) (Ls' := #[i_ p1, i_ p2, i_ p3, i_ p4, i_ p5, i_ 4, i_ y1, i_ y2, i_ y3, i_ y4, r_ (h4.size), r_ (h9.size), r_ (h14.size), r_ (x'), i_ 1, i_ (v1'), i_ (v2'), i_ 1, i_ 0, i_ 4, i_ 4]) (st' := [(.int 0), (.ref (h4.size)), (.int y1)]) rfl ?_
              refine gLd X23 hby hVd (Or.inr (Or.inl ⟨rfl, rfl⟩)) d_code_384 (i := 0) rfl (Nat.le_of_ble_eq_true rfl) ?_
              refine brI X23 hby d_code_385 (pc1 := 458) (by decide) (fun hl => absurd (neT hl) (fun q => q rfl)) (fun hl => ?_)
              refine blk X23 hby b659 (pc' := 391) (Ls' := #[i_ p1, i_ p2, i_ p3, i_ p4, i_ p5, i_ 4, i_ y1, i_ y2, i_ y3, i_ y4, r_ (h4.size), r_ (h9.size), r_ (h14.size), r_ (x'), i_ 1, i_ (v1'), i_ (v2'), i_ 1, i_ 0, i_ 4, i_ 4]) (st' := [(.int 1), (.int 4)]) rfl ?_
              refine brI X23 hby d_code_391 (pc1 := 410) (by decide) (fun hl => absurd (leT hl) (fun q => q (by decide))) (fun hl => ?_)
              refine blk X23 hby b660 (pc' := 397) (Ls' := #[i_ p1, i_ p2, i_ p3, i_ p4, i_ p5, i_ 4, i_ y1, i_ y2, i_ y3, i_ y4, r_ (h4.size), r_ (h9.size), r_ (h14.size), r_ (x'), i_ 1, i_ (v1'), i_ (v2'), i_ 1, i_ 0, i_ 4, i_ 4]) (st' := [(.int 1), (.ref (x'))]) rfl ?_
              refine gVirt X23 hby (argsL := [(.int 1)]) (st := []) (ct_chr hw hEL X23.old U hFM hfm hx' (i := 1) (Nat.le_of_ble_eq_true rfl)) hx'.1 (hw _ (List.mem_of_getElem? (i := 121) rfl)) (hw _ (List.mem_of_getElem? (i := 71) rfl)) (hw _ (List.mem_of_getElem? (i := 73) rfl)) (hw _ (List.mem_of_getElem? (i := 72) rfl)) (hw _ (List.mem_of_getElem? (i := 11) rfl)) (hw _ (List.mem_of_getElem? (i := 74) rfl)) pd__I_C rfl d_code_397 rfl (by rw [hml]; rfl) all0 (by decide) (Nat.le_of_ble_eq_true rfl) (by decide) (by decide) (fun v24 T24 h24 S24 X24 q24 sS24 sz24 => ?_)
              obtain ⟨rfl, rfl⟩ := q24
              show Go _ _ _ _ (T24.setTop (mkF m 400 #[i_ p1, i_ p2, i_ p3, i_ p4, i_ p5, i_ 4, i_ y1, i_ y2, i_ y3, i_ y4, r_ (h4.size), r_ (h9.size), r_ (h14.size), r_ (x'), i_ 1, i_ (v1'), i_ (v2'), i_ 1, i_ 0, i_ 4, i_ 4] [(.int ((([y1, y2, y3, y4].drop 0).take (4 - 0)).getD 1 0))]))
              show Go _ _ _ _ (T24.setTop (mkF m 400 #[i_ p1, i_ p2, i_ p3, i_ p4, i_ p5, i_ 4, i_ y1, i_ y2, i_ y3, i_ y4, r_ (h4.size), r_ (h9.size), r_ (h14.size), r_ (x'), i_ 1, i_ (v1'), i_ (v2'), i_ 1, i_ 0, i_ 4, i_ 4] [(.int y2)]))
              refine blk X24 hby b661 (pc' := 406) (Ls' := #[i_ p1, i_ p2, i_ p3, i_ p4, i_ p5, i_ 4, i_ y1, i_ y2, i_ y3, i_ y4, r_ (h4.size), r_ (h9.size), r_ (h14.size), r_ (x'), i_ 1, i_ (v1'), i_ (v2'), i_ 1, i_ 0, i_ 4, i_ 4]) (st' := [(.int ((0 : Int32) + (1 : Int32))), (.ref (h4.size)), (.int y2)]) rfl ?_
              refine gLd X24 hby hVd (Or.inr (Or.inl ⟨rfl, rfl⟩)) d_code_406 (i := 1) rfl (Nat.le_of_ble_eq_true rfl) ?_
              refine brI X24 hby d_code_407 (pc1 := 458) (by decide) (fun hl => absurd (neT hl) (fun q => q rfl)) (fun hl => ?_)
              refine blk X24 hby b662 (pc' := 413) (Ls' := #[i_ p1, i_ p2, i_ p3, i_ p4, i_ p5, i_ 4, i_ y1, i_ y2, i_ y3, i_ y4, r_ (h4.size), r_ (h9.size), r_ (h14.size), r_ (x'), i_ 1, i_ (v1'), i_ (v2'), i_ 1, i_ 0, i_ 4, i_ 4]) (st' := [(.int 2), (.int 4)]) rfl ?_
              refine brI X24 hby d_code_413 (pc1 := 432) (by decide) (fun hl => absurd (leT hl) (fun q => q (by decide))) (fun hl => ?_)
              refine blk X24 hby b663 (pc' := 419) (Ls' := #[i_ p1, i_ p2, i_ p3, i_ p4, i_ p5, i_ 4, i_ y1, i_ y2, i_ y3, i_ y4, r_ (h4.size), r_ (h9.size), r_ (h14.size), r_ (x'), i_ 1, i_ (v1'), i_ (v2'), i_ 1, i_ 0, i_ 4, i_ 4]) (st' := [(.int 2), (.ref (x'))]) rfl ?_
              refine gVirt X24 hby (argsL := [(.int 2)]) (st := []) (ct_chr hw hEL X24.old U hFM hfm hx' (i := 2) (Nat.le_of_ble_eq_true rfl)) hx'.1 (hw _ (List.mem_of_getElem? (i := 121) rfl)) (hw _ (List.mem_of_getElem? (i := 71) rfl)) (hw _ (List.mem_of_getElem? (i := 73) rfl)) (hw _ (List.mem_of_getElem? (i := 72) rfl)) (hw _ (List.mem_of_getElem? (i := 11) rfl)) (hw _ (List.mem_of_getElem? (i := 74) rfl)) pd__I_C rfl d_code_419 rfl (by rw [hml]; rfl) all0 (by decide) (Nat.le_of_ble_eq_true rfl) (by decide) (by decide) (fun v25 T25 h25 S25 X25 q25 sS25 sz25 => ?_)
              obtain ⟨rfl, rfl⟩ := q25
              show Go _ _ _ _ (T25.setTop (mkF m 422 #[i_ p1, i_ p2, i_ p3, i_ p4, i_ p5, i_ 4, i_ y1, i_ y2, i_ y3, i_ y4, r_ (h4.size), r_ (h9.size), r_ (h14.size), r_ (x'), i_ 1, i_ (v1'), i_ (v2'), i_ 1, i_ 0, i_ 4, i_ 4] [(.int ((([y1, y2, y3, y4].drop 0).take (4 - 0)).getD 2 0))]))
              show Go _ _ _ _ (T25.setTop (mkF m 422 #[i_ p1, i_ p2, i_ p3, i_ p4, i_ p5, i_ 4, i_ y1, i_ y2, i_ y3, i_ y4, r_ (h4.size), r_ (h9.size), r_ (h14.size), r_ (x'), i_ 1, i_ (v1'), i_ (v2'), i_ 1, i_ 0, i_ 4, i_ 4] [(.int y3)]))
              refine blk X25 hby b664 (pc' := 428) (Ls' := #[i_ p1, i_ p2, i_ p3, i_ p4, i_ p5, i_ 4, i_ y1, i_ y2, i_ y3, i_ y4, r_ (h4.size), r_ (h9.size), r_ (h14.size), r_ (x'), i_ 1, i_ (v1'), i_ (v2'), i_ 1, i_ 0, i_ 4, i_ 4]) (st' := [(.int ((0 : Int32) + (2 : Int32))), (.ref (h4.size)), (.int y3)]) rfl ?_
              refine gLd X25 hby hVd (Or.inr (Or.inl ⟨rfl, rfl⟩)) d_code_428 (i := 2) rfl (Nat.le_of_ble_eq_true rfl) ?_
              refine brI X25 hby d_code_429 (pc1 := 458) (by decide) (fun hl => absurd (neT hl) (fun q => q rfl)) (fun hl => ?_)
              refine blk X25 hby b665 (pc' := 435) (Ls' := #[i_ p1, i_ p2, i_ p3, i_ p4, i_ p5, i_ 4, i_ y1, i_ y2, i_ y3, i_ y4, r_ (h4.size), r_ (h9.size), r_ (h14.size), r_ (x'), i_ 1, i_ (v1'), i_ (v2'), i_ 1, i_ 0, i_ 4, i_ 4]) (st' := [(.int 3), (.int 4)]) rfl ?_
              refine brI X25 hby d_code_435 (pc1 := 454) (by decide) (fun hl => absurd (leT hl) (fun q => q (by decide))) (fun hl => ?_)
              refine blk X25 hby b666 (pc' := 441) (Ls' := #[i_ p1, i_ p2, i_ p3, i_ p4, i_ p5, i_ 4, i_ y1, i_ y2, i_ y3, i_ y4, r_ (h4.size), r_ (h9.size), r_ (h14.size), r_ (x'), i_ 1, i_ (v1'), i_ (v2'), i_ 1, i_ 0, i_ 4, i_ 4]) (st' := [(.int 3), (.ref (x'))]) rfl ?_
              refine gVirt X25 hby (argsL := [(.int 3)]) (st := []) (ct_chr hw hEL X25.old U hFM hfm hx' (i := 3) (Nat.le_of_ble_eq_true rfl)) hx'.1 (hw _ (List.mem_of_getElem? (i := 121) rfl)) (hw _ (List.mem_of_getElem? (i := 71) rfl)) (hw _ (List.mem_of_getElem? (i := 73) rfl)) (hw _ (List.mem_of_getElem? (i := 72) rfl)) (hw _ (List.mem_of_getElem? (i := 11) rfl)) (hw _ (List.mem_of_getElem? (i := 74) rfl)) pd__I_C rfl d_code_441 rfl (by rw [hml]; rfl) all0 (by decide) (Nat.le_of_ble_eq_true rfl) (by decide) (by decide) (fun v26 T26 h26 S26 X26 q26 sS26 sz26 => ?_)
              obtain ⟨rfl, rfl⟩ := q26
              show Go _ _ _ _ (T26.setTop (mkF m 444 #[i_ p1, i_ p2, i_ p3, i_ p4, i_ p5, i_ 4, i_ y1, i_ y2, i_ y3, i_ y4, r_ (h4.size), r_ (h9.size), r_ (h14.size), r_ (x'), i_ 1, i_ (v1'), i_ (v2'), i_ 1, i_ 0, i_ 4, i_ 4] [(.int ((([y1, y2, y3, y4].drop 0).take (4 - 0)).getD 3 0))]))
              show Go _ _ _ _ (T26.setTop (mkF m 444 #[i_ p1, i_ p2, i_ p3, i_ p4, i_ p5, i_ 4, i_ y1, i_ y2, i_ y3, i_ y4, r_ (h4.size), r_ (h9.size), r_ (h14.size), r_ (x'), i_ 1, i_ (v1'), i_ (v2'), i_ 1, i_ 0, i_ 4, i_ 4] [(.int y4)]))
              refine blk X26 hby b667 (pc' := 450) (Ls' := #[i_ p1, i_ p2, i_ p3, i_ p4, i_ p5, i_ 4, i_ y1, i_ y2, i_ y3, i_ y4, r_ (h4.size), r_ (h9.size), r_ (h14.size), r_ (x'), i_ 1, i_ (v1'), i_ (v2'), i_ 1, i_ 0, i_ 4, i_ 4]) (st' := [(.int ((0 : Int32) + (3 : Int32))), (.ref (h4.size)), (.int y4)]) rfl ?_
              refine gLd X26 hby hVd (Or.inr (Or.inl ⟨rfl, rfl⟩)) d_code_450 (i := 3) rfl (Nat.le_of_ble_eq_true rfl) ?_
              refine brI X26 hby d_code_451 (pc1 := 458) (by decide) (fun hl => absurd (neT hl) (fun q => q rfl)) (fun hl => ?_)
              refine blk X26 hby b668 (pc' := 459) (Ls' := #[i_ p1, i_ p2, i_ p3, i_ p4, i_ p5, i_ 4, i_ y1, i_ y2, i_ y3, i_ y4, r_ (h4.size), r_ (h9.size), r_ (h14.size), r_ (x'), i_ 1, i_ (v1'), i_ (v2'), i_ 1, i_ 0, i_ 4, i_ 4]) (st' := [(.int 1)]) rfl ?_
              exact retI' X26 hby hret d_code_459 rfl (fun S' hS' => rfl)
            · skip
              have wj0 : wsB y1 = true := g4 0 (by decide)
              rw [wj0] at hv0
              replace hv0 : v0' = (0 : Int32) := hv0
              subst hv0
              have wj1 : wsB y2 = false := g5 (by decide)
              rw [wj1] at hv1
              replace hv1 : v1' = (1 : Int32) := hv1
              subst hv1
              have wj2 : wsB y3 = true := g6 2 (by decide) (by decide)
              rw [wj2] at hv2
              replace hv2 : v2' = (0 : Int32) := hv2
              subst hv2
              have wj3 : wsB y4 = true := g6 3 (by decide) (by decide)
              rw [wj3] at hv3
              replace hv3 : v3' = (0 : Int32) := hv3
              subst hv3
              show Go _ _ _ _ (T21.setTop (mkF m 270 #[i_ p1, i_ p2, i_ p3, i_ p4, i_ p5, i_ 4, i_ y1, i_ y2, i_ y3, i_ y4, r_ (h4.size), r_ (h9.size), r_ (h14.size), r_ (x'), i_ 0, i_ 1, i_ 0, i_ 0, u_, u_, u_] []))
              refine blk X21 hby b669 (pc' := 272) (Ls' := #[i_ p1, i_ p2, i_ p3, i_ p4, i_ p5, i_ 4, i_ y1, i_ y2, i_ y3, i_ y4, r_ (h4.size), r_ (h9.size), r_ (h14.size), r_ (x'), i_ 0, i_ 1, i_ 0, i_ 0, u_, u_, u_]) (st' := [(.int 0)]) rfl ?_
              refine br0 X21 hby d_code_272 (pc1 := 279) (by decide) (fun hl => ?_) (fun hl => absurd (eqF hl) (fun q => q rfl))
              refine blk X21 hby b670 (pc' := 281) (Ls' := #[i_ p1, i_ p2, i_ p3, i_ p4, i_ p5, i_ 4, i_ y1, i_ y2, i_ y3, i_ y4, r_ (h4.size), r_ (h9.size), r_ (h14.size), r_ (x'), i_ 0, i_ 1, i_ 0, i_ 0, u_, u_, u_]) (st' := [(.int 1)]) rfl ?_
              refine br0 X21 hby d_code_281 (pc1 := 288) (by decide) (fun hl => absurd (eqT hl) (by decide)) (fun hl => ?_)
              refine blk X21 hby b671 (pc' := 310) (Ls' := #[i_ p1, i_ p2, i_ p3, i_ p4, i_ p5, i_ 4, i_ y1, i_ y2, i_ y3, i_ y4, r_ (h4.size), r_ (h9.size), r_ (h14.size), r_ (x'), i_ 0, i_ 1, i_ 0, i_ 0, i_ 1, u_, u_]) (st' := []) rfl ?_
              refine blk X21 hby b672 (pc' := 312) (Ls' := #[i_ p1, i_ p2, i_ p3, i_ p4, i_ p5, i_ 4, i_ y1, i_ y2, i_ y3, i_ y4, r_ (h4.size), r_ (h9.size), r_ (h14.size), r_ (x'), i_ 0, i_ 1, i_ 0, i_ 0, i_ 1, u_, u_]) (st' := [(.int 0)]) rfl ?_
              refine br0 X21 hby d_code_312 (pc1 := 319) (by decide) (fun hl => ?_) (fun hl => absurd (eqF hl) (fun q => q rfl))
              refine blk X21 hby b673 (pc' := 321) (Ls' := #[i_ p1, i_ p2, i_ p3, i_ p4, i_ p5, i_ 4, i_ y1, i_ y2, i_ y3, i_ y4, r_ (h4.size), r_ (h9.size), r_ (h14.size), r_ (x'), i_ 0, i_ 1, i_ 0, i_ 0, i_ 1, u_, u_]) (st' := [(.int 0)]) rfl ?_
              refine br0 X21 hby d_code_321 (pc1 := 328) (by decide) (fun hl => ?_) (fun hl => absurd (eqF hl) (fun q => q rfl))
              refine blk X21 hby b674 (pc' := 330) (Ls' := #[i_ p1, i_ p2, i_ p3, i_ p4, i_ p5, i_ 4, i_ y1, i_ y2, i_ y3, i_ y4, r_ (h4.size), r_ (h9.size), r_ (h14.size), r_ (x'), i_ 0, i_ 1, i_ 0, i_ 0, i_ 1, u_, u_]) (st' := [(.int 1)]) rfl ?_
              refine br0 X21 hby d_code_330 (pc1 := 337) (by decide) (fun hl => absurd (eqT hl) (by decide)) (fun hl => ?_)
              refine blk X21 hby b675 (pc' := 359) (Ls' := #[i_ p1, i_ p2, i_ p3, i_ p4, i_ p5, i_ 4, i_ y1, i_ y2, i_ y3, i_ y4, r_ (h4.size), r_ (h9.size), r_ (h14.size), r_ (x'), i_ 0, i_ 1, i_ 0, i_ 0, i_ 1, i_ 2, i_ ((2 : Int32) - (1 : Int32))]) (st' := [(.ref (x'))]) rfl ?_
              show Go _ _ _ _ (T21.setTop (mkF m 359 #[i_ p1, i_ p2, i_ p3, i_ p4, i_ p5, i_ 4, i_ y1, i_ y2, i_ y3, i_ y4, r_ (h4.size), r_ (h9.size), r_ (h14.size), r_ (x'), i_ 0, i_ 1, i_ 0, i_ 0, i_ 1, i_ 2, i_ 1] [(.ref (x'))]))
              refine gVirt X21 hby (argsL := []) (st := []) (ct_len hw hEL X21.old U hx') hx'.1 (hw _ (List.mem_of_getElem? (i := 59) rfl)) (hw _ (List.mem_of_getElem? (i := 35) rfl)) (hw _ (List.mem_of_getElem? (i := 37) rfl)) (hw _ (List.mem_of_getElem? (i := 36) rfl)) (hw _ (List.mem_of_getElem? (i := 11) rfl)) (hw _ (List.mem_of_getElem? (i := 38) rfl)) pd___I rfl d_code_359 rfl (by rw [hml]; rfl) all0 (by decide) (Nat.le_of_ble_eq_true rfl) (by decide) (by decide) (fun v22 T22 h22 S22 X22 q22 sS22 sz22 => ?_)
              obtain ⟨rfl, rfl⟩ := q22
              show Go _ _ _ _ (T22.setTop (mkF m 362 #[i_ p1, i_ p2, i_ p3, i_ p4, i_ p5, i_ 4, i_ y1, i_ y2, i_ y3, i_ y4, r_ (h4.size), r_ (h9.size), r_ (h14.size), r_ (x'), i_ 0, i_ 1, i_ 0, i_ 0, i_ 1, i_ 2, i_ 1] [(.int (Int32.ofNat (([y1, y2, y3, y4].drop 1).take (2 - 1)).length))]))
              show Go _ _ _ _ (T22.setTop (mkF m 362 #[i_ p1, i_ p2, i_ p3, i_ p4, i_ p5, i_ 4, i_ y1, i_ y2, i_ y3, i_ y4, r_ (h4.size), r_ (h9.size), r_ (h14.size), r_ (x'), i_ 0, i_ 1, i_ 0, i_ 0, i_ 1, i_ 2, i_ 1] [(.int 1)]))
              refine blk X22 hby b676 (pc' := 364) (Ls' := #[i_ p1, i_ p2, i_ p3, i_ p4, i_ p5, i_ 4, i_ y1, i_ y2, i_ y3, i_ y4, r_ (h4.size), r_ (h9.size), r_ (h14.size), r_ (x'), i_ 0, i_ 1, i_ 0, i_ 0, i_ 1, i_ 2, i_ 1]) (st' := [(.int 1), (.int 1)]) rfl ?_
              refine brI X22 hby d_code_364 (pc1 := 369) (by decide) (fun hl => ?_) (fun hl => absurd (eqF hl) (fun q => q rfl))
              refine blk X22 hby b677 (pc' := 371) (Ls' := #[i_ p1, i_ p2, i_ p3, i_ p4, i_ p5, i_ 4, i_ y1, i_ y2, i_ y3, i_ y4, r_ (h4.size), r_ (h9.size), r_ (h14.size), r_ (x'), i_ 0, i_ 1, i_ 0, i_ 0, i_ 1, i_ 2, i_ 1]) (st' := [(.int 1)]) rfl ?_
              refine br0 X22 hby d_code_371 (pc1 := 388) (by decide) (fun hl => absurd (leT hl) (fun q => q (by decide))) (fun hl => ?_)
              refine blk X22 hby b678 (pc' := 377) (Ls' := #[i_ p1, i_ p2, i_ p3, i_ p4, i_ p5, i_ 4, i_ y1, i_ y2, i_ y3, i_ y4, r_ (h4.size), r_ (h9.size), r_ (h14.size), r_ (x'), i_ 0, i_ 1, i_ 0, i_ 0, i_ 1, i_ 2, i_ 1]) (st' := [(.int 0), (.ref (x'))]) rfl ?_
              refine gVirt X22 hby (argsL := [(.int 0)]) (st := []) (ct_chr hw hEL X22.old U hFM hfm hx' (i := 0) (Nat.le_of_ble_eq_true rfl)) hx'.1 (hw _ (List.mem_of_getElem? (i := 121) rfl)) (hw _ (List.mem_of_getElem? (i := 71) rfl)) (hw _ (List.mem_of_getElem? (i := 73) rfl)) (hw _ (List.mem_of_getElem? (i := 72) rfl)) (hw _ (List.mem_of_getElem? (i := 11) rfl)) (hw _ (List.mem_of_getElem? (i := 74) rfl)) pd__I_C rfl d_code_377 rfl (by rw [hml]; rfl) all0 (by decide) (Nat.le_of_ble_eq_true rfl) (by decide) (by decide) (fun v23 T23 h23 S23 X23 q23 sS23 sz23 => ?_)
              obtain ⟨rfl, rfl⟩ := q23
              show Go _ _ _ _ (T23.setTop (mkF m 380 #[i_ p1, i_ p2, i_ p3, i_ p4, i_ p5, i_ 4, i_ y1, i_ y2, i_ y3, i_ y4, r_ (h4.size), r_ (h9.size), r_ (h14.size), r_ (x'), i_ 0, i_ 1, i_ 0, i_ 0, i_ 1, i_ 2, i_ 1] [(.int ((([y1, y2, y3, y4].drop 1).take (2 - 1)).getD 0 0))]))
              show Go _ _ _ _ (T23.setTop (mkF m 380 #[i_ p1, i_ p2, i_ p3, i_ p4, i_ p5, i_ 4, i_ y1, i_ y2, i_ y3, i_ y4, r_ (h4.size), r_ (h9.size), r_ (h14.size), r_ (x'), i_ 0, i_ 1, i_ 0, i_ 0, i_ 1, i_ 2, i_ 1] [(.int y2)]))
              refine blk X23 hby b679 (pc' := 384) (Ls' := #[i_ p1, i_ p2, i_ p3, i_ p4, i_ p5, i_ 4, i_ y1, i_ y2, i_ y3, i_ y4, r_ (h4.size), r_ (h9.size), r_ (h14.size), r_ (x'), i_ 0, i_ 1, i_ 0, i_ 0, i_ 1, i_ 2, i_ 1]) (st' := [(.int 1), (.ref (h4.size)), (.int y2)]) rfl ?_
              refine gLd X23 hby hVd (Or.inr (Or.inl ⟨rfl, rfl⟩)) d_code_384 (i := 1) rfl (Nat.le_of_ble_eq_true rfl) ?_
              refine brI X23 hby d_code_385 (pc1 := 458) (by decide) (fun hl => absurd (neT hl) (fun q => q rfl)) (fun hl => ?_)
              refine blk X23 hby b680 (pc' := 391) (Ls' := #[i_ p1, i_ p2, i_ p3, i_ p4, i_ p5, i_ 4, i_ y1, i_ y2, i_ y3, i_ y4, r_ (h4.size), r_ (h9.size), r_ (h14.size), r_ (x'), i_ 0, i_ 1, i_ 0, i_ 0, i_ 1, i_ 2, i_ 1]) (st' := [(.int 1), (.int 1)]) rfl ?_
              refine brI X23 hby d_code_391 (pc1 := 410) (by decide) (fun hl => ?_) (fun hl => absurd (leF hl) (by decide))
              refine blk X23 hby b681 (pc' := 413) (Ls' := #[i_ p1, i_ p2, i_ p3, i_ p4, i_ p5, i_ 4, i_ y1, i_ y2, i_ y3, i_ y4, r_ (h4.size), r_ (h9.size), r_ (h14.size), r_ (x'), i_ 0, i_ 1, i_ 0, i_ 0, i_ 1, i_ 2, i_ 1]) (st' := [(.int 2), (.int 1)]) rfl ?_
              refine brI X23 hby d_code_413 (pc1 := 432) (by decide) (fun hl => ?_) (fun hl => absurd (leF hl) (by decide))
              refine blk X23 hby b682 (pc' := 435) (Ls' := #[i_ p1, i_ p2, i_ p3, i_ p4, i_ p5, i_ 4, i_ y1, i_ y2, i_ y3, i_ y4, r_ (h4.size), r_ (h9.size), r_ (h14.size), r_ (x'), i_ 0, i_ 1, i_ 0, i_ 0, i_ 1, i_ 2, i_ 1]) (st' := [(.int 3), (.int 1)]) rfl ?_
              refine brI X23 hby d_code_435 (pc1 := 454) (by decide) (fun hl => ?_) (fun hl => absurd (leF hl) (by decide))
              refine blk X23 hby b683 (pc' := 459) (Ls' := #[i_ p1, i_ p2, i_ p3, i_ p4, i_ p5, i_ 4, i_ y1, i_ y2, i_ y3, i_ y4, r_ (h4.size), r_ (h9.size), r_ (h14.size), r_ (x'), i_ 0, i_ 1, i_ 0, i_ 0, i_ 1, i_ 2, i_ 1]) (st' := [(.int 1)]) rfl ?_
              exact retI' X23 hby hret d_code_459 rfl (fun S' hS' => rfl)
            · skip
              have wj0 : wsB y1 = true := g4 0 (by decide)
              rw [wj0] at hv0
              replace hv0 : v0' = (0 : Int32) := hv0
              subst hv0
              have wj1 : wsB y2 = false := g5 (by decide)
              rw [wj1] at hv1
              replace hv1 : v1' = (1 : Int32) := hv1
              subst hv1
              have wj2 : wsB y3 = false := g7 (by decide)
              rw [wj2] at hv2
              replace hv2 : v2' = (1 : Int32) := hv2
              subst hv2
              have wj3 : wsB y4 = true := g6 3 (by decide) (by decide)
              rw [wj3] at hv3
              replace hv3 : v3' = (0 : Int32) := hv3
              subst hv3
              show Go _ _ _ _ (T21.setTop (mkF m 270 #[i_ p1, i_ p2, i_ p3, i_ p4, i_ p5, i_ 4, i_ y1, i_ y2, i_ y3, i_ y4, r_ (h4.size), r_ (h9.size), r_ (h14.size), r_ (x'), i_ 0, i_ 1, i_ 1, i_ 0, u_, u_, u_] []))
              refine blk X21 hby b684 (pc' := 272) (Ls' := #[i_ p1, i_ p2, i_ p3, i_ p4, i_ p5, i_ 4, i_ y1, i_ y2, i_ y3, i_ y4, r_ (h4.size), r_ (h9.size), r_ (h14.size), r_ (x'), i_ 0, i_ 1, i_ 1, i_ 0, u_, u_, u_]) (st' := [(.int 0)]) rfl ?_
              refine br0 X21 hby d_code_272 (pc1 := 279) (by decide) (fun hl => ?_) (fun hl => absurd (eqF hl) (fun q => q rfl))
              refine blk X21 hby b685 (pc' := 281) (Ls' := #[i_ p1, i_ p2, i_ p3, i_ p4, i_ p5, i_ 4, i_ y1, i_ y2, i_ y3, i_ y4, r_ (h4.size), r_ (h9.size), r_ (h14.size), r_ (x'), i_ 0, i_ 1, i_ 1, i_ 0, u_, u_, u_]) (st' := [(.int 1)]) rfl ?_
              refine br0 X21 hby d_code_281 (pc1 := 288) (by decide) (fun hl => absurd (eqT hl) (by decide)) (fun hl => ?_)
              refine blk X21 hby b686 (pc' := 310) (Ls' := #[i_ p1, i_ p2, i_ p3, i_ p4, i_ p5, i_ 4, i_ y1, i_ y2, i_ y3, i_ y4, r_ (h4.size), r_ (h9.size), r_ (h14.size), r_ (x'), i_ 0, i_ 1, i_ 1, i_ 0, i_ 1, u_, u_]) (st' := []) rfl ?_
              refine blk X21 hby b687 (pc' := 312) (Ls' := #[i_ p1, i_ p2, i_ p3, i_ p4, i_ p5, i_ 4, i_ y1, i_ y2, i_ y3, i_ y4, r_ (h4.size), r_ (h9.size), r_ (h14.size), r_ (x'), i_ 0, i_ 1, i_ 1, i_ 0, i_ 1, u_, u_]) (st' := [(.int 0)]) rfl ?_
              refine br0 X21 hby d_code_312 (pc1 := 319) (by decide) (fun hl => ?_) (fun hl => absurd (eqF hl) (fun q => q rfl))
              refine blk X21 hby b688 (pc' := 321) (Ls' := #[i_ p1, i_ p2, i_ p3, i_ p4, i_ p5, i_ 4, i_ y1, i_ y2, i_ y3, i_ y4, r_ (h4.size), r_ (h9.size), r_ (h14.size), r_ (x'), i_ 0, i_ 1, i_ 1, i_ 0, i_ 1, u_, u_]) (st' := [(.int 1)]) rfl ?_
              refine br0 X21 hby d_code_321 (pc1 := 328) (by decide) (fun hl => absurd (eqT hl) (by decide)) (fun hl => ?_)
              refine blk X21 hby b689 (pc' := 359) (Ls' := #[i_ p1, i_ p2, i_ p3, i_ p4, i_ p5, i_ 4, i_ y1, i_ y2, i_ y3, i_ y4, r_ (h4.size), r_ (h9.size), r_ (h14.size), r_ (x'), i_ 0, i_ 1, i_ 1, i_ 0, i_ 1, i_ 3, i_ ((3 : Int32) - (1 : Int32))]) (st' := [(.ref (x'))]) rfl ?_
              show Go _ _ _ _ (T21.setTop (mkF m 359 #[i_ p1, i_ p2, i_ p3, i_ p4, i_ p5, i_ 4, i_ y1, i_ y2, i_ y3, i_ y4, r_ (h4.size), r_ (h9.size), r_ (h14.size), r_ (x'), i_ 0, i_ 1, i_ 1, i_ 0, i_ 1, i_ 3, i_ 2] [(.ref (x'))]))
              refine gVirt X21 hby (argsL := []) (st := []) (ct_len hw hEL X21.old U hx') hx'.1 (hw _ (List.mem_of_getElem? (i := 59) rfl)) (hw _ (List.mem_of_getElem? (i := 35) rfl)) (hw _ (List.mem_of_getElem? (i := 37) rfl)) (hw _ (List.mem_of_getElem? (i := 36) rfl)) (hw _ (List.mem_of_getElem? (i := 11) rfl)) (hw _ (List.mem_of_getElem? (i := 38) rfl)) pd___I rfl d_code_359 rfl (by rw [hml]; rfl) all0 (by decide) (Nat.le_of_ble_eq_true rfl) (by decide) (by decide) (fun v22 T22 h22 S22 X22 q22 sS22 sz22 => ?_)
              obtain ⟨rfl, rfl⟩ := q22
              show Go _ _ _ _ (T22.setTop (mkF m 362 #[i_ p1, i_ p2, i_ p3, i_ p4, i_ p5, i_ 4, i_ y1, i_ y2, i_ y3, i_ y4, r_ (h4.size), r_ (h9.size), r_ (h14.size), r_ (x'), i_ 0, i_ 1, i_ 1, i_ 0, i_ 1, i_ 3, i_ 2] [(.int (Int32.ofNat (([y1, y2, y3, y4].drop 1).take (3 - 1)).length))]))
              show Go _ _ _ _ (T22.setTop (mkF m 362 #[i_ p1, i_ p2, i_ p3, i_ p4, i_ p5, i_ 4, i_ y1, i_ y2, i_ y3, i_ y4, r_ (h4.size), r_ (h9.size), r_ (h14.size), r_ (x'), i_ 0, i_ 1, i_ 1, i_ 0, i_ 1, i_ 3, i_ 2] [(.int 2)]))
              refine blk X22 hby b690 (pc' := 364) (Ls' := #[i_ p1, i_ p2, i_ p3, i_ p4, i_ p5, i_ 4, i_ y1, i_ y2, i_ y3, i_ y4, r_ (h4.size), r_ (h9.size), r_ (h14.size), r_ (x'), i_ 0, i_ 1, i_ 1, i_ 0, i_ 1, i_ 3, i_ 2]) (st' := [(.int 2), (.int 2)]) rfl ?_
              refine brI X22 hby d_code_364 (pc1 := 369) (by decide) (fun hl => ?_) (fun hl => absurd (eqF hl) (fun q => q rfl))
              refine blk X22 hby b691 (pc' := 371) (Ls' := #[i_ p1, i_ p2, i_ p3, i_ p4, i_ p5, i_ 4, i_ y1, i_ y2, i_ y3, i_ y4, r_ (h4.size), r_ (h9.size), r_ (h14.size), r_ (x'), i_ 0, i_ 1, i_ 1, i_ 0, i_ 1, i_ 3, i_ 2]) (st' := [(.int 2)]) rfl ?_
              refine br0 X22 hby d_code_371 (pc1 := 388) (by decide) (fun hl => absurd (leT hl) (fun q => q (by decide))) (fun hl => ?_)
              refine blk X22 hby b692 (pc' := 377) (Ls' := #[i_ p1, i_ p2, i_ p3, i_ p4, i_ p5, i_ 4, i_ y1, i_ y2, i_ y3, i_ y4, r_ (h4.size), r_ (h9.size), r_ (h14.size), r_ (x'), i_ 0, i_ 1, i_ 1, i_ 0, i_ 1, i_ 3, i_ 2]) (st' := [(.int 0), (.ref (x'))]) rfl ?_
              refine gVirt X22 hby (argsL := [(.int 0)]) (st := []) (ct_chr hw hEL X22.old U hFM hfm hx' (i := 0) (Nat.le_of_ble_eq_true rfl)) hx'.1 (hw _ (List.mem_of_getElem? (i := 121) rfl)) (hw _ (List.mem_of_getElem? (i := 71) rfl)) (hw _ (List.mem_of_getElem? (i := 73) rfl)) (hw _ (List.mem_of_getElem? (i := 72) rfl)) (hw _ (List.mem_of_getElem? (i := 11) rfl)) (hw _ (List.mem_of_getElem? (i := 74) rfl)) pd__I_C rfl d_code_377 rfl (by rw [hml]; rfl) all0 (by decide) (Nat.le_of_ble_eq_true rfl) (by decide) (by decide) (fun v23 T23 h23 S23 X23 q23 sS23 sz23 => ?_)
              obtain ⟨rfl, rfl⟩ := q23
              show Go _ _ _ _ (T23.setTop (mkF m 380 #[i_ p1, i_ p2, i_ p3, i_ p4, i_ p5, i_ 4, i_ y1, i_ y2, i_ y3, i_ y4, r_ (h4.size), r_ (h9.size), r_ (h14.size), r_ (x'), i_ 0, i_ 1, i_ 1, i_ 0, i_ 1, i_ 3, i_ 2] [(.int ((([y1, y2, y3, y4].drop 1).take (3 - 1)).getD 0 0))]))
              show Go _ _ _ _ (T23.setTop (mkF m 380 #[i_ p1, i_ p2, i_ p3, i_ p4, i_ p5, i_ 4, i_ y1, i_ y2, i_ y3, i_ y4, r_ (h4.size), r_ (h9.size), r_ (h14.size), r_ (x'), i_ 0, i_ 1, i_ 1, i_ 0, i_ 1, i_ 3, i_ 2] [(.int y2)]))
              refine blk X23 hby b693 (pc' := 384) (Ls' := #[i_ p1, i_ p2, i_ p3, i_ p4, i_ p5, i_ 4, i_ y1, i_ y2, i_ y3, i_ y4, r_ (h4.size), r_ (h9.size), r_ (h14.size), r_ (x'), i_ 0, i_ 1, i_ 1, i_ 0, i_ 1, i_ 3, i_ 2]) (st' := [(.int 1), (.ref (h4.size)), (.int y2)]) rfl ?_
              refine gLd X23 hby hVd (Or.inr (Or.inl ⟨rfl, rfl⟩)) d_code_384 (i := 1) rfl (Nat.le_of_ble_eq_true rfl) ?_
              refine brI X23 hby d_code_385 (pc1 := 458) (by decide) (fun hl => absurd (neT hl) (fun q => q rfl)) (fun hl => ?_)
              refine blk X23 hby b694 (pc' := 391) (Ls' := #[i_ p1, i_ p2, i_ p3, i_ p4, i_ p5, i_ 4, i_ y1, i_ y2, i_ y3, i_ y4, r_ (h4.size), r_ (h9.size), r_ (h14.size), r_ (x'), i_ 0, i_ 1, i_ 1, i_ 0, i_ 1, i_ 3, i_ 2]) (st' := [(.int 1), (.int 2)]) rfl ?_
              refine brI X23 hby d_code_391 (pc1 := 410) (by decide) (fun hl => absurd (leT hl) (fun q => q (by decide))) (fun hl => ?_)
              refine blk X23 hby b695 (pc' := 397) (Ls' := #[i_ p1, i_ p2, i_ p3, i_ p4, i_ p5, i_ 4, i_ y1, i_ y2, i_ y3, i_ y4, r_ (h4.size), r_ (h9.size), r_ (h14.size), r_ (x'), i_ 0, i_ 1, i_ 1, i_ 0, i_ 1, i_ 3, i_ 2]) (st' := [(.int 1), (.ref (x'))]) rfl ?_
              refine gVirt X23 hby (argsL := [(.int 1)]) (st := []) (ct_chr hw hEL X23.old U hFM hfm hx' (i := 1) (Nat.le_of_ble_eq_true rfl)) hx'.1 (hw _ (List.mem_of_getElem? (i := 121) rfl)) (hw _ (List.mem_of_getElem? (i := 71) rfl)) (hw _ (List.mem_of_getElem? (i := 73) rfl)) (hw _ (List.mem_of_getElem? (i := 72) rfl)) (hw _ (List.mem_of_getElem? (i := 11) rfl)) (hw _ (List.mem_of_getElem? (i := 74) rfl)) pd__I_C rfl d_code_397 rfl (by rw [hml]; rfl) all0 (by decide) (Nat.le_of_ble_eq_true rfl) (by decide) (by decide) (fun v24 T24 h24 S24 X24 q24 sS24 sz24 => ?_)
              obtain ⟨rfl, rfl⟩ := q24
              show Go _ _ _ _ (T24.setTop (mkF m 400 #[i_ p1, i_ p2, i_ p3, i_ p4, i_ p5, i_ 4, i_ y1, i_ y2, i_ y3, i_ y4, r_ (h4.size), r_ (h9.size), r_ (h14.size), r_ (x'), i_ 0, i_ 1, i_ 1, i_ 0, i_ 1, i_ 3, i_ 2] [(.int ((([y1, y2, y3, y4].drop 1).take (3 - 1)).getD 1 0))]))
              show Go _ _ _ _ (T24.setTop (mkF m 400 #[i_ p1, i_ p2, i_ p3, i_ p4, i_ p5, i_ 4, i_ y1, i_ y2, i_ y3, i_ y4, r_ (h4.size), r_ (h9.size), r_ (h14.size), r_ (x'), i_ 0, i_ 1, i_ 1, i_ 0, i_ 1, i_ 3, i_ 2] [(.int y3)]))
              refine blk X24 hby b696 (pc' := 406) (Ls' := #[i_ p1, i_ p2, i_ p3, i_ p4, i_ p5, i_ 4, i_ y1, i_ y2, i_ y3, i_ y4, r_ (h4.size), r_ (h9.size), r_ (h14.size), r_ (x'), i_ 0, i_ 1, i_ 1, i_ 0, i_ 1, i_ 3, i_ 2]) (st' := [(.int ((1 : Int32) + (1 : Int32))), (.ref (h4.size)), (.int y3)]) rfl ?_
              refine gLd X24 hby hVd (Or.inr (Or.inl ⟨rfl, rfl⟩)) d_code_406 (i := 2) rfl (Nat.le_of_ble_eq_true rfl) ?_
              refine brI X24 hby d_code_407 (pc1 := 458) (by decide) (fun hl => absurd (neT hl) (fun q => q rfl)) (fun hl => ?_)
              refine blk X24 hby b697 (pc' := 413) (Ls' := #[i_ p1, i_ p2, i_ p3, i_ p4, i_ p5, i_ 4, i_ y1, i_ y2, i_ y3, i_ y4, r_ (h4.size), r_ (h9.size), r_ (h14.size), r_ (x'), i_ 0, i_ 1, i_ 1, i_ 0, i_ 1, i_ 3, i_ 2]) (st' := [(.int 2), (.int 2)]) rfl ?_
              refine brI X24 hby d_code_413 (pc1 := 432) (by decide) (fun hl => ?_) (fun hl => absurd (leF hl) (by decide))
              refine blk X24 hby b698 (pc' := 435) (Ls' := #[i_ p1, i_ p2, i_ p3, i_ p4, i_ p5, i_ 4, i_ y1, i_ y2, i_ y3, i_ y4, r_ (h4.size), r_ (h9.size), r_ (h14.size), r_ (x'), i_ 0, i_ 1, i_ 1, i_ 0, i_ 1, i_ 3, i_ 2]) (st' := [(.int 3), (.int 2)]) rfl ?_
              refine brI X24 hby d_code_435 (pc1 := 454) (by decide) (fun hl => ?_) (fun hl => absurd (leF hl) (by decide))
              refine blk X24 hby b699 (pc' := 459) (Ls' := #[i_ p1, i_ p2, i_ p3, i_ p4, i_ p5, i_ 4, i_ y1, i_ y2, i_ y3, i_ y4, r_ (h4.size), r_ (h9.size), r_ (h14.size), r_ (x'), i_ 0, i_ 1, i_ 1, i_ 0, i_ 1, i_ 3, i_ 2]) (st' := [(.int 1)]) rfl ?_
              exact retI' X24 hby hret d_code_459 rfl (fun S' hS' => rfl)
            · skip
              have wj0 : wsB y1 = true := g4 0 (by decide)
              rw [wj0] at hv0
              replace hv0 : v0' = (0 : Int32) := hv0
              subst hv0
              have wj1 : wsB y2 = false := g5 (by decide)
              rw [wj1] at hv1
              replace hv1 : v1' = (1 : Int32) := hv1
              subst hv1
              have wj3 : wsB y4 = false := g7 (by decide)
              rw [wj3] at hv3
              replace hv3 : v3' = (1 : Int32) := hv3
              subst hv3
              show Go _ _ _ _ (T21.setTop (mkF m 270 #[i_ p1, i_ p2, i_ p3, i_ p4, i_ p5, i_ 4, i_ y1, i_ y2, i_ y3, i_ y4, r_ (h4.size), r_ (h9.size), r_ (h14.size), r_ (x'), i_ 0, i_ 1, i_ (v2'), i_ 1, u_, u_, u_] []))
              refine blk X21 hby b700 (pc' := 272) (Ls' := #[i_ p1, i_ p2, i_ p3, i_ p4, i_ p5, i_ 4, i_ y1, i_ y2, i_ y3, i_ y4, r_ (h4.size), r_ (h9.size), r_ (h14.size), r_ (x'), i_ 0, i_ 1, i_ (v2'), i_ 1, u_, u_, u_]) (st' := [(.int 0)]) rfl ?_
              refine br0 X21 hby d_code_272 (pc1 := 279) (by decide) (fun hl => ?_) (fun hl => absurd (eqF hl) (fun q => q rfl))
              refine blk X21 hby b701 (pc' := 281) (Ls' := #[i_ p1, i_ p2, i_ p3, i_ p4, i_ p5, i_ 4, i_ y1, i_ y2, i_ y3, i_ y4, r_ (h4.size), r_ (h9.size), r_ (h14.size), r_ (x'), i_ 0, i_ 1, i_ (v2'), i_ 1, u_, u_, u_]) (st' := [(.int 1)]) rfl ?_
              refine br0 X21 hby d_code_281 (pc1 := 288) (by decide) (fun hl => absurd (eqT hl) (by decide)) (fun hl => ?_)
              refine blk X21 hby b702 (pc' := 310) (Ls' := #[i_ p1, i_ p2, i_ p3, i_ p4, i_ p5, i_ 4, i_ y1, i_ y2, i_ y3, i_ y4, r_ (h4.size), r_ (h9.size), r_ (h14.size), r_ (x'), i_ 0, i_ 1, i_ (v2'), i_ 1, i_ 1, u_, u_]) (st' := []) rfl ?_
              refine blk X21 hby b703 (pc' := 312) (Ls' := #[i_ p1, i_ p2, i_ p3, i_ p4, i_ p5, i_ 4, i_ y1, i_ y2, i_ y3, i_ y4, r_ (h4.size), r_ (h9.size), r_ (h14.size), r_ (x'), i_ 0, i_ 1, i_ (v2'), i_ 1, i_ 1, u_, u_]) (st' := [(.int 1)]) rfl ?_
              refine br0 X21 hby d_code_312 (pc1 := 319) (by decide) (fun hl => absurd (eqT hl) (by decide)) (fun hl => ?_)
              refine blk X21 hby b704 (pc' := 359) (Ls' := #[i_ p1, i_ p2, i_ p3, i_ p4, i_ p5, i_ 4, i_ y1, i_ y2, i_ y3, i_ y4, r_ (h4.size), r_ (h9.size), r_ (h14.size), r_ (x'), i_ 0, i_ 1, i_ (v2'), i_ 1, i_ 1, i_ 4, i_ ((4 : Int32) - (1 : Int32))]) (st' := [(.ref (x'))]) rfl ?_
              show Go _ _ _ _ (T21.setTop (mkF m 359 #[i_ p1, i_ p2, i_ p3, i_ p4, i_ p5, i_ 4, i_ y1, i_ y2, i_ y3, i_ y4, r_ (h4.size), r_ (h9.size), r_ (h14.size), r_ (x'), i_ 0, i_ 1, i_ (v2'), i_ 1, i_ 1, i_ 4, i_ 3] [(.ref (x'))]))
              refine gVirt X21 hby (argsL := []) (st := []) (ct_len hw hEL X21.old U hx') hx'.1 (hw _ (List.mem_of_getElem? (i := 59) rfl)) (hw _ (List.mem_of_getElem? (i := 35) rfl)) (hw _ (List.mem_of_getElem? (i := 37) rfl)) (hw _ (List.mem_of_getElem? (i := 36) rfl)) (hw _ (List.mem_of_getElem? (i := 11) rfl)) (hw _ (List.mem_of_getElem? (i := 38) rfl)) pd___I rfl d_code_359 rfl (by rw [hml]; rfl) all0 (by decide) (Nat.le_of_ble_eq_true rfl) (by decide) (by decide) (fun v22 T22 h22 S22 X22 q22 sS22 sz22 => ?_)
              obtain ⟨rfl, rfl⟩ := q22
              show Go _ _ _ _ (T22.setTop (mkF m 362 #[i_ p1, i_ p2, i_ p3, i_ p4, i_ p5, i_ 4, i_ y1, i_ y2, i_ y3, i_ y4, r_ (h4.size), r_ (h9.size), r_ (h14.size), r_ (x'), i_ 0, i_ 1, i_ (v2'), i_ 1, i_ 1, i_ 4, i_ 3] [(.int (Int32.ofNat (([y1, y2, y3, y4].drop 1).take (4 - 1)).length))]))
              show Go _ _ _ _ (T22.setTop (mkF m 362 #[i_ p1, i_ p2, i_ p3, i_ p4, i_ p5, i_ 4, i_ y1, i_ y2, i_ y3, i_ y4, r_ (h4.size), r_ (h9.size), r_ (h14.size), r_ (x'), i_ 0, i_ 1, i_ (v2'), i_ 1, i_ 1, i_ 4, i_ 3] [(.int 3)]))
              refine blk X22 hby b705 (pc' := 364) (Ls' := #[i_ p1, i_ p2, i_ p3, i_ p4, i_ p5, i_ 4, i_ y1, i_ y2, i_ y3, i_ y4, r_ (h4.size), r_ (h9.size), r_ (h14.size), r_ (x'), i_ 0, i_ 1, i_ (v2'), i_ 1, i_ 1, i_ 4, i_ 3]) (st' := [(.int 3), (.int 3)]) rfl ?_
              refine brI X22 hby d_code_364 (pc1 := 369) (by decide) (fun hl => ?_) (fun hl => absurd (eqF hl) (fun q => q rfl))
              refine blk X22 hby b706 (pc' := 371) (Ls' := #[i_ p1, i_ p2, i_ p3, i_ p4, i_ p5, i_ 4, i_ y1, i_ y2, i_ y3, i_ y4, r_ (h4.size), r_ (h9.size), r_ (h14.size), r_ (x'), i_ 0, i_ 1, i_ (v2'), i_ 1, i_ 1, i_ 4, i_ 3]) (st' := [(.int 3)]) rfl ?_
              refine br0 X22 hby d_code_371 (pc1 := 388) (by decide) (fun hl => absurd (leT hl) (fun q => q (by decide))) (fun hl => ?_)
              refine blk X22 hby b707 (pc' := 377) (Ls' := #[i_ p1, i_ p2, i_ p3, i_ p4, i_ p5, i_ 4, i_ y1, i_ y2, i_ y3, i_ y4, r_ (h4.size), r_ (h9.size), r_ (h14.size), r_ (x'), i_ 0, i_ 1, i_ (v2'), i_ 1, i_ 1, i_ 4, i_ 3]) (st' := [(.int 0), (.ref (x'))]) rfl ?_
              refine gVirt X22 hby (argsL := [(.int 0)]) (st := []) (ct_chr hw hEL X22.old U hFM hfm hx' (i := 0) (Nat.le_of_ble_eq_true rfl)) hx'.1 (hw _ (List.mem_of_getElem? (i := 121) rfl)) (hw _ (List.mem_of_getElem? (i := 71) rfl)) (hw _ (List.mem_of_getElem? (i := 73) rfl)) (hw _ (List.mem_of_getElem? (i := 72) rfl)) (hw _ (List.mem_of_getElem? (i := 11) rfl)) (hw _ (List.mem_of_getElem? (i := 74) rfl)) pd__I_C rfl d_code_377 rfl (by rw [hml]; rfl) all0 (by decide) (Nat.le_of_ble_eq_true rfl) (by decide) (by decide) (fun v23 T23 h23 S23 X23 q23 sS23 sz23 => ?_)
              obtain ⟨rfl, rfl⟩ := q23
              show Go _ _ _ _ (T23.setTop (mkF m 380 #[i_ p1, i_ p2, i_ p3, i_ p4, i_ p5, i_ 4, i_ y1, i_ y2, i_ y3, i_ y4, r_ (h4.size), r_ (h9.size), r_ (h14.size), r_ (x'), i_ 0, i_ 1, i_ (v2'), i_ 1, i_ 1, i_ 4, i_ 3] [(.int ((([y1, y2, y3, y4].drop 1).take (4 - 1)).getD 0 0))]))
              show Go _ _ _ _ (T23.setTop (mkF m 380 #[i_ p1, i_ p2, i_ p3, i_ p4, i_ p5, i_ 4, i_ y1, i_ y2, i_ y3, i_ y4, r_ (h4.size), r_ (h9.size), r_ (h14.size), r_ (x'), i_ 0, i_ 1, i_ (v2'), i_ 1, i_ 1, i_ 4, i_ 3] [(.int y2)]))
              refine blk X23 hby b708 (pc' := 384) (Ls' := #[i_ p1, i_ p2, i_ p3, i_ p4, i_ p5, i_ 4, i_ y1, i_ y2, i_ y3, i_ y4, r_ (h4.size), r_ (h9.size), r_ (h14.size), r_ (x'), i_ 0, i_ 1, i_ (v2'), i_ 1, i_ 1, i_ 4, i_ 3]) (st' := [(.int 1), (.ref (h4.size)), (.int y2)]) rfl ?_
              refine gLd X23 hby hVd (Or.inr (Or.inl ⟨rfl, rfl⟩)) d_code_384 (i := 1) rfl (Nat.le_of_ble_eq_true rfl) ?_
              refine brI X23 hby d_code_385 (pc1 := 458) (by decide) (fun hl => absurd (neT hl) (fun q => q rfl)) (fun hl => ?_)
              refine blk X23 hby b709 (pc' := 391) (Ls' := #[i_ p1, i_ p2, i_ p3, i_ p4, i_ p5, i_ 4, i_ y1, i_ y2, i_ y3, i_ y4, r_ (h4.size), r_ (h9.size), r_ (h14.size), r_ (x'), i_ 0, i_ 1, i_ (v2'), i_ 1, i_ 1, i_ 4, i_ 3]) (st' := [(.int 1), (.int 3)]) rfl ?_
              refine brI X23 hby d_code_391 (pc1 := 410) (by decide) (fun hl => absurd (leT hl) (fun q => q (by decide))) (fun hl => ?_)
              refine blk X23 hby b710 (pc' := 397) (Ls' := #[i_ p1, i_ p2, i_ p3, i_ p4, i_ p5, i_ 4, i_ y1, i_ y2, i_ y3, i_ y4, r_ (h4.size), r_ (h9.size), r_ (h14.size), r_ (x'), i_ 0, i_ 1, i_ (v2'), i_ 1, i_ 1, i_ 4, i_ 3]) (st' := [(.int 1), (.ref (x'))]) rfl ?_
              refine gVirt X23 hby (argsL := [(.int 1)]) (st := []) (ct_chr hw hEL X23.old U hFM hfm hx' (i := 1) (Nat.le_of_ble_eq_true rfl)) hx'.1 (hw _ (List.mem_of_getElem? (i := 121) rfl)) (hw _ (List.mem_of_getElem? (i := 71) rfl)) (hw _ (List.mem_of_getElem? (i := 73) rfl)) (hw _ (List.mem_of_getElem? (i := 72) rfl)) (hw _ (List.mem_of_getElem? (i := 11) rfl)) (hw _ (List.mem_of_getElem? (i := 74) rfl)) pd__I_C rfl d_code_397 rfl (by rw [hml]; rfl) all0 (by decide) (Nat.le_of_ble_eq_true rfl) (by decide) (by decide) (fun v24 T24 h24 S24 X24 q24 sS24 sz24 => ?_)
              obtain ⟨rfl, rfl⟩ := q24
              show Go _ _ _ _ (T24.setTop (mkF m 400 #[i_ p1, i_ p2, i_ p3, i_ p4, i_ p5, i_ 4, i_ y1, i_ y2, i_ y3, i_ y4, r_ (h4.size), r_ (h9.size), r_ (h14.size), r_ (x'), i_ 0, i_ 1, i_ (v2'), i_ 1, i_ 1, i_ 4, i_ 3] [(.int ((([y1, y2, y3, y4].drop 1).take (4 - 1)).getD 1 0))]))
              show Go _ _ _ _ (T24.setTop (mkF m 400 #[i_ p1, i_ p2, i_ p3, i_ p4, i_ p5, i_ 4, i_ y1, i_ y2, i_ y3, i_ y4, r_ (h4.size), r_ (h9.size), r_ (h14.size), r_ (x'), i_ 0, i_ 1, i_ (v2'), i_ 1, i_ 1, i_ 4, i_ 3] [(.int y3)]))
              refine blk X24 hby b711 (pc' := 406) (Ls' := #[i_ p1, i_ p2, i_ p3, i_ p4, i_ p5, i_ 4, i_ y1, i_ y2, i_ y3, i_ y4, r_ (h4.size), r_ (h9.size), r_ (h14.size), r_ (x'), i_ 0, i_ 1, i_ (v2'), i_ 1, i_ 1, i_ 4, i_ 3]) (st' := [(.int ((1 : Int32) + (1 : Int32))), (.ref (h4.size)), (.int y3)]) rfl ?_
              refine gLd X24 hby hVd (Or.inr (Or.inl ⟨rfl, rfl⟩)) d_code_406 (i := 2) rfl (Nat.le_of_ble_eq_true rfl) ?_
              refine brI X24 hby d_code_407 (pc1 := 458) (by decide) (fun hl => absurd (neT hl) (fun q => q rfl)) (fun hl => ?_)
              refine blk X24 hby b712 (pc' := 413) (Ls' := #[i_ p1, i_ p2, i_ p3, i_ p4, i_ p5, i_ 4, i_ y1, i_ y2, i_ y3, i_ y4, r_ (h4.size), r_ (h9.size), r_ (h14.size), r_ (x'), i_ 0, i_ 1, i_ (v2'), i_ 1, i_ 1, i_ 4, i_ 3]) (st' := [(.int 2), (.int 3)]) rfl ?_
              refine brI X24 hby d_code_413 (pc1 := 432) (by decide) (fun hl => absurd (leT hl) (fun q => q (by decide))) (fun hl => ?_)
              refine blk X24 hby b713 (pc' := 419) (Ls' := #[i_ p1, i_ p2, i_ p3, i_ p4, i_ p5, i_ 4, i_ y1, i_ y2, i_ y3, i_ y4, r_ (h4.size), r_ (h9.size), r_ (h14.size), r_ (x'), i_ 0, i_ 1, i_ (v2'), i_ 1, i_ 1, i_ 4, i_ 3]) (st' := [(.int 2), (.ref (x'))]) rfl ?_
              refine gVirt X24 hby (argsL := [(.int 2)]) (st := []) (ct_chr hw hEL X24.old U hFM hfm hx' (i := 2) (Nat.le_of_ble_eq_true rfl)) hx'.1 (hw _ (List.mem_of_getElem? (i := 121) rfl)) (hw _ (List.mem_of_getElem? (i := 71) rfl)) (hw _ (List.mem_of_getElem? (i := 73) rfl)) (hw _ (List.mem_of_getElem? (i := 72) rfl)) (hw _ (List.mem_of_getElem? (i := 11) rfl)) (hw _ (List.mem_of_getElem? (i := 74) rfl)) pd__I_C rfl d_code_419 rfl (by rw [hml]; rfl) all0 (by decide) (Nat.le_of_ble_eq_true rfl) (by decide) (by decide) (fun v25 T25 h25 S25 X25 q25 sS25 sz25 => ?_)
              obtain ⟨rfl, rfl⟩ := q25
              show Go _ _ _ _ (T25.setTop (mkF m 422 #[i_ p1, i_ p2, i_ p3, i_ p4, i_ p5, i_ 4, i_ y1, i_ y2, i_ y3, i_ y4, r_ (h4.size), r_ (h9.size), r_ (h14.size), r_ (x'), i_ 0, i_ 1, i_ (v2'), i_ 1, i_ 1, i_ 4, i_ 3] [(.int ((([y1, y2, y3, y4].drop 1).take (4 - 1)).getD 2 0))]))
              show Go _ _ _ _ (T25.setTop (mkF m 422 #[i_ p1, i_ p2, i_ p3, i_ p4, i_ p5, i_ 4, i_ y1, i_ y2, i_ y3, i_ y4, r_ (h4.size), r_ (h9.size), r_ (h14.size), r_ (x'), i_ 0, i_ 1, i_ (v2'), i_ 1, i_ 1, i_ 4, i_ 3] [(.int y4)]))
              refine blk X25 hby b714 (pc' := 428) (Ls' := #[i_ p1, i_ p2, i_ p3, i_ p4, i_ p5, i_ 4, i_ y1, i_ y2, i_ y3, i_ y4, r_ (h4.size), r_ (h9.size), r_ (h14.size), r_ (x'), i_ 0, i_ 1, i_ (v2'), i_ 1, i_ 1, i_ 4, i_ 3]) (st' := [(.int ((1 : Int32) + (2 : Int32))), (.ref (h4.size)), (.int y4)]) rfl ?_
              refine gLd X25 hby hVd (Or.inr (Or.inl ⟨rfl, rfl⟩)) d_code_428 (i := 3) rfl (Nat.le_of_ble_eq_true rfl) ?_
              refine brI X25 hby d_code_429 (pc1 := 458) (by decide) (fun hl => absurd (neT hl) (fun q => q rfl)) (fun hl => ?_)
              refine blk X25 hby b715 (pc' := 435) (Ls' := #[i_ p1, i_ p2, i_ p3, i_ p4, i_ p5, i_ 4, i_ y1, i_ y2, i_ y3, i_ y4, r_ (h4.size), r_ (h9.size), r_ (h14.size), r_ (x'), i_ 0, i_ 1, i_ (v2'), i_ 1, i_ 1, i_ 4, i_ 3]) (st' := [(.int 3), (.int 3)]) rfl ?_
              refine brI X25 hby d_code_435 (pc1 := 454) (by decide) (fun hl => ?_) (fun hl => absurd (leF hl) (by decide))
              refine blk X25 hby b716 (pc' := 459) (Ls' := #[i_ p1, i_ p2, i_ p3, i_ p4, i_ p5, i_ 4, i_ y1, i_ y2, i_ y3, i_ y4, r_ (h4.size), r_ (h9.size), r_ (h14.size), r_ (x'), i_ 0, i_ 1, i_ (v2'), i_ 1, i_ 1, i_ 4, i_ 3]) (st' := [(.int 1)]) rfl ?_
              exact retI' X25 hby hret d_code_459 rfl (fun S' hS' => rfl)
            · skip
              have wj0 : wsB y1 = true := g4 0 (by decide)
              rw [wj0] at hv0
              replace hv0 : v0' = (0 : Int32) := hv0
              subst hv0
              have wj1 : wsB y2 = true := g4 1 (by decide)
              rw [wj1] at hv1
              replace hv1 : v1' = (0 : Int32) := hv1
              subst hv1
              have wj2 : wsB y3 = false := g5 (by decide)
              rw [wj2] at hv2
              replace hv2 : v2' = (1 : Int32) := hv2
              subst hv2
              have wj3 : wsB y4 = true := g6 3 (by decide) (by decide)
              rw [wj3] at hv3
              replace hv3 : v3' = (0 : Int32) := hv3
              subst hv3
              show Go _ _ _ _ (T21.setTop (mkF m 270 #[i_ p1, i_ p2, i_ p3, i_ p4, i_ p5, i_ 4, i_ y1, i_ y2, i_ y3, i_ y4, r_ (h4.size), r_ (h9.size), r_ (h14.size), r_ (x'), i_ 0, i_ 0, i_ 1, i_ 0, u_, u_, u_] []))
              refine blk X21 hby b717 (pc' := 272) (Ls' := #[i_ p1, i_ p2, i_ p3, i_ p4, i_ p5, i_ 4, i_ y1, i_ y2, i_ y3, i_ y4, r_ (h4.size), r_ (h9.size), r_ (h14.size), r_ (x'), i_ 0, i_ 0, i_ 1, i_ 0, u_, u_, u_]) (st' := [(.int 0)]) rfl ?_
              refine br0 X21 hby d_code_272 (pc1 := 279) (by decide) (fun hl => ?_) (fun hl => absurd (eqF hl) (fun q => q rfl))
              refine blk X21 hby b718 (pc' := 281) (Ls' := #[i_ p1, i_ p2, i_ p3, i_ p4, i_ p5, i_ 4, i_ y1, i_ y2, i_ y3, i_ y4, r_ (h4.size), r_ (h9.size), r_ (h14.size), r_ (x'), i_ 0, i_ 0, i_ 1, i_ 0, u_, u_, u_]) (st' := [(.int 0)]) rfl ?_
              refine br0 X21 hby d_code_281 (pc1 := 288) (by decide) (fun hl => ?_) (fun hl => absurd (eqF hl) (fun q => q rfl))
              refine blk X21 hby b719 (pc' := 290) (Ls' := #[i_ p1, i_ p2, i_ p3, i_ p4, i_ p5, i_ 4, i_ y1, i_ y2, i_ y3, i_ y4, r_ (h4.size), r_ (h9.size), r_ (h14.size), r_ (x'), i_ 0, i_ 0, i_ 1, i_ 0, u_, u_, u_]) (st' := [(.int 1)]) rfl ?_
              refine br0 X21 hby d_code_290 (pc1 := 297) (by decide) (fun hl => absurd (eqT hl) (by decide)) (fun hl => ?_)
              refine blk X21 hby b720 (pc' := 310) (Ls' := #[i_ p1, i_ p2, i_ p3, i_ p4, i_ p5, i_ 4, i_ y1, i_ y2, i_ y3, i_ y4, r_ (h4.size), r_ (h9.size), r_ (h14.size), r_ (x'), i_ 0, i_ 0, i_ 1, i_ 0, i_ 2, u_, u_]) (st' := []) rfl ?_
              refine blk X21 hby b721 (pc' := 312) (Ls' := #[i_ p1, i_ p2, i_ p3, i_ p4, i_ p5, i_ 4, i_ y1, i_ y2, i_ y3, i_ y4, r_ (h4.size), r_ (h9.size), r_ (h14.size), r_ (x'), i_ 0, i_ 0, i_ 1, i_ 0, i_ 2, u_, u_]) (st' := [(.int 0)]) rfl ?_
              refine br0 X21 hby d_code_312 (pc1 := 319) (by decide) (fun hl => ?_) (fun hl => absurd (eqF hl) (fun q => q rfl))
              refine blk X21 hby b722 (pc' := 321) (Ls' := #[i_ p1, i_ p2, i_ p3, i_ p4, i_ p5, i_ 4, i_ y1, i_ y2, i_ y3, i_ y4, r_ (h4.size), r_ (h9.size), r_ (h14.size), r_ (x'), i_ 0, i_ 0, i_ 1, i_ 0, i_ 2, u_, u_]) (st' := [(.int 1)]) rfl ?_
              refine br0 X21 hby d_code_321 (pc1 := 328) (by decide) (fun hl => absurd (eqT hl) (by decide)) (fun hl => ?_)
              refine blk X21 hby b723 (pc' := 359) (Ls' := #[i_ p1, i_ p2, i_ p3, i_ p4, i_ p5, i_ 4, i_ y1, i_ y2, i_ y3, i_ y4, r_ (h4.size), r_ (h9.size), r_ (h14.size), r_ (x'), i_ 0, i_ 0, i_ 1, i_ 0, i_ 2, i_ 3, i_ ((3 : Int32) - (2 : Int32))]) (st' := [(.ref (x'))]) rfl ?_
              show Go _ _ _ _ (T21.setTop (mkF m 359 #[i_ p1, i_ p2, i_ p3, i_ p4, i_ p5, i_ 4, i_ y1, i_ y2, i_ y3, i_ y4, r_ (h4.size), r_ (h9.size), r_ (h14.size), r_ (x'), i_ 0, i_ 0, i_ 1, i_ 0, i_ 2, i_ 3, i_ 1] [(.ref (x'))]))
              refine gVirt X21 hby (argsL := []) (st := []) (ct_len hw hEL X21.old U hx') hx'.1 (hw _ (List.mem_of_getElem? (i := 59) rfl)) (hw _ (List.mem_of_getElem? (i := 35) rfl)) (hw _ (List.mem_of_getElem? (i := 37) rfl)) (hw _ (List.mem_of_getElem? (i := 36) rfl)) (hw _ (List.mem_of_getElem? (i := 11) rfl)) (hw _ (List.mem_of_getElem? (i := 38) rfl)) pd___I rfl d_code_359 rfl (by rw [hml]; rfl) all0 (by decide) (Nat.le_of_ble_eq_true rfl) (by decide) (by decide) (fun v22 T22 h22 S22 X22 q22 sS22 sz22 => ?_)
              obtain ⟨rfl, rfl⟩ := q22
              show Go _ _ _ _ (T22.setTop (mkF m 362 #[i_ p1, i_ p2, i_ p3, i_ p4, i_ p5, i_ 4, i_ y1, i_ y2, i_ y3, i_ y4, r_ (h4.size), r_ (h9.size), r_ (h14.size), r_ (x'), i_ 0, i_ 0, i_ 1, i_ 0, i_ 2, i_ 3, i_ 1] [(.int (Int32.ofNat (([y1, y2, y3, y4].drop 2).take (3 - 2)).length))]))
              show Go _ _ _ _ (T22.setTop (mkF m 362 #[i_ p1, i_ p2, i_ p3, i_ p4, i_ p5, i_ 4, i_ y1, i_ y2, i_ y3, i_ y4, r_ (h4.size), r_ (h9.size), r_ (h14.size), r_ (x'), i_ 0, i_ 0, i_ 1, i_ 0, i_ 2, i_ 3, i_ 1] [(.int 1)]))
              refine blk X22 hby b724 (pc' := 364) (Ls' := #[i_ p1, i_ p2, i_ p3, i_ p4, i_ p5, i_ 4, i_ y1, i_ y2, i_ y3, i_ y4, r_ (h4.size), r_ (h9.size), r_ (h14.size), r_ (x'), i_ 0, i_ 0, i_ 1, i_ 0, i_ 2, i_ 3, i_ 1]) (st' := [(.int 1), (.int 1)]) rfl ?_
              refine brI X22 hby d_code_364 (pc1 := 369) (by decide) (fun hl => ?_) (fun hl => absurd (eqF hl) (fun q => q rfl))
              refine blk X22 hby b725 (pc' := 371) (Ls' := #[i_ p1, i_ p2, i_ p3, i_ p4, i_ p5, i_ 4, i_ y1, i_ y2, i_ y3, i_ y4, r_ (h4.size), r_ (h9.size), r_ (h14.size), r_ (x'), i_ 0, i_ 0, i_ 1, i_ 0, i_ 2, i_ 3, i_ 1]) (st' := [(.int 1)]) rfl ?_
              refine br0 X22 hby d_code_371 (pc1 := 388) (by decide) (fun hl => absurd (leT hl) (fun q => q (by decide))) (fun hl => ?_)
              refine blk X22 hby b726 (pc' := 377) (Ls' := #[i_ p1, i_ p2, i_ p3, i_ p4, i_ p5, i_ 4, i_ y1, i_ y2, i_ y3, i_ y4, r_ (h4.size), r_ (h9.size), r_ (h14.size), r_ (x'), i_ 0, i_ 0, i_ 1, i_ 0, i_ 2, i_ 3, i_ 1]) (st' := [(.int 0), (.ref (x'))]) rfl ?_
              refine gVirt X22 hby (argsL := [(.int 0)]) (st := []) (ct_chr hw hEL X22.old U hFM hfm hx' (i := 0) (Nat.le_of_ble_eq_true rfl)) hx'.1 (hw _ (List.mem_of_getElem? (i := 121) rfl)) (hw _ (List.mem_of_getElem? (i := 71) rfl)) (hw _ (List.mem_of_getElem? (i := 73) rfl)) (hw _ (List.mem_of_getElem? (i := 72) rfl)) (hw _ (List.mem_of_getElem? (i := 11) rfl)) (hw _ (List.mem_of_getElem? (i := 74) rfl)) pd__I_C rfl d_code_377 rfl (by rw [hml]; rfl) all0 (by decide) (Nat.le_of_ble_eq_true rfl) (by decide) (by decide) (fun v23 T23 h23 S23 X23 q23 sS23 sz23 => ?_)
              obtain ⟨rfl, rfl⟩ := q23
              show Go _ _ _ _ (T23.setTop (mkF m 380 #[i_ p1, i_ p2, i_ p3, i_ p4, i_ p5, i_ 4, i_ y1, i_ y2, i_ y3, i_ y4, r_ (h4.size), r_ (h9.size), r_ (h14.size), r_ (x'), i_ 0, i_ 0, i_ 1, i_ 0, i_ 2, i_ 3, i_ 1] [(.int ((([y1, y2, y3, y4].drop 2).take (3 - 2)).getD 0 0))]))
              show Go _ _ _ _ (T23.setTop (mkF m 380 #[i_ p1, i_ p2, i_ p3, i_ p4, i_ p5, i_ 4, i_ y1, i_ y2, i_ y3, i_ y4, r_ (h4.size), r_ (h9.size), r_ (h14.size), r_ (x'), i_ 0, i_ 0, i_ 1, i_ 0, i_ 2, i_ 3, i_ 1] [(.int y3)]))
              refine blk X23 hby b727 (pc' := 384) (Ls' := #[i_ p1, i_ p2, i_ p3, i_ p4, i_ p5, i_ 4, i_ y1, i_ y2, i_ y3, i_ y4, r_ (h4.size), r_ (h9.size), r_ (h14.size), r_ (x'), i_ 0, i_ 0, i_ 1, i_ 0, i_ 2, i_ 3, i_ 1]) (st' := [(.int 2), (.ref (h4.size)), (.int y3)]) rfl ?_
              refine gLd X23 hby hVd (Or.inr (Or.inl ⟨rfl, rfl⟩)) d_code_384 (i := 2) rfl (Nat.le_of_ble_eq_true rfl) ?_
              refine brI X23 hby d_code_385 (pc1 := 458) (by decide) (fun hl => absurd (neT hl) (fun q => q rfl)) (fun hl => ?_)
              refine blk X23 hby b728 (pc' := 391) (Ls' := #[i_ p1, i_ p2, i_ p3, i_ p4, i_ p5, i_ 4, i_ y1, i_ y2, i_ y3, i_ y4, r_ (h4.size), r_ (h9.size), r_ (h14.size), r_ (x'), i_ 0, i_ 0, i_ 1, i_ 0, i_ 2, i_ 3, i_ 1]) (st' := [(.int 1), (.int 1)]) rfl ?_
              refine brI X23 hby d_code_391 (pc1 := 410) (by decide) (fun hl => ?_) (fun hl => absurd (leF hl) (by decide))
              refine blk X23 hby b729 (pc' := 413) (Ls' := #[i_ p1, i_ p2, i_ p3, i_ p4, i_ p5, i_ 4, i_ y1, i_ y2, i_ y3, i_ y4, r_ (h4.size), r_ (h9.size), r_ (h14.size), r_ (x'), i_ 0, i_ 0, i_ 1, i_ 0, i_ 2, i_ 3, i_ 1]) (st' := [(.int 2), (.int 1)]) rfl ?_
              refine brI X23 hby d_code_413 (pc1 := 432) (by decide) (fun hl => ?_) (fun hl => absurd (leF hl) (by decide))
              refine blk X23 hby b730 (pc' := 435) (Ls' := #[i_ p1, i_ p2, i_ p3, i_ p4, i_ p5, i_ 4, i_ y1, i_ y2, i_ y3, i_ y4, r_ (h4.size), r_ (h9.size), r_ (h14.size), r_ (x'), i_ 0, i_ 0, i_ 1, i_ 0, i_ 2, i_ 3, i_ 1]) (st' := [(.int 3), (.int 1)]) rfl ?_
              refine brI X23 hby d_code_435 (pc1 := 454) (by decide) (fun hl => ?_) (fun hl => absurd (leF hl) (by decide))
              refine blk X23 hby b731 (pc' := 459) (Ls' := #[i_ p1, i_ p2, i_ p3, i_ p4, i_ p5, i_ 4, i_ y1, i_ y2, i_ y3, i_ y4, r_ (h4.size), r_ (h9.size), r_ (h14.size), r_ (x'), i_ 0, i_ 0, i_ 1, i_ 0, i_ 2, i_ 3, i_ 1]) (st' := [(.int 1)]) rfl ?_
              exact retI' X23 hby hret d_code_459 rfl (fun S' hS' => rfl)
            · skip
              have wj0 : wsB y1 = true := g4 0 (by decide)
              rw [wj0] at hv0
              replace hv0 : v0' = (0 : Int32) := hv0
              subst hv0
              have wj1 : wsB y2 = true := g4 1 (by decide)
              rw [wj1] at hv1
              replace hv1 : v1' = (0 : Int32) := hv1
              subst hv1
              have wj2 : wsB y3 = false := g5 (by decide)
              rw [wj2] at hv2
              replace hv2 : v2' = (1 : Int32) := hv2
              subst hv2
              have wj3 : wsB y4 = false := g7 (by decide)
              rw [wj3] at hv3
              replace hv3 : v3' = (1 : Int32) := hv3
              subst hv3
              show Go _ _ _ _ (T21.setTop (mkF m 270 #[i_ p1, i_ p2, i_ p3, i_ p4, i_ p5, i_ 4, i_ y1, i_ y2, i_ y3, i_ y4, r_ (h4.size), r_ (h9.size), r_ (h14.size), r_ (x'), i_ 0, i_ 0, i_ 1, i_ 1, u_, u_, u_] []))
              refine blk X21 hby b732 (pc' := 272) (Ls' := #[i_ p1, i_ p2, i_ p3, i_ p4, i_ p5, i_ 4, i_ y1, i_ y2, i_ y3, i_ y4, r_ (h4.size), r_ (h9.size), r_ (h14.size), r_ (x'), i_ 0, i_ 0, i_ 1, i_ 1, u_, u_, u_]) (st' := [(.int 0)]) rfl ?_
              refine br0 X21 hby d_code_272 (pc1 := 279) (by decide) (fun hl => ?_) (fun hl => absurd (eqF hl) (fun q => q rfl))
              refine blk X21 hby b733 (pc' := 281) (Ls' := #[i_ p1, i_ p2, i_ p3, i_ p4, i_ p5, i_ 4, i_ y1, i_ y2, i_ y3, i_ y4, r_ (h4.size), r_ (h9.size), r_ (h14.size), r_ (x'), i_ 0, i_ 0, i_ 1, i_ 1, u_, u_, u_]) (st' := [(.int 0)]) rfl ?_
              refine br0 X21 hby d_code_281 (pc1 := 288) (by decide) (fun hl => ?_) (fun hl => absurd (eqF hl) (fun q => q rfl))
              refine blk X21 hby b734 (pc' := 290) (Ls' := #[i_ p1, i_ p2, i_ p3, i_ p4, i_ p5, i_ 4, i_ y1, i_ y2, i_ y3, i_ y4, r_ (h4.size), r_ (h9.size), r_ (h14.size), r_ (x'), i_ 0, i_ 0, i_ 1, i_ 1, u_, u_, u_]) (st' := [(.int 1)]) rfl ?_
              refine br0 X21 hby d_code_290 (pc1 := 297) (by decide) (fun hl => absurd (eqT hl) (by decide)) (fun hl => ?_)
              refine blk X21 hby b735 (pc' := 310) (Ls' := #[i_ p1, i_ p2, i_ p3, i_ p4, i_ p5, i_ 4, i_ y1, i_ y2, i_ y3, i_ y4, r_ (h4.size), r_ (h9.size), r_ (h14.size), r_ (x'), i_ 0, i_ 0, i_ 1, i_ 1, i_ 2, u_, u_]) (st' := []) rfl ?_
              refine blk X21 hby b736 (pc' := 312) (Ls' := #[i_ p1, i_ p2, i_ p3, i_ p4, i_ p5, i_ 4, i_ y1, i_ y2, i_ y3, i_ y4, r_ (h4.size), r_ (h9.size), r_ (h14.size), r_ (x'), i_ 0, i_ 0, i_ 1, i_ 1, i_ 2, u_, u_]) (st' := [(.int 1)]) rfl ?_
              refine br0 X21 hby d_code_312 (pc1 := 319) (by decide) (fun hl => absurd (eqT hl) (by decide)) (fun hl => ?_)
              refine blk X21 hby b737 (pc' := 359) (Ls' := #[i_ p1, i_ p2, i_ p3, i_ p4, i_ p5, i_ 4, i_ y1, i_ y2, i_ y3, i_ y4, r_ (h4.size), r_ (h9.size), r_ (h14.size), r_ (x'), i_ 0, i_ 0, i_ 1, i_ 1, i_ 2, i_ 4, i_ ((4 : Int32) - (2 : Int32))]) (st' := [(.ref (x'))]) rfl ?_
              show Go _ _ _ _ (T21.setTop (mkF m 359 #[i_ p1, i_ p2, i_ p3, i_ p4, i_ p5, i_ 4, i_ y1, i_ y2, i_ y3, i_ y4, r_ (h4.size), r_ (h9.size), r_ (h14.size), r_ (x'), i_ 0, i_ 0, i_ 1, i_ 1, i_ 2, i_ 4, i_ 2] [(.ref (x'))]))
              refine gVirt X21 hby (argsL := []) (st := []) (ct_len hw hEL X21.old U hx') hx'.1 (hw _ (List.mem_of_getElem? (i := 59) rfl)) (hw _ (List.mem_of_getElem? (i := 35) rfl)) (hw _ (List.mem_of_getElem? (i := 37) rfl)) (hw _ (List.mem_of_getElem? (i := 36) rfl)) (hw _ (List.mem_of_getElem? (i := 11) rfl)) (hw _ (List.mem_of_getElem? (i := 38) rfl)) pd___I rfl d_code_359 rfl (by rw [hml]; rfl) all0 (by decide) (Nat.le_of_ble_eq_true rfl) (by decide) (by decide) (fun v22 T22 h22 S22 X22 q22 sS22 sz22 => ?_)
              obtain ⟨rfl, rfl⟩ := q22
              show Go _ _ _ _ (T22.setTop (mkF m 362 #[i_ p1, i_ p2, i_ p3, i_ p4, i_ p5, i_ 4, i_ y1, i_ y2, i_ y3, i_ y4, r_ (h4.size), r_ (h9.size), r_ (h14.size), r_ (x'), i_ 0, i_ 0, i_ 1, i_ 1, i_ 2, i_ 4, i_ 2] [(.int (Int32.ofNat (([y1, y2, y3, y4].drop 2).take (4 - 2)).length))]))
              show Go _ _ _ _ (T22.setTop (mkF m 362 #[i_ p1, i_ p2, i_ p3, i_ p4, i_ p5, i_ 4, i_ y1, i_ y2, i_ y3, i_ y4, r_ (h4.size), r_ (h9.size), r_ (h14.size), r_ (x'), i_ 0, i_ 0, i_ 1, i_ 1, i_ 2, i_ 4, i_ 2] [(.int 2)]))
              refine blk X22 hby b738 (pc' := 364) (Ls' := #[i_ p1, i_ p2, i_ p3, i_ p4, i_ p5, i_ 4, i_ y1, i_ y2, i_ y3, i_ y4, r_ (h4.size), r_ (h9.size), r_ (h14.size), r_ (x'), i_ 0, i_ 0, i_ 1, i_ 1, i_ 2, i_ 4, i_ 2]) (st' := [(.int 2), (.int 2)]) rfl ?_
              refine brI X22 hby d_code_364 (pc1 := 369) (by decide) (fun hl => ?_) (fun hl => absurd (eqF hl) (fun q => q rfl))
              refine blk X22 hby b739 (pc' := 371) (Ls' := #[i_ p1, i_ p2, i_ p3, i_ p4, i_ p5, i_ 4, i_ y1, i_ y2, i_ y3, i_ y4, r_ (h4.size), r_ (h9.size), r_ (h14.size), r_ (x'), i_ 0, i_ 0, i_ 1, i_ 1, i_ 2, i_ 4, i_ 2]) (st' := [(.int 2)]) rfl ?_
              refine br0 X22 hby d_code_371 (pc1 := 388) (by decide) (fun hl => absurd (leT hl) (fun q => q (by decide))) (fun hl => ?_)
              refine blk X22 hby b740 (pc' := 377) (Ls' := #[i_ p1, i_ p2, i_ p3, i_ p4, i_ p5, i_ 4, i_ y1, i_ y2, i_ y3, i_ y4, r_ (h4.size), r_ (h9.size), r_ (h14.size), r_ (x'), i_ 0, i_ 0, i_ 1, i_ 1, i_ 2, i_ 4, i_ 2]) (st' := [(.int 0), (.ref (x'))]) rfl ?_
              refine gVirt X22 hby (argsL := [(.int 0)]) (st := []) (ct_chr hw hEL X22.old U hFM hfm hx' (i := 0) (Nat.le_of_ble_eq_true rfl)) hx'.1 (hw _ (List.mem_of_getElem? (i := 121) rfl)) (hw _ (List.mem_of_getElem? (i := 71) rfl)) (hw _ (List.mem_of_getElem? (i := 73) rfl)) (hw _ (List.mem_of_getElem? (i := 72) rfl)) (hw _ (List.mem_of_getElem? (i := 11) rfl)) (hw _ (List.mem_of_getElem? (i := 74) rfl)) pd__I_C rfl d_code_377 rfl (by rw [hml]; rfl) all0 (by decide) (Nat.le_of_ble_eq_true rfl) (by decide) (by decide) (fun v23 T23 h23 S23 X23 q23 sS23 sz23 => ?_)
              obtain ⟨rfl, rfl⟩ := q23
              show Go _ _ _ _ (T23.setTop (mkF m 380 #[i_ p1, i_ p2, i_ p3, i_ p4, i_ p5, i_ 4, i_ y1, i_ y2, i_ y3, i_ y4, r_ (h4.size), r_ (h9.size), r_ (h14.size), r_ (x'), i_ 0, i_ 0, i_ 1, i_ 1, i_ 2, i_ 4, i_ 2] [(.int ((([y1, y2, y3, y4].drop 2).take (4 - 2)).getD 0 0))]))
              show Go _ _ _ _ (T23.setTop (mkF m 380 #[i_ p1, i_ p2, i_ p3, i_ p4, i_ p5, i_ 4, i_ y1, i_ y2, i_ y3, i_ y4, r_ (h4.size), r_ (h9.size), r_ (h14.size), r_ (x'), i_ 0, i_ 0, i_ 1, i_ 1, i_ 2, i_ 4, i_ 2] [(.int y3)]))
              refine blk X23 hby b741 (pc' := 384) (Ls' := #[i_ p1, i_ p2, i_ p3, i_ p4, i_ p5, i_ 4, i_ y1, i_ y2, i_ y3, i_ y4, r_ (h4.size), r_ (h9.size), r_ (h14.size), r_ (x'), i_ 0, i_ 0, i_ 1, i_ 1, i_ 2, i_ 4, i_ 2]) (st' := [(.int 2), (.ref (h4.size)), (.int y3)]) rfl ?_
              refine gLd X23 hby hVd (Or.inr (Or.inl ⟨rfl, rfl⟩)) d_code_384 (i := 2) rfl (Nat.le_of_ble_eq_true rfl) ?_
              refine brI X23 hby d_code_385 (pc1 := 458) (by decide) (fun hl => absurd (neT hl) (fun q => q rfl)) (fun hl => ?_)
              refine blk X23 hby b742 (pc' := 391) (Ls' := #[i_ p1, i_ p2, i_ p3, i_ p4, i_ p5, i_ 4, i_ y1, i_ y2, i_ y3, i_ y4, r_ (h4.size), r_ (h9.size), r_ (h14.size), r_ (x'), i_ 0, i_ 0, i_ 1, i_ 1, i_ 2, i_ 4, i_ 2]) (st' := [(.int 1), (.int 2)]) rfl ?_
              refine brI X23 hby d_code_391 (pc1 := 410) (by decide) (fun hl => absurd (leT hl) (fun q => q (by decide))) (fun hl => ?_)
              refine blk X23 hby b743 (pc' := 397) (Ls' := #[i_ p1, i_ p2, i_ p3, i_ p4, i_ p5, i_ 4, i_ y1, i_ y2, i_ y3, i_ y4, r_ (h4.size), r_ (h9.size), r_ (h14.size), r_ (x'), i_ 0, i_ 0, i_ 1, i_ 1, i_ 2, i_ 4, i_ 2]) (st' := [(.int 1), (.ref (x'))]) rfl ?_
              refine gVirt X23 hby (argsL := [(.int 1)]) (st := []) (ct_chr hw hEL X23.old U hFM hfm hx' (i := 1) (Nat.le_of_ble_eq_true rfl)) hx'.1 (hw _ (List.mem_of_getElem? (i := 121) rfl)) (hw _ (List.mem_of_getElem? (i := 71) rfl)) (hw _ (List.mem_of_getElem? (i := 73) rfl)) (hw _ (List.mem_of_getElem? (i := 72) rfl)) (hw _ (List.mem_of_getElem? (i := 11) rfl)) (hw _ (List.mem_of_getElem? (i := 74) rfl)) pd__I_C rfl d_code_397 rfl (by rw [hml]; rfl) all0 (by decide) (Nat.le_of_ble_eq_true rfl) (by decide) (by decide) (fun v24 T24 h24 S24 X24 q24 sS24 sz24 => ?_)
              obtain ⟨rfl, rfl⟩ := q24
              show Go _ _ _ _ (T24.setTop (mkF m 400 #[i_ p1, i_ p2, i_ p3, i_ p4, i_ p5, i_ 4, i_ y1, i_ y2, i_ y3, i_ y4, r_ (h4.size), r_ (h9.size), r_ (h14.size), r_ (x'), i_ 0, i_ 0, i_ 1, i_ 1, i_ 2, i_ 4, i_ 2] [(.int ((([y1, y2, y3, y4].drop 2).take (4 - 2)).getD 1 0))]))
              show Go _ _ _ _ (T24.setTop (mkF m 400 #[i_ p1, i_ p2, i_ p3, i_ p4, i_ p5, i_ 4, i_ y1, i_ y2, i_ y3, i_ y4, r_ (h4.size), r_ (h9.size), r_ (h14.size), r_ (x'), i_ 0, i_ 0, i_ 1, i_ 1, i_ 2, i_ 4, i_ 2] [(.int y4)]))
              refine blk X24 hby b744 (pc' := 406) (Ls' := #[i_ p1, i_ p2, i_ p3, i_ p4, i_ p5, i_ 4, i_ y1, i_ y2, i_ y3, i_ y4, r_ (h4.size), r_ (h9.size), r_ (h14.size), r_ (x'), i_ 0, i_ 0, i_ 1, i_ 1, i_ 2, i_ 4, i_ 2]) (st' := [(.int ((2 : Int32) + (1 : Int32))), (.ref (h4.size)), (.int y4)]) rfl ?_
              refine gLd X24 hby hVd (Or.inr (Or.inl ⟨rfl, rfl⟩)) d_code_406 (i := 3) rfl (Nat.le_of_ble_eq_true rfl) ?_
              refine brI X24 hby d_code_407 (pc1 := 458) (by decide) (fun hl => absurd (neT hl) (fun q => q rfl)) (fun hl => ?_)
              refine blk X24 hby b745 (pc' := 413) (Ls' := #[i_ p1, i_ p2, i_ p3, i_ p4, i_ p5, i_ 4, i_ y1, i_ y2, i_ y3, i_ y4, r_ (h4.size), r_ (h9.size), r_ (h14.size), r_ (x'), i_ 0, i_ 0, i_ 1, i_ 1, i_ 2, i_ 4, i_ 2]) (st' := [(.int 2), (.int 2)]) rfl ?_
              refine brI X24 hby d_code_413 (pc1 := 432) (by decide) (fun hl => ?_) (fun hl => absurd (leF hl) (by decide))
              refine blk X24 hby b746 (pc' := 435) (Ls' := #[i_ p1, i_ p2, i_ p3, i_ p4, i_ p5, i_ 4, i_ y1, i_ y2, i_ y3, i_ y4, r_ (h4.size), r_ (h9.size), r_ (h14.size), r_ (x'), i_ 0, i_ 0, i_ 1, i_ 1, i_ 2, i_ 4, i_ 2]) (st' := [(.int 3), (.int 2)]) rfl ?_
              refine brI X24 hby d_code_435 (pc1 := 454) (by decide) (fun hl => ?_) (fun hl => absurd (leF hl) (by decide))
              refine blk X24 hby b747 (pc' := 459) (Ls' := #[i_ p1, i_ p2, i_ p3, i_ p4, i_ p5, i_ 4, i_ y1, i_ y2, i_ y3, i_ y4, r_ (h4.size), r_ (h9.size), r_ (h14.size), r_ (x'), i_ 0, i_ 0, i_ 1, i_ 1, i_ 2, i_ 4, i_ 2]) (st' := [(.int 1)]) rfl ?_
              exact retI' X24 hby hret d_code_459 rfl (fun S' hS' => rfl)
            · skip
              have wj0 : wsB y1 = true := g4 0 (by decide)
              rw [wj0] at hv0
              replace hv0 : v0' = (0 : Int32) := hv0
              subst hv0
              have wj1 : wsB y2 = true := g4 1 (by decide)
              rw [wj1] at hv1
              replace hv1 : v1' = (0 : Int32) := hv1
              subst hv1
              have wj2 : wsB y3 = true := g4 2 (by decide)
              rw [wj2] at hv2
              replace hv2 : v2' = (0 : Int32) := hv2
              subst hv2
              have wj3 : wsB y4 = false := g5 (by decide)
              rw [wj3] at hv3
              replace hv3 : v3' = (1 : Int32) := hv3
              subst hv3
              show Go _ _ _ _ (T21.setTop (mkF m 270 #[i_ p1, i_ p2, i_ p3, i_ p4, i_ p5, i_ 4, i_ y1, i_ y2, i_ y3, i_ y4, r_ (h4.size), r_ (h9.size), r_ (h14.size), r_ (x'), i_ 0, i_ 0, i_ 0, i_ 1, u_, u_, u_] []))
              refine blk X21 hby b748 (pc' := 272) (Ls' := #[i_ p1, i_ p2, i_ p3, i_ p4, i_ p5, i_ 4, i_ y1, i_ y2, i_ y3, i_ y4, r_ (h4.size), r_ (h9.size), r_ (h14.size), r_ (x'), i_ 0, i_ 0, i_ 0, i_ 1, u_, u_, u_]) (st' := [(.int 0)]) rfl ?_
              refine br0 X21 hby d_code_272 (pc1 := 279) (by decide) (fun hl => ?_) (fun hl => absurd (eqF hl) (fun q => q rfl))
              refine blk X21 hby b749 (pc' := 281) (Ls' := #[i_ p1, i_ p2, i_ p3, i_ p4, i_ p5, i_ 4, i_ y1, i_ y2, i_ y3, i_ y4, r_ (h4.size), r_ (h9.size), r_ (h14.size), r_ (x'), i_ 0, i_ 0, i_ 0, i_ 1, u_, u_, u_]) (st' := [(.int 0)]) rfl ?_
              refine br0 X21 hby d_code_281 (pc1 := 288) (by decide) (fun hl => ?_) (fun hl => absurd (eqF hl) (fun q => q rfl))
              refine blk X21 hby b750 (pc' := 290) (Ls' := #[i_ p1, i_ p2, i_ p3, i_ p4, i_ p5, i_ 4, i_ y1, i_ y2, i_ y3, i_ y4, r_ (h4.size), r_ (h9.size), r_ (h14.size), r_ (x'), i_ 0, i_ 0, i_ 0, i_ 1, u_, u_, u_]) (st' := [(.int 0)]) rfl ?_
              refine br0 X21 hby d_code_290 (pc1 := 297) (by decide) (fun hl => ?_) (fun hl => absurd (eqF hl) (fun q => q rfl))
              refine blk X21 hby b751 (pc' := 299) (Ls' := #[i_ p1, i_ p2, i_ p3, i_ p4, i_ p5, i_ 4, i_ y1, i_ y2, i_ y3, i_ y4, r_ (h4.size), r_ (h9.size), r_ (h14.size), r_ (x'), i_ 0, i_ 0, i_ 0, i_ 1, u_, u_, u_]) (st' := [(.int 1)]) rfl ?_
              refine br0 X21 hby d_code_299 (pc1 := 306) (by decide) (fun hl => absurd (eqT hl) (by decide)) (fun hl => ?_)
              refine blk X21 hby b752 (pc' := 310) (Ls' := #[i_ p1, i_ p2, i_ p3, i_ p4, i_ p5, i_ 4, i_ y1, i_ y2, i_ y3, i_ y4, r_ (h4.size), r_ (h9.size), r_ (h14.size), r_ (x'), i_ 0, i_ 0, i_ 0, i_ 1, i_ 3, u_, u_]) (st' := []) rfl ?_
              refine blk X21 hby b753 (pc' := 312) (Ls' := #[i_ p1, i_ p2, i_ p3, i_ p4, i_ p5, i_ 4, i_ y1, i_ y2, i_ y3, i_ y4, r_ (h4.size), r_ (h9.size), r_ (h14.size), r_ (x'), i_ 0, i_ 0, i_ 0, i_ 1, i_ 3, u_, u_]) (st' := [(.int 1)]) rfl ?_
              refine br0 X21 hby d_code_312 (pc1 := 319) (by decide) (fun hl => absurd (eqT hl) (by decide)) (fun hl => ?_)
              refine blk X21 hby b754 (pc' := 359) (Ls' := #[i_ p1, i_ p2, i_ p3, i_ p4, i_ p5, i_ 4, i_ y1, i_ y2, i_ y3, i_ y4, r_ (h4.size), r_ (h9.size), r_ (h14.size), r_ (x'), i_ 0, i_ 0, i_ 0, i_ 1, i_ 3, i_ 4, i_ ((4 : Int32) - (3 : Int32))]) (st' := [(.ref (x'))]) rfl ?_
              show Go _ _ _ _ (T21.setTop (mkF m 359 #[i_ p1, i_ p2, i_ p3, i_ p4, i_ p5, i_ 4, i_ y1, i_ y2, i_ y3, i_ y4, r_ (h4.size), r_ (h9.size), r_ (h14.size), r_ (x'), i_ 0, i_ 0, i_ 0, i_ 1, i_ 3, i_ 4, i_ 1] [(.ref (x'))]))
              refine gVirt X21 hby (argsL := []) (st := []) (ct_len hw hEL X21.old U hx') hx'.1 (hw _ (List.mem_of_getElem? (i := 59) rfl)) (hw _ (List.mem_of_getElem? (i := 35) rfl)) (hw _ (List.mem_of_getElem? (i := 37) rfl)) (hw _ (List.mem_of_getElem? (i := 36) rfl)) (hw _ (List.mem_of_getElem? (i := 11) rfl)) (hw _ (List.mem_of_getElem? (i := 38) rfl)) pd___I rfl d_code_359 rfl (by rw [hml]; rfl) all0 (by decide) (Nat.le_of_ble_eq_true rfl) (by decide) (by decide) (fun v22 T22 h22 S22 X22 q22 sS22 sz22 => ?_)
              obtain ⟨rfl, rfl⟩ := q22
              show Go _ _ _ _ (T22.setTop (mkF m 362 #[i_ p1, i_ p2, i_ p3, i_ p4, i_ p5, i_ 4, i_ y1, i_ y2, i_ y3, i_ y4, r_ (h4.size), r_ (h9.size), r_ (h14.size), r_ (x'), i_ 0, i_ 0, i_ 0, i_ 1, i_ 3, i_ 4, i_ 1] [(.int (Int32.ofNat (([y1, y2, y3, y4].drop 3).take (4 - 3)).length))]))
              show Go _ _ _ _ (T22.setTop (mkF m 362 #[i_ p1, i_ p2, i_ p3, i_ p4, i_ p5, i_ 4, i_ y1, i_ y2, i_ y3, i_ y4, r_ (h4.size), r_ (h9.size), r_ (h14.size), r_ (x'), i_ 0, i_ 0, i_ 0, i_ 1, i_ 3, i_ 4, i_ 1] [(.int 1)]))
              refine blk X22 hby b755 (pc' := 364) (Ls' := #[i_ p1, i_ p2, i_ p3, i_ p4, i_ p5, i_ 4, i_ y1, i_ y2, i_ y3, i_ y4, r_ (h4.size), r_ (h9.size), r_ (h14.size), r_ (x'), i_ 0, i_ 0, i_ 0, i_ 1, i_ 3, i_ 4, i_ 1]) (st' := [(.int 1), (.int 1)]) rfl ?_
              refine brI X22 hby d_code_364 (pc1 := 369) (by decide) (fun hl => ?_) (fun hl => absurd (eqF hl) (fun q => q rfl))
              refine blk X22 hby b756 (pc' := 371) (Ls' := #[i_ p1, i_ p2, i_ p3, i_ p4, i_ p5, i_ 4, i_ y1, i_ y2, i_ y3, i_ y4, r_ (h4.size), r_ (h9.size), r_ (h14.size), r_ (x'), i_ 0, i_ 0, i_ 0, i_ 1, i_ 3, i_ 4, i_ 1]) (st' := [(.int 1)]) rfl ?_
              refine br0 X22 hby d_code_371 (pc1 := 388) (by decide) (fun hl => absurd (leT hl) (fun q => q (by decide))) (fun hl => ?_)
              refine blk X22 hby b757 (pc' := 377) (Ls' := #[i_ p1, i_ p2, i_ p3, i_ p4, i_ p5, i_ 4, i_ y1, i_ y2, i_ y3, i_ y4, r_ (h4.size), r_ (h9.size), r_ (h14.size), r_ (x'), i_ 0, i_ 0, i_ 0, i_ 1, i_ 3, i_ 4, i_ 1]) (st' := [(.int 0), (.ref (x'))]) rfl ?_
              refine gVirt X22 hby (argsL := [(.int 0)]) (st := []) (ct_chr hw hEL X22.old U hFM hfm hx' (i := 0) (Nat.le_of_ble_eq_true rfl)) hx'.1 (hw _ (List.mem_of_getElem? (i := 121) rfl)) (hw _ (List.mem_of_getElem? (i := 71) rfl)) (hw _ (List.mem_of_getElem? (i := 73) rfl)) (hw _ (List.mem_of_getElem? (i := 72) rfl)) (hw _ (List.mem_of_getElem? (i := 11) rfl)) (hw _ (List.mem_of_getElem? (i := 74) rfl)) pd__I_C rfl d_code_377 rfl (by rw [hml]; rfl) all0 (by decide) (Nat.le_of_ble_eq_true rfl) (by decide) (by decide) (fun v23 T23 h23 S23 X23 q23 sS23 sz23 => ?_)
              obtain ⟨rfl, rfl⟩ := q23
              show Go _ _ _ _ (T23.setTop (mkF m 380 #[i_ p1, i_ p2, i_ p3, i_ p4, i_ p5, i_ 4, i_ y1, i_ y2, i_ y3, i_ y4, r_ (h4.size), r_ (h9.size), r_ (h14.size), r_ (x'), i_ 0, i_ 0, i_ 0, i_ 1, i_ 3, i_ 4, i_ 1] [(.int ((([y1, y2, y3, y4].drop 3).take (4 - 3)).getD 0 0))]))
              show Go _ _ _ _ (T23.setTop (mkF m 380 #[i_ p1, i_ p2, i_ p3, i_ p4, i_ p5, i_ 4, i_ y1, i_ y2, i_ y3, i_ y4, r_ (h4.size), r_ (h9.size), r_ (h14.size), r_ (x'), i_ 0, i_ 0, i_ 0, i_ 1, i_ 3, i_ 4, i_ 1] [(.int y4)]))
              refine blk X23 hby b758 (pc' := 384) (Ls' := #[i_ p1, i_ p2, i_ p3, i_ p4, i_ p5, i_ 4, i_ y1, i_ y2, i_ y3, i_ y4, r_ (h4.size), r_ (h9.size), r_ (h14.size), r_ (x'), i_ 0, i_ 0, i_ 0, i_ 1, i_ 3, i_ 4, i_ 1]) (st' := [(.int 3), (.ref (h4.size)), (.int y4)]) rfl ?_
              refine gLd X23 hby hVd (Or.inr (Or.inl ⟨rfl, rfl⟩)) d_code_384 (i := 3) rfl (Nat.le_of_ble_eq_true rfl) ?_
              refine brI X23 hby d_code_385 (pc1 := 458) (by decide) (fun hl => absurd (neT hl) (fun q => q rfl)) (fun hl => ?_)
              refine blk X23 hby b759 (pc' := 391) (Ls' := #[i_ p1, i_ p2, i_ p3, i_ p4, i_ p5, i_ 4, i_ y1, i_ y2, i_ y3, i_ y4, r_ (h4.size), r_ (h9.size), r_ (h14.size), r_ (x'), i_ 0, i_ 0, i_ 0, i_ 1, i_ 3, i_ 4, i_ 1]) (st' := [(.int 1), (.int 1)]) rfl ?_
              refine brI X23 hby d_code_391 (pc1 := 410) (by decide) (fun hl => ?_) (fun hl => absurd (leF hl) (by decide))
              refine blk X23 hby b760 (pc' := 413) (Ls' := #[i_ p1, i_ p2, i_ p3, i_ p4, i_ p5, i_ 4, i_ y1, i_ y2, i_ y3, i_ y4, r_ (h4.size), r_ (h9.size), r_ (h14.size), r_ (x'), i_ 0, i_ 0, i_ 0, i_ 1, i_ 3, i_ 4, i_ 1]) (st' := [(.int 2), (.int 1)]) rfl ?_
              refine brI X23 hby d_code_413 (pc1 := 432) (by decide) (fun hl => ?_) (fun hl => absurd (leF hl) (by decide))
              refine blk X23 hby b761 (pc' := 435) (Ls' := #[i_ p1, i_ p2, i_ p3, i_ p4, i_ p5, i_ 4, i_ y1, i_ y2, i_ y3, i_ y4, r_ (h4.size), r_ (h9.size), r_ (h14.size), r_ (x'), i_ 0, i_ 0, i_ 0, i_ 1, i_ 3, i_ 4, i_ 1]) (st' := [(.int 3), (.int 1)]) rfl ?_
              refine brI X23 hby d_code_435 (pc1 := 454) (by decide) (fun hl => ?_) (fun hl => absurd (leF hl) (by decide))
              refine blk X23 hby b762 (pc' := 459) (Ls' := #[i_ p1, i_ p2, i_ p3, i_ p4, i_ p5, i_ 4, i_ y1, i_ y2, i_ y3, i_ y4, r_ (h4.size), r_ (h9.size), r_ (h14.size), r_ (x'), i_ 0, i_ 0, i_ 0, i_ 1, i_ 3, i_ 4, i_ 1]) (st' := [(.int 1)]) rfl ?_
              exact retI' X23 hby hret d_code_459 rfl (fun S' hS' => rfl)
            · skip
              have wj0 : wsB y1 = true := g4 0 (by decide)
              rw [wj0] at hv0
              replace hv0 : v0' = (0 : Int32) := hv0
              subst hv0
              have wj1 : wsB y2 = true := g4 1 (by decide)
              rw [wj1] at hv1
              replace hv1 : v1' = (0 : Int32) := hv1
              subst hv1
              have wj2 : wsB y3 = true := g4 2 (by decide)
              rw [wj2] at hv2
              replace hv2 : v2' = (0 : Int32) := hv2
              subst hv2
              have wj3 : wsB y4 = true := g4 3 (by decide)
              rw [wj3] at hv3
              replace hv3 : v3' = (0 : Int32) := hv3
              subst hv3
              show Go _ _ _ _ (T21.setTop (mkF m 270 #[i_ p1, i_ p2, i_ p3, i_ p4, i_ p5, i_ 4, i_ y1, i_ y2, i_ y3, i_ y4, r_ (h4.size), r_ (h9.size), r_ (h14.size), r_ (x'), i_ 0, i_ 0, i_ 0, i_ 0, u_, u_, u_] []))
              refine blk X21 hby b763 (pc' := 272) (Ls' := #[i_ p1, i_ p2, i_ p3, i_ p4, i_ p5, i_ 4, i_ y1, i_ y2, i_ y3, i_ y4, r_ (h4.size), r_ (h9.size), r_ (h14.size), r_ (x'), i_ 0, i_ 0, i_ 0, i_ 0, u_, u_, u_]) (st' := [(.int 0)]) rfl ?_
              refine br0 X21 hby d_code_272 (pc1 := 279) (by decide) (fun hl => ?_) (fun hl => absurd (eqF hl) (fun q => q rfl))
              refine blk X21 hby b764 (pc' := 281) (Ls' := #[i_ p1, i_ p2, i_ p3, i_ p4, i_ p5, i_ 4, i_ y1, i_ y2, i_ y3, i_ y4, r_ (h4.size), r_ (h9.size), r_ (h14.size), r_ (x'), i_ 0, i_ 0, i_ 0, i_ 0, u_, u_, u_]) (st' := [(.int 0)]) rfl ?_
              refine br0 X21 hby d_code_281 (pc1 := 288) (by decide) (fun hl => ?_) (fun hl => absurd (eqF hl) (fun q => q rfl))
              refine blk X21 hby b765 (pc' := 290) (Ls' := #[i_ p1, i_ p2, i_ p3, i_ p4, i_ p5, i_ 4, i_ y1, i_ y2, i_ y3, i_ y4, r_ (h4.size), r_ (h9.size), r_ (h14.size), r_ (x'), i_ 0, i_ 0, i_ 0, i_ 0, u_, u_, u_]) (st' := [(.int 0)]) rfl ?_
              refine br0 X21 hby d_code_290 (pc1 := 297) (by decide) (fun hl => ?_) (fun hl => absurd (eqF hl) (fun q => q rfl))
              refine blk X21 hby b766 (pc' := 299) (Ls' := #[i_ p1, i_ p2, i_ p3, i_ p4, i_ p5, i_ 4, i_ y1, i_ y2, i_ y3, i_ y4, r_ (h4.size), r_ (h9.size), r_ (h14.size), r_ (x'), i_ 0, i_ 0, i_ 0, i_ 0, u_, u_, u_]) (st' := [(.int 0)]) rfl ?_
              refine br0 X21 hby d_code_299 (pc1 := 306) (by decide) (fun hl => ?_) (fun hl => absurd (eqF hl) (fun q => q rfl))
              refine blk X21 hby b767 (pc' := 312) (Ls' := #[i_ p1, i_ p2, i_ p3, i_ p4, i_ p5, i_ 4, i_ y1, i_ y2, i_ y3, i_ y4, r_ (h4.size), r_ (h9.size), r_ (h14.size), r_ (x'), i_ 0, i_ 0, i_ 0, i_ 0, i_ 4, u_, u_]) (st' := [(.int 0)]) rfl ?_
              refine br0 X21 hby d_code_312 (pc1 := 319) (by decide) (fun hl => ?_) (fun hl => absurd (eqF hl) (fun q => q rfl))
              refine blk X21 hby b768 (pc' := 321) (Ls' := #[i_ p1, i_ p2, i_ p3, i_ p4, i_ p5, i_ 4, i_ y1, i_ y2, i_ y3, i_ y4, r_ (h4.size), r_ (h9.size), r_ (h14.size), r_ (x'), i_ 0, i_ 0, i_ 0, i_ 0, i_ 4, u_, u_]) (st' := [(.int 0)]) rfl ?_
              refine br0 X21 hby d_code_321 (pc1 := 328) (by decide) (fun hl => ?_) (fun hl => absurd (eqF hl) (fun q => q rfl))
              refine blk X21 hby b769 (pc' := 330) (Ls' := #[i_ p1, i_ p2, i_ p3, i_ p4, i_ p5, i_ 4, i_ y1, i_ y2, i_ y3, i_ y4, r_ (h4.size), r_ (h9.size), r_ (h14.size), r_ (x'), i_ 0, i_ 0, i_ 0, i_ 0, i_ 4, u_, u_]) (st' := [(.int 0)]) rfl ?_
              refine br0 X21 hby d_code_330 (pc1 := 337) (by decide) (fun hl => ?_) (fun hl => absurd (eqF hl) (fun q => q rfl))
              refine blk X21 hby b770 (pc' := 339) (Ls' := #[i_ p1, i_ p2, i_ p3, i_ p4, i_ p5, i_ 4, i_ y1, i_ y2, i_ y3, i_ y4, r_ (h4.size), r_ (h9.size), r_ (h14.size), r_ (x'), i_ 0, i_ 0, i_ 0, i_ 0, i_ 4, u_, u_]) (st' := [(.int 0)]) rfl ?_
              refine br0 X21 hby d_code_339 (pc1 := 346) (by decide) (fun hl => ?_) (fun hl => absurd (eqF hl) (fun q => q rfl))
              refine blk X21 hby b771 (pc' := 359) (Ls' := #[i_ p1, i_ p2, i_ p3, i_ p4, i_ p5, i_ 4, i_ y1, i_ y2, i_ y3, i_ y4, r_ (h4.size), r_ (h9.size), r_ (h14.size), r_ (x'), i_ 0, i_ 0, i_ 0, i_ 0, i_ 4, i_ 4, i_ ((4 : Int32) - (4 : Int32))]) (st' := [(.ref (x'))]) rfl ?_
              show Go _ _ _ _ (T21.setTop (mkF m 359 #[i_ p1, i_ p2, i_ p3, i_ p4, i_ p5, i_ 4, i_ y1, i_ y2, i_ y3, i_ y4, r_ (h4.size), r_ (h9.size), r_ (h14.size), r_ (x'), i_ 0, i_ 0, i_ 0, i_ 0, i_ 4, i_ 4, i_ 0] [(.ref (x'))]))
              refine gVirt X21 hby (argsL := []) (st := []) (ct_len hw hEL X21.old U hx') hx'.1 (hw _ (List.mem_of_getElem? (i := 59) rfl)) (hw _ (List.mem_of_getElem? (i := 35) rfl)) (hw _ (List.mem_of_getElem? (i := 37) rfl)) (hw _ (List.mem_of_getElem? (i := 36) rfl)) (hw _ (List.mem_of_getElem? (i := 11) rfl)) (hw _ (List.mem_of_getElem? (i := 38) rfl)) pd___I rfl d_code_359 rfl (by rw [hml]; rfl) all0 (by decide) (Nat.le_of_ble_eq_true rfl) (by decide) (by decide) (fun v22 T22 h22 S22 X22 q22 sS22 sz22 => ?_)
              obtain ⟨rfl, rfl⟩ := q22
              show Go _ _ _ _ (T22.setTop (mkF m 362 #[i_ p1, i_ p2, i_ p3, i_ p4, i_ p5, i_ 4, i_ y1, i_ y2, i_ y3, i_ y4, r_ (h4.size), r_ (h9.size), r_ (h14.size), r_ (x'), i_ 0, i_ 0, i_ 0, i_ 0, i_ 4, i_ 4, i_ 0] [(.int (Int32.ofNat (([y1, y2, y3, y4].drop 4).take (4 - 4)).length))]))
              show Go _ _ _ _ (T22.setTop (mkF m 362 #[i_ p1, i_ p2, i_ p3, i_ p4, i_ p5, i_ 4, i_ y1, i_ y2, i_ y3, i_ y4, r_ (h4.size), r_ (h9.size), r_ (h14.size), r_ (x'), i_ 0, i_ 0, i_ 0, i_ 0, i_ 4, i_ 4, i_ 0] [(.int 0)]))
              refine blk X22 hby b772 (pc' := 364) (Ls' := #[i_ p1, i_ p2, i_ p3, i_ p4, i_ p5, i_ 4, i_ y1, i_ y2, i_ y3, i_ y4, r_ (h4.size), r_ (h9.size), r_ (h14.size), r_ (x'), i_ 0, i_ 0, i_ 0, i_ 0, i_ 4, i_ 4, i_ 0]) (st' := [(.int 0), (.int 0)]) rfl ?_
              refine brI X22 hby d_code_364 (pc1 := 369) (by decide) (fun hl => ?_) (fun hl => absurd (eqF hl) (fun q => q rfl))
              refine blk X22 hby b773 (pc' := 371) (Ls' := #[i_ p1, i_ p2, i_ p3, i_ p4, i_ p5, i_ 4, i_ y1, i_ y2, i_ y3, i_ y4, r_ (h4.size), r_ (h9.size), r_ (h14.size), r_ (x'), i_ 0, i_ 0, i_ 0, i_ 0, i_ 4, i_ 4, i_ 0]) (st' := [(.int 0)]) rfl ?_
              refine br0 X22 hby d_code_371 (pc1 := 388) (by decide) (fun hl => ?_) (fun hl => absurd (leF hl) (by decide))
              refine blk X22 hby b774 (pc' := 391) (Ls' := #[i_ p1, i_ p2, i_ p3, i_ p4, i_ p5, i_ 4, i_ y1, i_ y2, i_ y3, i_ y4, r_ (h4.size), r_ (h9.size), r_ (h14.size), r_ (x'), i_ 0, i_ 0, i_ 0, i_ 0, i_ 4, i_ 4, i_ 0]) (st' := [(.int 1), (.int 0)]) rfl ?_
              refine brI X22 hby d_code_391 (pc1 := 410) (by decide) (fun hl => ?_) (fun hl => absurd (leF hl) (by decide))
              refine blk X22 hby b775 (pc' := 413) (Ls' := #[i_ p1, i_ p2, i_ p3, i_ p4, i_ p5, i_ 4, i_ y1, i_ y2, i_ y3, i_ y4, r_ (h4.size), r_ (h9.size), r_ (h14.size), r_ (x'), i_ 0, i_ 0, i_ 0, i_ 0, i_ 4, i_ 4, i_ 0]) (st' := [(.int 2), (.int 0)]) rfl ?_
              refine brI X22 hby d_code_413 (pc1 := 432) (by decide) (fun hl => ?_) (fun hl => absurd (leF hl) (by decide))
              refine blk X22 hby b776 (pc' := 435) (Ls' := #[i_ p1, i_ p2, i_ p3, i_ p4, i_ p5, i_ 4, i_ y1, i_ y2, i_ y3, i_ y4, r_ (h4.size), r_ (h9.size), r_ (h14.size), r_ (x'), i_ 0, i_ 0, i_ 0, i_ 0, i_ 4, i_ 4, i_ 0]) (st' := [(.int 3), (.int 0)]) rfl ?_
              refine brI X22 hby d_code_435 (pc1 := 454) (by decide) (fun hl => ?_) (fun hl => absurd (leF hl) (by decide))
              refine blk X22 hby b777 (pc' := 459) (Ls' := #[i_ p1, i_ p2, i_ p3, i_ p4, i_ p5, i_ 4, i_ y1, i_ y2, i_ y3, i_ y4, r_ (h4.size), r_ (h9.size), r_ (h14.size), r_ (x'), i_ 0, i_ 0, i_ 0, i_ 0, i_ 4, i_ 4, i_ 0]) (st' := [(.int 1)]) rfl ?_
              exact retI' X22 hby hret d_code_459 rfl (fun S' hS' => rfl)
          skip
          refine br0 X21 hby d_code_260 (pc1 := 267) (by decide) (fun hw3 => ?_) (fun hw3 => ?_)
          · replace hw3 := neT hw3
            refine blk X21 hby b778 (pc' := 268) (Ls' := #[i_ p1, i_ p2, i_ p3, i_ p4, i_ p5, i_ 4, i_ y1, i_ y2, i_ y3, i_ y4, r_ (h4.size), r_ (h9.size), r_ (h14.size), r_ (x'), i_ (v0'), i_ (v1'), i_ (v2'), u_, u_, u_, u_]) (st' := [(.int 0)]) rfl ?_
            exact nx3 _ (by rw [if_pos (by simpa using fun q => hw3 (ite10.mpr q))])
          · replace hw3 := neF hw3
            refine blk X21 hby b779 (pc' := 268) (Ls' := #[i_ p1, i_ p2, i_ p3, i_ p4, i_ p5, i_ 4, i_ y1, i_ y2, i_ y3, i_ y4, r_ (h4.size), r_ (h9.size), r_ (h14.size), r_ (x'), i_ (v0'), i_ (v1'), i_ (v2'), u_, u_, u_, u_]) (st' := [(.int 1)]) rfl ?_
            exact nx3 _ (by rw [ite10.mp hw3]; rfl)
        skip
        refine br0 X20 hby d_code_239 (pc1 := 246) (by decide) (fun hw2 => ?_) (fun hw2 => ?_)
        · replace hw2 := neT hw2
          refine blk X20 hby b780 (pc' := 247) (Ls' := #[i_ p1, i_ p2, i_ p3, i_ p4, i_ p5, i_ 4, i_ y1, i_ y2, i_ y3, i_ y4, r_ (h4.size), r_ (h9.size), r_ (h14.size), r_ (x'), i_ (v0'), i_ (v1'), u_, u_, u_, u_, u_]) (st' := [(.int 0)]) rfl ?_
          exact nx2 _ (by rw [if_pos (by simpa using fun q => hw2 (ite10.mpr q))])
        · replace hw2 := neF hw2
          refine blk X20 hby b781 (pc' := 247) (Ls' := #[i_ p1, i_ p2, i_ p3, i_ p4, i_ p5, i_ 4, i_ y1, i_ y2, i_ y3, i_ y4, r_ (h4.size), r_ (h9.size), r_ (h14.size), r_ (x'), i_ (v0'), i_ (v1'), u_, u_, u_, u_, u_]) (st' := [(.int 1)]) rfl ?_
          exact nx2 _ (by rw [ite10.mp hw2]; rfl)
      skip
      refine br0 X19 hby d_code_218 (pc1 := 225) (by decide) (fun hw1 => ?_) (fun hw1 => ?_)
      · replace hw1 := neT hw1
        refine blk X19 hby b782 (pc' := 226) (Ls' := #[i_ p1, i_ p2, i_ p3, i_ p4, i_ p5, i_ 4, i_ y1, i_ y2, i_ y3, i_ y4, r_ (h4.size), r_ (h9.size), r_ (h14.size), r_ (x'), i_ (v0'), u_, u_, u_, u_, u_, u_]) (st' := [(.int 0)]) rfl ?_
        exact nx1 _ (by rw [if_pos (by simpa using fun q => hw1 (ite10.mpr q))])
      · replace hw1 := neF hw1
        refine blk X19 hby b783 (pc' := 226) (Ls' := #[i_ p1, i_ p2, i_ p3, i_ p4, i_ p5, i_ 4, i_ y1, i_ y2, i_ y3, i_ y4, r_ (h4.size), r_ (h9.size), r_ (h14.size), r_ (x'), i_ (v0'), u_, u_, u_, u_, u_, u_]) (st' := [(.int 1)]) rfl ?_
        exact nx1 _ (by rw [ite10.mp hw1]; rfl)
    skip
    refine br0 X18 hby d_code_197 (pc1 := 204) (by decide) (fun hw0 => ?_) (fun hw0 => ?_)
    · replace hw0 := neT hw0
      refine blk X18 hby b784 (pc' := 205) (Ls' := #[i_ p1, i_ p2, i_ p3, i_ p4, i_ p5, i_ 4, i_ y1, i_ y2, i_ y3, i_ y4, r_ (h4.size), r_ (h9.size), r_ (h14.size), r_ (x'), u_, u_, u_, u_, u_, u_, u_]) (st' := [(.int 0)]) rfl ?_
      exact nx0 _ (by rw [if_pos (by simpa using fun q => hw0 (ite10.mpr q))])
    · replace hw0 := neF hw0
      refine blk X18 hby b785 (pc' := 205) (Ls' := #[i_ p1, i_ p2, i_ p3, i_ p4, i_ p5, i_ 4, i_ y1, i_ y2, i_ y3, i_ y4, r_ (h4.size), r_ (h9.size), r_ (h14.size), r_ (x'), u_, u_, u_, u_, u_, u_, u_]) (st' := [(.int 1)]) rfl ?_
      exact nx0 _ (by rw [ite10.mp hw0]; rfl)
set_option maxRecDepth 65536 in
set_option maxHeartbeats 40000000 in
theorem comes_1 {Post : Tables → Env → Array Value → State → Outcome → State → Prop} (hpost : ∀ tb e args s v u, (limb_1_1.after args s (.returned v) u = true ∧ limb_1_2.after args s (.returned v) u = true ∧ True) → FramedW s (.returned v) u (Jvm.fieldLocs frame_1_writes args s ++ Jvm.arrayLocs frame_1_arrays args s ++ Jvm.staticLocs frame_1_statics s) 40 3456 → Post tb e args s (.returned v) u) :
    ArmFor flags0 classFile x code maxLocals ret World_1 tables_1 room_1 Calls_1 rest_1 Pre_1 Post := by
  intro l hfl _ _ p e ha hc hk s m args below hf hA hF happ hP
  obtain ⟨⟨hck, -⟩, hrest, hpre⟩ := hP
  obtain ⟨-, -, -, hnamed, -, -, -, hat⟩ := (Spec.applies_iff hf).mp happ
  obtain ⟨hg, hn⟩ := and_e (Cond.before_iff.mp (show (Jvm.Cond.and given_1 narrow_1).before args s = true from hpre))
  obtain ⟨h1, g1⟩ := and_e hg
  obtain ⟨a0, g2⟩ := and_e g1
  obtain ⟨a1, g3⟩ := and_e g2
  obtain ⟨a2, g4⟩ := and_e g3
  obtain ⟨a3, g5⟩ := and_e g4
  have a4 := g5
  obtain ⟨w0, w1, w2, w3, w4, rfl⟩ : ∃ w0 w1 w2 w3 w4 : Value, args = #[w0, w1, w2, w3, w4] := by
    have hs : args.size = 5 := by simpa [Cond.value, given_1] using h1
    obtain ⟨L⟩ := args
    match L, hs with
    | [w0, w1, w2, w3, w4], _ => exact ⟨w0, w1, w2, w3, w4, rfl⟩
  have hw := fun d (hd : d ∈ tables_1) => atoms_spec (ws := Jvm.Cond.code x code maxLocals ret :: tables_1) hat d (List.mem_cons_of_mem _ hd)
  obtain ⟨i0, e0⟩ := is_v a0
  obtain rfl : w0 = (.int i0) := Option.some.inj e0
  obtain ⟨i1, e1⟩ := is_v a1
  obtain rfl : w1 = (.int i1) := Option.some.inj e1
  obtain ⟨i2, e2⟩ := is_v a2
  obtain rfl : w2 = (.int i2) := Option.some.inj e2
  obtain ⟨i3, e3⟩ := is_v a3
  obtain rfl : w3 = (.int i3) := Option.some.inj e3
  obtain ⟨i4, e4⟩ := is_v a4
  obtain rfl : w4 = (.int i4) := Option.some.inj e4
  obtain ⟨hsets, -⟩ := atoms_of _ (rest_1_c_eq ▸ (show rest_1_c.before _ s = true from hrest))
  obtain ⟨zc, ezc⟩ := is_v (Cond.before_iff.mp (hsets _ (List.mem_of_getElem? (i := 1) rfl)))
  have hCS := Sta.start ezc (Or.inl (hsets _ (List.mem_of_getElem? (i := 0) rfl)))
  have hzc : ¬ zc = 0 := fun q => gotF (Cond.eq_ints ezc (Term.int_eval (0))) (not_v (Cond.before_iff.mp (hsets _ (List.mem_of_getElem? (i := 2) rfl)))) q
  have hAD := Sta.start (eqI_v (Cond.before_iff.mp (hsets _ (List.mem_of_getElem? (i := 12) rfl)))) (Or.inl (hsets _ (List.mem_of_getElem? (i := 11) rfl)))
  have hHI := Sta.start (eqI_v (Cond.before_iff.mp (hsets _ (List.mem_of_getElem? (i := 15) rfl)))) (Or.inl (hsets _ (List.mem_of_getElem? (i := 14) rfl)))
  have hLO := Sta.start (eqI_v (Cond.before_iff.mp (hsets _ (List.mem_of_getElem? (i := 18) rfl)))) (Or.inl (hsets _ (List.mem_of_getElem? (i := 17) rfl)))
  have U : US s zc := ⟨hCS, hzc, hAD, hHI, hLO⟩
  obtain ⟨fm, efm, hfm⟩ := ref_v (Cond.before_iff.mp (hsets _ (List.mem_of_getElem? (i := 8) rfl)))
  have hFM := Sta.start efm (Or.inl (hsets _ (List.mem_of_getElem? (i := 7) rfl)))
  have hEL : EW s #[.int i0, .int i1, .int i2, .int i3, .int i4] EL := (EW.cons (hw _ (List.mem_of_getElem? (i := 22) rfl)) (by decide) (EW.cons (hw _ (List.mem_of_getElem? (i := 174) rfl)) (by decide) (EW.cons (hw _ (List.mem_of_getElem? (i := 175) rfl)) (by decide) EW.nil)))
  have hch : CHv s EL s.vm s.heap := CHv.start hEL hck (hsets _ (List.mem_of_getElem? (i := 2) rfl)) (hw _ (List.mem_of_getElem? (i := 23) rfl)) (hw _ (List.mem_of_getElem? (i := 10) rfl))
  obtain ⟨n, o, r1, r2, r3, v, L, rfl, rfl, N, -, -, hE⟩ := ct_law (Z := s) (l := l) (h0 := s.heap) hw hEL (Old.start s) U hFM hfm p e ha hc hk s m _ below hf ((Spec.applies_iff_loose hf).mp happ).1 ⟨rfl, State.Warmed39.refl s, rfl, hch, fun x hx => nomatch hx⟩ trivial
  refine ⟨n, _, r1, r2, r3, hpost _ _ _ _ _ _ ⟨Cond.after_iff.mpr rfl, Cond.after_iff.mpr (eq_i res_at (Term.int_eval (1)) rfl), trivial⟩ ⟨hE.1, hE.2.1, hE.2.2.1, (hE.2.2.2.sift fun y hy => Or.inr (N y hy)).mono (by decide) (by decide)⟩⟩
theorem main_1_1 : Claimed_1_1 := comes_1 fun _ _ _ _ _ _ h hF => ⟨h.1, hF⟩
theorem main_1_2 : Claimed_1_2 := comes_1 fun _ _ _ _ _ _ h hF => ⟨h.2.1, hF⟩
end Jvm.Pilot.@@N@@
namespace Jvm.Pilot.@@N@@
open Jvm Jvm.ClassFile Sem Op Lib Jvm.Free Jvm.Stand Jvm.Pilot.@@N@@.Jvm.D
/-! MADE BY PROGRAM (witnessworld.py) out of the Statement's table words and the real class files: 23 classes; the members and pool entries that the words name. The judged class is class 1, her method 1. -/
namespace start1
open Jvm.ClassFile
def u (s : String) : CpInfo := .utf8 (stringToUtf16 s)
/-- a pool by its gaps: so many unusable entries, then the entry; so many at the end -/
def gap : Nat → List CpInfo → List CpInfo
  | 0, r => r
  | n + 1, r => .unusable :: gap n r
def poolList (es : List (Nat × CpInfo)) (last : Nat) : List CpInfo := es.foldr (fun e r => gap e.1 (e.2 :: r)) (gap last [])
def pool (es : List (Nat × CpInfo)) (last : Nat) : Array CpInfo := ⟨poolList es last⟩
def fileOf (pool : Array CpInfo) (this : Nat) (attrs : Array Attribute := #[]) (ms : Array MethodInfo := #[]) (fl : Nat := 33) (sup : Nat := 0) (ifs : Array Nat := #[]) (fds : Array FieldInfo := #[]) : ClassFile where
  minorVersion := 0
  majorVersion := 65
  constantPool := pool
  accessFlags := fl
  thisClass := this
  superClass := sup
  interfaces := ifs
  fields := fds
  methods := ms
  attributes := attrs
def plain (name : String) (sup : Option ClassId) : Class where
  name := name
  kind := .ordinary
  loader := none
  accessFlags := 33
  super := sup
  interfaces := #[]
  cf := none
  fields := #[]
  methods := #[]
  instanceTypes := #[]
  staticTypes := #[]
  resolved := #[]
  callSites := []
  init := .initialized
  statics := none
  mirror := none

def pool0 : Array CpInfo := pool [(5, u "<init>"), (0, u "()V"), (1, .class_ 10), (1, u "java/lang/Object")] 113

def k0c0 : Code := { maxStack := 0, maxLocals := 1, code := object_method_1_code, exceptionTable := #[], attributes := #[] }
def k0m0 : Method := { name := "<init>", desc := "()V", sig := { parameters := [], returnType := none }, accessFlags := 1, code := some k0c0 }
/-- java/lang/Object -/
def k0 : Class := { plain "java/lang/Object" none with
  accessFlags := 33
  interfaces := #[]
  cf := some (fileOf pool0 8 #[] #[{ accessFlags := 1, nameIndex := 5, descriptorIndex := 6, attributes := #[] }] 33 0 #[] #[])
  fields := #[]
  methods := #[k0m0]
  instanceTypes := #[]
  staticTypes := #[]
  resolved := Array.replicate 124 none
  statics := none }

def pool1 : Array CpInfo := pool [(2, .class_ 4), (1, u "java/lang/Object"), (0, u "<init>"), (0, u "()V"), (0, .integer 2147483647), (0, .methodref 9 10), (0, .class_ 11), (0, .nameAndType 12 13), (0, u "com/example/nay1/nay1/lexicon/LexiconLineEntryPinLaw"), (0, u "pick"), (0, u "(I)C"), (0, .class_ 15), (0, u "java/lang/String"), (0, .methodref 14 17), (0, .nameAndType 5 18), (0, u "([C)V"), (0, .methodref 20 21), (0, .class_ 22), (0, .nameAndType 23 24), (0, u "com/example/nay1/nay1/lexicon/LexiconLine"), (0, u "entry"), (0, u "(Ljava/lang/String;)Ljava/lang/String;"), (0, .methodref 9 26), (0, .nameAndType 27 28), (0, u "isWs"), (0, u "(C)Z"), (0, .methodref 14 30), (0, .nameAndType 31 32), (0, u "length"), (0, u "()I"), (0, .methodref 14 34), (0, .nameAndType 35 13), (0, u "charAt"), (0, .integer 65279), (0, .integer 55296), (2, u "law"), (0, u "(IIIII)Z")] 5

def k1m0 : Method := { name := "<init>", desc := "()V", sig := { parameters := [], returnType := none }, accessFlags := 2, code := none }
def k1c1 : Code := { maxStack := 4, maxLocals := 21, code := code, exceptionTable := #[], attributes := #[] }
def k1m1 : Method := { name := "law", desc := "(IIIII)Z", sig := { parameters := [.int, .int, .int, .int, .int], returnType := some .boolean }, accessFlags := 9, code := some k1c1 }
def k1c2 : Code := { maxStack := 4, maxLocals := 4, code := method_3_code, exceptionTable := #[], attributes := #[] }
def k1m2 : Method := { name := "pick", desc := "(I)C", sig := { parameters := [.int], returnType := some .char }, accessFlags := 10, code := some k1c2 }
def k1c3 : Code := { maxStack := 1, maxLocals := 1, code := method_4_code, exceptionTable := #[], attributes := #[] }
def k1m3 : Method := { name := "isWs", desc := "(C)Z", sig := { parameters := [.char], returnType := some .boolean }, accessFlags := 10, code := some k1c3 }
/-- com/example/nay1/nay1/lexicon/LexiconLineEntryPinLaw -/
def k1 : Class := { plain "com/example/nay1/nay1/lexicon/LexiconLineEntryPinLaw" (some 0) with
  accessFlags := 49
  interfaces := #[]
  cf := some (fileOf pool1 9 #[] #[{ accessFlags := 2, nameIndex := 5, descriptorIndex := 6, attributes := #[] }, { accessFlags := 9, nameIndex := 40, descriptorIndex := 41, attributes := #[] }, { accessFlags := 10, nameIndex := 12, descriptorIndex := 13, attributes := #[] }, { accessFlags := 10, nameIndex := 27, descriptorIndex := 28, attributes := #[] }] 49 2 #[] #[])
  fields := #[]
  methods := #[k1m0, k1m1, k1m2, k1m3]
  instanceTypes := #[]
  staticTypes := #[]
  resolved := Array.replicate 47 none
  statics := none }

def pool2 : Array CpInfo := pool [(1, .class_ 2), (0, u "java/io/Serializable"), (0, .class_ 4), (0, u "java/lang/Object")] 2

/-- java/io/Serializable -/
def k2 : Class := { plain "java/io/Serializable" (some 0) with
  accessFlags := 1537
  interfaces := #[]
  cf := some (fileOf pool2 1 #[] #[] 1537 3 #[] #[])
  fields := #[]
  methods := #[]
  instanceTypes := #[]
  staticTypes := #[]
  resolved := Array.replicate 7 none
  statics := none }

def pool3 : Array CpInfo := pool [(1, .class_ 2), (0, u "java/lang/Comparable"), (0, .class_ 4), (0, u "java/lang/Object")] 7

/-- java/lang/Comparable -/
def k3 : Class := { plain "java/lang/Comparable" (some 0) with
  accessFlags := 1537
  interfaces := #[]
  cf := some (fileOf pool3 1 #[] #[] 1537 3 #[] #[])
  fields := #[]
  methods := #[]
  instanceTypes := #[]
  staticTypes := #[]
  resolved := Array.replicate 12 none
  statics := none }

def pool4 : Array CpInfo := pool [(2, .class_ 4), (1, u "java/lang/CharSequence"), (42, .class_ 48), (0, u "java/lang/CharSequence$1CodePointIterator"), (10, .class_ 60), (0, u "java/lang/CharSequence$1CharIterator"), (5, .class_ 67), (0, u "java/lang/Object")] 63

/-- java/lang/CharSequence -/
def k4 : Class := { plain "java/lang/CharSequence" (some 0) with
  accessFlags := 1537
  interfaces := #[]
  cf := some (fileOf pool4 2 #[.nestMembers #[47, 59]] #[] 1537 66 #[] #[])
  fields := #[]
  methods := #[]
  instanceTypes := #[]
  staticTypes := #[]
  resolved := Array.replicate 131 none
  statics := none }

def pool5 : Array CpInfo := pool [(1, .class_ 2), (0, u "java/lang/constant/Constable"), (0, .class_ 4), (0, u "java/lang/Object")] 6

/-- java/lang/constant/Constable -/
def k5 : Class := { plain "java/lang/constant/Constable" (some 0) with
  accessFlags := 1537
  interfaces := #[]
  cf := some (fileOf pool5 1 #[] #[] 1537 3 #[] #[])
  fields := #[]
  methods := #[]
  instanceTypes := #[]
  staticTypes := #[]
  resolved := Array.replicate 11 none
  statics := none }

def pool6 : Array CpInfo := pool [(1, .class_ 2), (0, u "java/lang/constant/ConstantDesc"), (0, .class_ 4), (0, u "java/lang/Object")] 32

/-- java/lang/constant/ConstantDesc -/
def k6 : Class := { plain "java/lang/constant/ConstantDesc" (some 0) with
  accessFlags := 1537
  interfaces := #[]
  cf := some (fileOf pool6 1 #[] #[] 1537 3 #[] #[])
  fields := #[]
  methods := #[]
  instanceTypes := #[]
  staticTypes := #[]
  resolved := Array.replicate 37 none
  statics := none }

def pool7 : Array CpInfo := pool [(1, .methodref 2 3), (0, .class_ 4), (0, .nameAndType 5 6), (0, u "java/lang/Object"), (0, u "<init>"), (0, u "()V"), (0, .string 8), (0, u ""), (0, .fieldref 10 11), (0, .class_ 12), (0, .nameAndType 13 14), (0, u "java/lang/String"), (0, u "value"), (0, u "[B"), (0, .fieldref 10 16), (0, .nameAndType 17 18), (0, u "coder"), (0, u "B"), (2, u "hash"), (0, u "I"), (2, u "hashIsZero"), (0, u "Z"), (0, .methodref 10 28), (0, .nameAndType 5 29), (0, u "([CIILjava/lang/Void;)V"), (6, u "checkBoundsOffCount"), (0, u "(III)I"), (0, .fieldref 10 39), (0, .nameAndType 40 26), (0, u "COMPACT_STRINGS"), (1, .class_ 44), (1, u "java/lang/StringUTF16"), (0, u "compress"), (1, .methodref 42 48), (0, .nameAndType 49 50), (0, u "coderFromArrayLen"), (0, u "([BI)B"), (56, .class_ 109), (1, u "java/lang/StringLatin1"), (32, u "()Z"), (34, .methodref 42 178), (0, .nameAndType 45 179), (0, u "([CII)[B"), (31, u "([BB)V"), (122, u "()I"), (0, .methodref 10 336), (0, .nameAndType 17 337), (0, u "()B"), (25, u "([BI)C"), (27, u "(II)V"), (35, u "(I)C"), (64, .methodref 10 493), (0, .nameAndType 494 142), (0, u "isLatin1"), (0, .methodref 107 496), (0, .nameAndType 497 363), (0, u "charAt"), (0, .methodref 42 496), (2, u "checkIndex"), (3, .methodref 10 506), (0, .nameAndType 507 334), (0, u "length"), (5, u "checkFromToIndex"), (7, .methodref 10 522), (0, .nameAndType 523 524), (0, u "checkBoundsBeginEnd"), (0, u "(III)V"), (50, .class_ 576), (0, u "java/lang/CharSequence"), (22, u "CASE_INSENSITIVE_ORDER"), (0, u "Ljava/util/Comparator;"), (82, u "substring"), (0, u "(II)Ljava/lang/String;"), (0, .methodref 107 686), (0, .nameAndType 687 688), (0, u "newString"), (0, u "([BII)Ljava/lang/String;"), (0, .methodref 42 686), (320, u "([C)V"), (42, .fieldref 1054 1055), (0, .class_ 1056), (0, .nameAndType 1057 1058), (0, u "jdk/internal/util/Preconditions"), (0, u "SIOOBE_FORMATTER"), (0, u "Ljava/util/function/BiFunction;"), (0, .methodref 1054 1060), (0, .nameAndType 501 1061), (0, u "(IILjava/util/function/BiFunction;)I"), (0, .methodref 1054 1063), (0, .nameAndType 513 1064), (0, u "(IIILjava/util/function/BiFunction;)I"), (0, .methodref 1054 1066), (0, .nameAndType 1067 1064), (0, u "checkFromIndexSize"), (33, u "serialPersistentFields"), (0, u "[Ljava/io/ObjectStreamField;"), (0, .class_ 1104), (0, u "java/lang/String$CaseInsensitiveComparator"), (1, .class_ 1107), (0, u "java/io/Serializable"), (0, .class_ 1109), (0, u "java/lang/Comparable"), (0, .class_ 1111), (0, u "java/lang/constant/Constable"), (0, .class_ 1113), (0, u "java/lang/constant/ConstantDesc"), (2, u "serialVersionUID"), (0, u "J"), (3, u "REPL"), (0, u "C"), (2, u "LATIN1"), (1, u "UTF16")] 323

def k7m0 : Method := { name := "<init>", desc := "()V", sig := { parameters := [], returnType := none }, accessFlags := 1, code := none }
def k7c1 : Code := { maxStack := 5, maxLocals := 2, code := jdk_42_method_3_code, exceptionTable := #[], attributes := #[] }
def k7m1 : Method := { name := "<init>", desc := "([C)V", sig := { parameters := [(.array .char)], returnType := none }, accessFlags := 1, code := some k7c1 }
def k7c2 : Code := { maxStack := 2, maxLocals := 1, code := jdk_42_method_54_code, exceptionTable := #[], attributes := #[] }
def k7m2 : Method := { name := "length", desc := "()I", sig := { parameters := [], returnType := some .int }, accessFlags := 1, code := some k7c2 }
def k7c3 : Code := { maxStack := 2, maxLocals := 2, code := jdk_42_method_56_code, exceptionTable := #[], attributes := #[] }
def k7m3 : Method := { name := "charAt", desc := "(I)C", sig := { parameters := [.int], returnType := some .char }, accessFlags := 1, code := some k7c3 }
def k7c4 : Code := { maxStack := 3, maxLocals := 5, code := jdk_42_method_92_code, exceptionTable := #[], attributes := #[] }
def k7m4 : Method := { name := "substring", desc := "(II)Ljava/lang/String;", sig := { parameters := [.int, .int], returnType := some (.object "java/lang/String") }, accessFlags := 1, code := some k7c4 }
def k7c5 : Code := { maxStack := 4, maxLocals := 6, code := jdk_42_method_149_code, exceptionTable := #[], attributes := #[] }
def k7m5 : Method := { name := "<init>", desc := "([CIILjava/lang/Void;)V", sig := { parameters := [(.array .char), .int, .int, (.object "java/lang/Void")], returnType := none }, accessFlags := 2, code := some k7c5 }
def k7c6 : Code := { maxStack := 2, maxLocals := 3, code := jdk_42_method_151_code, exceptionTable := #[], attributes := #[] }
def k7m6 : Method := { name := "<init>", desc := "([BB)V", sig := { parameters := [(.array .byte), .byte], returnType := none }, accessFlags := 0, code := some k7c6 }
def k7c7 : Code := { maxStack := 1, maxLocals := 1, code := jdk_42_method_152_code, exceptionTable := #[], attributes := #[] }
def k7m7 : Method := { name := "coder", desc := "()B", sig := { parameters := [], returnType := some .byte }, accessFlags := 0, code := some k7c7 }
def k7c8 : Code := { maxStack := 1, maxLocals := 1, code := jdk_42_method_154_code, exceptionTable := #[], attributes := #[] }
def k7m8 : Method := { name := "isLatin1", desc := "()Z", sig := { parameters := [], returnType := some .boolean }, accessFlags := 0, code := some k7c8 }
def k7c9 : Code := { maxStack := 3, maxLocals := 2, code := jdk_42_method_155_code, exceptionTable := #[], attributes := #[] }
def k7m9 : Method := { name := "checkIndex", desc := "(II)V", sig := { parameters := [.int, .int], returnType := none }, accessFlags := 8, code := some k7c9 }
def k7c10 : Code := { maxStack := 4, maxLocals := 3, code := jdk_42_method_157_code, exceptionTable := #[], attributes := #[] }
def k7m10 : Method := { name := "checkBoundsOffCount", desc := "(III)I", sig := { parameters := [.int, .int, .int], returnType := some .int }, accessFlags := 8, code := some k7c10 }
def k7c11 : Code := { maxStack := 4, maxLocals := 3, code := jdk_42_method_158_code, exceptionTable := #[], attributes := #[] }
def k7m11 : Method := { name := "checkBoundsBeginEnd", desc := "(III)V", sig := { parameters := [.int, .int, .int], returnType := none }, accessFlags := 8, code := some k7c11 }
/-- java/lang/String -/
def k7 : Class := { plain "java/lang/String" (some 0) with
  accessFlags := 49
  interfaces := #[2, 3, 4, 5, 6]
  cf := some (fileOf pool7 10 #[.nestMembers #[1103]] #[{ accessFlags := 1, nameIndex := 5, descriptorIndex := 6, attributes := #[] }, { accessFlags := 1, nameIndex := 5, descriptorIndex := 1010, attributes := #[] }, { accessFlags := 1, nameIndex := 507, descriptorIndex := 334, attributes := #[] }, { accessFlags := 1, nameIndex := 497, descriptorIndex := 427, attributes := #[] }, { accessFlags := 1, nameIndex := 683, descriptorIndex := 684, attributes := #[] }, { accessFlags := 2, nameIndex := 5, descriptorIndex := 29, attributes := #[] }, { accessFlags := 0, nameIndex := 5, descriptorIndex := 211, attributes := #[] }, { accessFlags := 0, nameIndex := 17, descriptorIndex := 337, attributes := #[] }, { accessFlags := 0, nameIndex := 494, descriptorIndex := 142, attributes := #[] }, { accessFlags := 8, nameIndex := 501, descriptorIndex := 391, attributes := #[] }, { accessFlags := 8, nameIndex := 36, descriptorIndex := 37, attributes := #[] }, { accessFlags := 8, nameIndex := 523, descriptorIndex := 524, attributes := #[] }] 49 2 #[1106, 1108, 575, 1110, 1112] #[{ accessFlags := 18, nameIndex := 13, descriptorIndex := 14, attributes := #[] }, { accessFlags := 18, nameIndex := 17, descriptorIndex := 18, attributes := #[] }, { accessFlags := 2, nameIndex := 21, descriptorIndex := 22, attributes := #[] }, { accessFlags := 2, nameIndex := 25, descriptorIndex := 26, attributes := #[] }, { accessFlags := 26, nameIndex := 1116, descriptorIndex := 1117, attributes := #[] }, { accessFlags := 24, nameIndex := 40, descriptorIndex := 26, attributes := #[] }, { accessFlags := 26, nameIndex := 1101, descriptorIndex := 1102, attributes := #[] }, { accessFlags := 26, nameIndex := 1121, descriptorIndex := 1122, attributes := #[] }, { accessFlags := 25, nameIndex := 599, descriptorIndex := 600, attributes := #[] }, { accessFlags := 24, nameIndex := 1125, descriptorIndex := 18, attributes := #[] }, { accessFlags := 24, nameIndex := 1127, descriptorIndex := 18, attributes := #[] }])
  fields := #[{ name := "value", type := (.array .byte), accessFlags := 18, slot := 0, constantValue := 0 }, { name := "coder", type := .byte, accessFlags := 18, slot := 1, constantValue := 0 }, { name := "hash", type := .int, accessFlags := 2, slot := 2, constantValue := 0 }, { name := "hashIsZero", type := .boolean, accessFlags := 2, slot := 3, constantValue := 0 }, { name := "serialVersionUID", type := .long, accessFlags := 26, slot := 0, constantValue := 0 }, { name := "COMPACT_STRINGS", type := .boolean, accessFlags := 24, slot := 1, constantValue := 0 }, { name := "serialPersistentFields", type := (.array (.object "java/io/ObjectStreamField")), accessFlags := 26, slot := 2, constantValue := 0 }, { name := "REPL", type := .char, accessFlags := 26, slot := 3, constantValue := 0 }, { name := "CASE_INSENSITIVE_ORDER", type := (.object "java/util/Comparator"), accessFlags := 25, slot := 4, constantValue := 0 }, { name := "LATIN1", type := .byte, accessFlags := 24, slot := 5, constantValue := 0 }, { name := "UTF16", type := .byte, accessFlags := 24, slot := 6, constantValue := 0 }]
  methods := #[k7m0, k7m1, k7m2, k7m3, k7m4, k7m5, k7m6, k7m7, k7m8, k7m9, k7m10, k7m11]
  instanceTypes := #[(.array .byte), .byte, .int, .boolean]
  staticTypes := #[.long, .boolean, (.array (.object "java/io/ObjectStreamField")), .char, (.object "java/util/Comparator"), .byte, .byte]
  resolved := Array.replicate 1451 none
  statics := some 0 }

def pool8 : Array CpInfo := pool [(2, .class_ 4), (1, u "java/lang/Object"), (0, u "<init>"), (0, u "()V"), (0, .methodref 8 9), (0, .class_ 10), (0, .nameAndType 11 12), (0, u "java/lang/String"), (0, u "length"), (0, u "()I"), (0, .methodref 8 14), (0, .nameAndType 15 16), (0, u "charAt"), (0, u "(I)C"), (0, .methodref 18 19), (0, .class_ 20), (0, .nameAndType 21 22), (0, u "com/example/nay1/nay1/lexicon/LexiconLine"), (0, u "isWhiteSpace"), (0, u "(C)Z"), (0, .methodref 8 24), (0, .nameAndType 25 26), (0, u "substring"), (0, u "(II)Ljava/lang/String;"), (2, u "entry"), (0, u "(Ljava/lang/String;)Ljava/lang/String;")] 3

def k8m0 : Method := { name := "<init>", desc := "()V", sig := { parameters := [], returnType := none }, accessFlags := 2, code := none }
def k8c1 : Code := { maxStack := 3, maxLocals := 3, code := prog_41_method_2_code, exceptionTable := #[], attributes := #[] }
def k8m1 : Method := { name := "entry", desc := "(Ljava/lang/String;)Ljava/lang/String;", sig := { parameters := [(.object "java/lang/String")], returnType := some (.object "java/lang/String") }, accessFlags := 9, code := some k8c1 }
def k8c2 : Code := { maxStack := 2, maxLocals := 1, code := prog_41_method_3_code, exceptionTable := #[], attributes := #[] }
def k8m2 : Method := { name := "isWhiteSpace", desc := "(C)Z", sig := { parameters := [.char], returnType := some .boolean }, accessFlags := 10, code := some k8c2 }
/-- com/example/nay1/nay1/lexicon/LexiconLine -/
def k8 : Class := { plain "com/example/nay1/nay1/lexicon/LexiconLine" (some 0) with
  accessFlags := 49
  interfaces := #[]
  cf := some (fileOf pool8 18 #[] #[{ accessFlags := 2, nameIndex := 5, descriptorIndex := 6, attributes := #[] }, { accessFlags := 9, nameIndex := 29, descriptorIndex := 30, attributes := #[] }, { accessFlags := 10, nameIndex := 21, descriptorIndex := 22, attributes := #[] }] 49 2 #[] #[])
  fields := #[]
  methods := #[k8m0, k8m1, k8m2]
  instanceTypes := #[]
  staticTypes := #[]
  resolved := Array.replicate 34 none
  statics := none }

def pool9 : Array CpInfo := pool [(2, .class_ 4), (1, u "java/lang/Object"), (0, u "<init>"), (0, u "()V"), (17, .class_ 26), (1, u "jdk/internal/util/Preconditions"), (6, u "checkIndex"), (13, u "checkFromToIndex"), (1, u "checkFromIndexSize"), (5, .class_ 56), (0, u "jdk/internal/util/Preconditions$4"), (57, .class_ 115), (0, u "jdk/internal/util/Preconditions$1"), (7, u "SIOOBE_FORMATTER"), (0, u "Ljava/util/function/BiFunction;"), (0, .class_ 126), (0, u "jdk/internal/util/Preconditions$2"), (3, u "AIOOBE_FORMATTER"), (0, .class_ 132), (0, u "jdk/internal/util/Preconditions$3"), (3, u "IOOBE_FORMATTER"), (41, u "(IILjava/util/function/BiFunction;)I"), (4, u "(IIILjava/util/function/BiFunction;)I")] 10

def k9m0 : Method := { name := "<init>", desc := "()V", sig := { parameters := [], returnType := none }, accessFlags := 1, code := none }
def k9c1 : Code := { maxStack := 3, maxLocals := 3, code := jdk_41_method_11_code, exceptionTable := #[], attributes := #[] }
def k9m1 : Method := { name := "checkIndex", desc := "(IILjava/util/function/BiFunction;)I", sig := { parameters := [.int, .int, (.object "java/util/function/BiFunction")], returnType := some .int }, accessFlags := 9, code := some k9c1 }
def k9c2 : Code := { maxStack := 4, maxLocals := 4, code := jdk_41_method_12_code, exceptionTable := #[], attributes := #[] }
def k9m2 : Method := { name := "checkFromToIndex", desc := "(IIILjava/util/function/BiFunction;)I", sig := { parameters := [.int, .int, .int, (.object "java/util/function/BiFunction")], returnType := some .int }, accessFlags := 9, code := some k9c2 }
def k9c3 : Code := { maxStack := 4, maxLocals := 4, code := jdk_41_method_13_code, exceptionTable := #[], attributes := #[] }
def k9m3 : Method := { name := "checkFromIndexSize", desc := "(IIILjava/util/function/BiFunction;)I", sig := { parameters := [.int, .int, .int, (.object "java/util/function/BiFunction")], returnType := some .int }, accessFlags := 9, code := some k9c3 }
/-- jdk/internal/util/Preconditions -/
def k9 : Class := { plain "jdk/internal/util/Preconditions" (some 0) with
  accessFlags := 33
  interfaces := #[]
  cf := some (fileOf pool9 24 #[.nestMembers #[55, 131, 125, 114]] #[{ accessFlags := 1, nameIndex := 5, descriptorIndex := 6, attributes := #[] }, { accessFlags := 9, nameIndex := 33, descriptorIndex := 178, attributes := #[] }, { accessFlags := 9, nameIndex := 47, descriptorIndex := 183, attributes := #[] }, { accessFlags := 9, nameIndex := 49, descriptorIndex := 183, attributes := #[] }] 33 2 #[] #[{ accessFlags := 25, nameIndex := 123, descriptorIndex := 124, attributes := #[] }, { accessFlags := 25, nameIndex := 130, descriptorIndex := 124, attributes := #[] }, { accessFlags := 25, nameIndex := 136, descriptorIndex := 124, attributes := #[] }])
  fields := #[{ name := "SIOOBE_FORMATTER", type := (.object "java/util/function/BiFunction"), accessFlags := 25, slot := 0, constantValue := 0 }, { name := "AIOOBE_FORMATTER", type := (.object "java/util/function/BiFunction"), accessFlags := 25, slot := 1, constantValue := 0 }, { name := "IOOBE_FORMATTER", type := (.object "java/util/function/BiFunction"), accessFlags := 25, slot := 2, constantValue := 0 }]
  methods := #[k9m0, k9m1, k9m2, k9m3]
  instanceTypes := #[]
  staticTypes := #[(.object "java/util/function/BiFunction"), (.object "java/util/function/BiFunction"), (.object "java/util/function/BiFunction")]
  resolved := Array.replicate 194 none
  statics := some 1 }

def pool10 : Array CpInfo := pool [(3, .class_ 4), (0, u "java/lang/String"), (1, .class_ 8), (1, u "java/lang/Object"), (0, u "<init>"), (0, u "()V"), (0, .methodref 12 13), (0, .class_ 14), (0, .nameAndType 15 16), (0, u "java/lang/StringUTF16"), (0, u "newBytesLength"), (0, u "(I)I"), (3, .integer 1073741823), (23, .fieldref 12 45), (0, .nameAndType 46 47), (0, u "$assertionsDisabled"), (0, u "Z"), (0, .methodref 12 49), (0, .nameAndType 50 51), (0, u "length"), (0, u "([B)I"), (7, .fieldref 12 60), (0, .nameAndType 61 62), (0, u "HI_BYTE_SHIFT"), (0, u "I"), (0, .fieldref 12 64), (0, .nameAndType 65 62), (0, u "LO_BYTE_SHIFT"), (1, .methodref 12 68), (0, .nameAndType 69 70), (0, u "checkIndex"), (0, u "(I[B)V"), (0, .methodref 12 72), (0, .nameAndType 73 74), (0, u "getChar"), (0, u "([BI)C"), (24, u "(II[B)V"), (7, .methodref 12 108), (0, .nameAndType 109 110), (0, u "newBytesFor"), (0, u "(I)[B"), (0, .methodref 12 112), (0, .nameAndType 113 114), (0, u "putChar"), (0, u "([BII)V"), (0, .methodref 12 116), (0, .nameAndType 117 118), (0, u "compress"), (0, u "([CI[BII)I"), (0, .methodref 12 120), (0, .nameAndType 121 122), (0, u "toBytes"), (0, u "([CII)[B"), (0, .methodref 12 124), (0, .nameAndType 117 125), (0, u "([BI[BII)I"), (0, .methodref 127 128), (0, .class_ 129), (0, .nameAndType 130 131), (0, u "java/util/Arrays"), (0, u "copyOfRange"), (0, u "([BII)[B"), (41, .methodref 12 174), (0, .nameAndType 175 99), (0, u "checkBoundsOffCount"), (75, .fieldref 3 252), (0, .nameAndType 253 47), (0, u "COMPACT_STRINGS"), (3, .methodref 12 258), (0, .nameAndType 117 131), (0, .methodref 12 260), (0, .nameAndType 261 262), (0, u "coderFromArrayLen"), (0, u "([BI)B"), (0, .methodref 3 264), (0, .nameAndType 9 265), (0, u "([BB)V"), (15, u "(III)I"), (13, .string 296), (0, u ""), (30, u "newString"), (0, u "([BII)Ljava/lang/String;"), (40, .class_ 371), (1, u "java/lang/StringUTF16$LinesSpliterator"), (20, u "charAt"), (21, .methodref 3 415), (0, .nameAndType 69 416), (0, u "(II)V"), (2, .methodref 3 420), (0, .nameAndType 175 281), (9, u "MAX_LENGTH"), (196, .class_ 628), (0, u "java/lang/StringUTF16$CodePointsSpliterator"), (0, .class_ 630), (0, u "java/lang/StringUTF16$CharsSpliterator")] 4

def k10m0 : Method := { name := "<init>", desc := "()V", sig := { parameters := [], returnType := none }, accessFlags := 0, code := none }
def k10c1 : Code := { maxStack := 1, maxLocals := 1, code := jdk_52_method_2_code, exceptionTable := #[], attributes := #[] }
def k10m1 : Method := { name := "newBytesFor", desc := "(I)[B", sig := { parameters := [.int], returnType := some (.array .byte) }, accessFlags := 9, code := some k10c1 }
def k10c2 : Code := { maxStack := 4, maxLocals := 1, code := jdk_52_method_3_code, exceptionTable := #[], attributes := #[] }
def k10m2 : Method := { name := "newBytesLength", desc := "(I)I", sig := { parameters := [.int], returnType := some .int }, accessFlags := 9, code := some k10c2 }
def k10c3 : Code := { maxStack := 4, maxLocals := 3, code := jdk_52_method_4_code, exceptionTable := #[], attributes := #[] }
def k10m3 : Method := { name := "putChar", desc := "([BII)V", sig := { parameters := [(.array .byte), .int, .int], returnType := none }, accessFlags := 8, code := some k10c3 }
def k10c4 : Code := { maxStack := 3, maxLocals := 2, code := jdk_52_method_5_code, exceptionTable := #[], attributes := #[] }
def k10m4 : Method := { name := "getChar", desc := "([BI)C", sig := { parameters := [(.array .byte), .int], returnType := some .char }, accessFlags := 8, code := some k10c4 }
def k10c5 : Code := { maxStack := 2, maxLocals := 1, code := jdk_52_method_6_code, exceptionTable := #[], attributes := #[] }
def k10m5 : Method := { name := "length", desc := "([B)I", sig := { parameters := [(.array .byte)], returnType := some .int }, accessFlags := 9, code := some k10c5 }
def k10c6 : Code := { maxStack := 4, maxLocals := 5, code := jdk_52_method_14_code, exceptionTable := #[], attributes := #[] }
def k10m6 : Method := { name := "toBytes", desc := "([CII)[B", sig := { parameters := [(.array .char), .int, .int], returnType := some (.array .byte) }, accessFlags := 9, code := some k10c6 }
def k10c7 : Code := { maxStack := 2, maxLocals := 2, code := jdk_52_method_15_code, exceptionTable := #[], attributes := #[] }
def k10m7 : Method := { name := "coderFromArrayLen", desc := "([BI)B", sig := { parameters := [(.array .byte), .int], returnType := some .byte }, accessFlags := 8, code := some k10c7 }
def k10c8 : Code := { maxStack := 5, maxLocals := 6, code := jdk_52_method_16_code, exceptionTable := #[], attributes := #[] }
def k10m8 : Method := { name := "compress", desc := "([CII)[B", sig := { parameters := [(.array .char), .int, .int], returnType := some (.array .byte) }, accessFlags := 9, code := some k10c8 }
def k10c9 : Code := { maxStack := 5, maxLocals := 6, code := jdk_52_method_17_code, exceptionTable := #[], attributes := #[] }
def k10m9 : Method := { name := "compress", desc := "([BII)[B", sig := { parameters := [(.array .byte), .int, .int], returnType := some (.array .byte) }, accessFlags := 9, code := some k10c9 }
def k10c10 : Code := { maxStack := 3, maxLocals := 7, code := jdk_52_method_21_code, exceptionTable := #[], attributes := #[] }
def k10m10 : Method := { name := "compress", desc := "([CI[BII)I", sig := { parameters := [(.array .char), .int, (.array .byte), .int, .int], returnType := some .int }, accessFlags := 9, code := some k10c10 }
def k10c11 : Code := { maxStack := 3, maxLocals := 7, code := jdk_52_method_22_code, exceptionTable := #[], attributes := #[] }
def k10m11 : Method := { name := "compress", desc := "([BI[BII)I", sig := { parameters := [(.array .byte), .int, (.array .byte), .int, .int], returnType := some .int }, accessFlags := 9, code := some k10c11 }
def k10c12 : Code := { maxStack := 6, maxLocals := 5, code := jdk_52_method_69_code, exceptionTable := #[], attributes := #[] }
def k10m12 : Method := { name := "newString", desc := "([BII)Ljava/lang/String;", sig := { parameters := [(.array .byte), .int, .int], returnType := some (.object "java/lang/String") }, accessFlags := 9, code := some k10c12 }
def k10c13 : Code := { maxStack := 2, maxLocals := 2, code := jdk_52_method_83_code, exceptionTable := #[], attributes := #[] }
def k10m13 : Method := { name := "charAt", desc := "([BI)C", sig := { parameters := [(.array .byte), .int], returnType := some .char }, accessFlags := 9, code := some k10c13 }
def k10c14 : Code := { maxStack := 2, maxLocals := 2, code := jdk_52_method_91_code, exceptionTable := #[], attributes := #[] }
def k10m14 : Method := { name := "checkIndex", desc := "(I[B)V", sig := { parameters := [.int, (.array .byte)], returnType := none }, accessFlags := 9, code := some k10c14 }
def k10c15 : Code := { maxStack := 3, maxLocals := 3, code := jdk_52_method_94_code, exceptionTable := #[], attributes := #[] }
def k10m15 : Method := { name := "checkBoundsOffCount", desc := "(II[B)V", sig := { parameters := [.int, .int, (.array .byte)], returnType := none }, accessFlags := 9, code := some k10c15 }
/-- java/lang/StringUTF16 -/
def k10 : Class := { plain "java/lang/StringUTF16" (some 0) with
  accessFlags := 48
  interfaces := #[]
  cf := some (fileOf pool10 12 #[.nestMembers #[627, 629, 369]] #[{ accessFlags := 0, nameIndex := 9, descriptorIndex := 10, attributes := #[] }, { accessFlags := 9, nameIndex := 109, descriptorIndex := 110, attributes := #[] }, { accessFlags := 9, nameIndex := 15, descriptorIndex := 16, attributes := #[] }, { accessFlags := 8, nameIndex := 113, descriptorIndex := 114, attributes := #[] }, { accessFlags := 8, nameIndex := 73, descriptorIndex := 74, attributes := #[] }, { accessFlags := 9, nameIndex := 50, descriptorIndex := 51, attributes := #[] }, { accessFlags := 9, nameIndex := 121, descriptorIndex := 122, attributes := #[] }, { accessFlags := 8, nameIndex := 261, descriptorIndex := 262, attributes := #[] }, { accessFlags := 9, nameIndex := 117, descriptorIndex := 122, attributes := #[] }, { accessFlags := 9, nameIndex := 117, descriptorIndex := 131, attributes := #[] }, { accessFlags := 9, nameIndex := 117, descriptorIndex := 118, attributes := #[] }, { accessFlags := 9, nameIndex := 117, descriptorIndex := 125, attributes := #[] }, { accessFlags := 9, nameIndex := 327, descriptorIndex := 328, attributes := #[] }, { accessFlags := 9, nameIndex := 392, descriptorIndex := 74, attributes := #[] }, { accessFlags := 9, nameIndex := 69, descriptorIndex := 70, attributes := #[] }, { accessFlags := 9, nameIndex := 175, descriptorIndex := 99, attributes := #[] }] 48 6 #[] #[{ accessFlags := 26, nameIndex := 61, descriptorIndex := 62, attributes := #[] }, { accessFlags := 26, nameIndex := 65, descriptorIndex := 62, attributes := #[] }, { accessFlags := 24, nameIndex := 430, descriptorIndex := 62, attributes := #[] }, { accessFlags := 4120, nameIndex := 46, descriptorIndex := 47, attributes := #[] }])
  fields := #[{ name := "HI_BYTE_SHIFT", type := .int, accessFlags := 26, slot := 0, constantValue := 0 }, { name := "LO_BYTE_SHIFT", type := .int, accessFlags := 26, slot := 1, constantValue := 0 }, { name := "MAX_LENGTH", type := .int, accessFlags := 24, slot := 2, constantValue := 0 }, { name := "$assertionsDisabled", type := .boolean, accessFlags := 4120, slot := 3, constantValue := 0 }]
  methods := #[k10m0, k10m1, k10m2, k10m3, k10m4, k10m5, k10m6, k10m7, k10m8, k10m9, k10m10, k10m11, k10m12, k10m13, k10m14, k10m15]
  instanceTypes := #[]
  staticTypes := #[.int, .int, .int, .boolean]
  resolved := Array.replicate 635 none
  statics := some 2 }

def pool11 : Array CpInfo := pool [(1, .class_ 2), (0, u "java/lang/String"), (1, .class_ 6), (1, u "java/lang/Object"), (0, u "<init>"), (0, u "()V"), (0, .methodref 1 10), (0, .nameAndType 11 12), (0, u "checkIndex"), (0, u "(II)V"), (1, .class_ 16), (1, u "java/lang/StringLatin1"), (36, u "([BI)C"), (58, .methodref 1 113), (0, .nameAndType 7 114), (0, u "([BB)V"), (6, u "$assertionsDisabled"), (0, u "Z"), (8, .class_ 133), (1, u "java/util/Arrays"), (17, .string 152), (0, u ""), (43, u "newString"), (0, u "([BII)Ljava/lang/String;"), (23, .class_ 223), (1, u "java/lang/StringLatin1$LinesSpliterator"), (8, .methodref 131 233), (0, .nameAndType 234 235), (0, u "copyOfRange"), (0, u "([BII)[B"), (16, u "charAt"), (137, .class_ 391), (0, u "java/lang/StringLatin1$CharsSpliterator")] 3

def k11m0 : Method := { name := "<init>", desc := "()V", sig := { parameters := [], returnType := none }, accessFlags := 0, code := none }
def k11c1 : Code := { maxStack := 2, maxLocals := 2, code := jdk_43_method_2_code, exceptionTable := #[], attributes := #[] }
def k11m1 : Method := { name := "charAt", desc := "([BI)C", sig := { parameters := [(.array .byte), .int], returnType := some .char }, accessFlags := 9, code := some k11c1 }
def k11c2 : Code := { maxStack := 6, maxLocals := 3, code := jdk_43_method_47_code, exceptionTable := #[], attributes := #[] }
def k11m2 : Method := { name := "newString", desc := "([BII)Ljava/lang/String;", sig := { parameters := [(.array .byte), .int, .int], returnType := some (.object "java/lang/String") }, accessFlags := 9, code := some k11c2 }
/-- java/lang/StringLatin1 -/
def k11 : Class := { plain "java/lang/StringLatin1" (some 0) with
  accessFlags := 48
  interfaces := #[]
  cf := some (fileOf pool11 14 #[.nestMembers #[390, 221]] #[{ accessFlags := 0, nameIndex := 7, descriptorIndex := 8, attributes := #[] }, { accessFlags := 9, nameIndex := 252, descriptorIndex := 53, attributes := #[] }, { accessFlags := 9, nameIndex := 196, descriptorIndex := 197, attributes := #[] }] 48 4 #[] #[{ accessFlags := 4120, nameIndex := 121, descriptorIndex := 122, attributes := #[] }])
  fields := #[{ name := "$assertionsDisabled", type := .boolean, accessFlags := 4120, slot := 0, constantValue := 0 }]
  methods := #[k11m0, k11m1, k11m2]
  instanceTypes := #[]
  staticTypes := #[.boolean]
  resolved := Array.replicate 395 none
  statics := none }

def pool12 : Array CpInfo := pool [(2, .class_ 4), (1, u "java/lang/Object"), (0, u "<init>"), (0, u "()V"), (7, .class_ 16), (1, u "java/util/Arrays"), (57, .class_ 76), (1, u "java/util/Arrays$NaturalOrder"), (36, .class_ 115), (1, u "java/util/Arrays$LegacyMergeSort"), (1, u "Z"), (21, u "copyOfRange"), (10, .methodref 151 152), (0, .class_ 153), (0, .nameAndType 154 155), (0, u "java/lang/System"), (0, u "arraycopy"), (0, u "(Ljava/lang/Object;ILjava/lang/Object;II)V"), (148, .methodref 305 306), (0, .class_ 307), (0, .nameAndType 308 309), (0, u "java/lang/Math"), (0, u "min"), (0, u "(II)I"), (29, .methodref 14 340), (0, .nameAndType 341 342), (0, u "copyOfRangeByte"), (0, u "([BII)[B"), (0, .methodref 14 344), (0, .nameAndType 345 346), (0, u "checkLength"), (0, u "(II)V"), (28, .class_ 376), (0, u "java/util/Arrays$ArrayList"), (68, u "$assertionsDisabled"), (269, u "MIN_ARRAY_SORT_GRAN"), (0, u "I"), (2, u "INSERTIONSORT_THRESHOLD"), (255, .class_ 976), (0, u "java/util/Arrays$ArrayItr")] 52

def k12m0 : Method := { name := "<init>", desc := "()V", sig := { parameters := [], returnType := none }, accessFlags := 2, code := none }
def k12c1 : Code := { maxStack := 4, maxLocals := 2, code := jdk_65_method_131_code, exceptionTable := #[], attributes := #[] }
def k12m1 : Method := { name := "checkLength", desc := "(II)V", sig := { parameters := [.int, .int], returnType := none }, accessFlags := 10, code := some k12c1 }
def k12c2 : Code := { maxStack := 3, maxLocals := 3, code := jdk_65_method_132_code, exceptionTable := #[], attributes := #[] }
def k12m2 : Method := { name := "copyOfRange", desc := "([BII)[B", sig := { parameters := [(.array .byte), .int, .int], returnType := some (.array .byte) }, accessFlags := 9, code := some k12c2 }
def k12c3 : Code := { maxStack := 6, maxLocals := 5, code := jdk_65_method_133_code, exceptionTable := #[], attributes := #[] }
def k12m3 : Method := { name := "copyOfRangeByte", desc := "([BII)[B", sig := { parameters := [(.array .byte), .int, .int], returnType := some (.array .byte) }, accessFlags := 10, code := some k12c3 }
/-- java/util/Arrays -/
def k12 : Class := { plain "java/util/Arrays" (some 0) with
  accessFlags := 49
  interfaces := #[]
  cf := some (fileOf pool12 14 #[.nestMembers #[975, 375, 113, 74]] #[{ accessFlags := 2, nameIndex := 5, descriptorIndex := 6, attributes := #[] }, { accessFlags := 10, nameIndex := 345, descriptorIndex := 346, attributes := #[] }, { accessFlags := 9, nameIndex := 139, descriptorIndex := 342, attributes := #[] }, { accessFlags := 10, nameIndex := 341, descriptorIndex := 342, attributes := #[] }] 49 2 #[] #[{ accessFlags := 26, nameIndex := 715, descriptorIndex := 716, attributes := #[] }, { accessFlags := 26, nameIndex := 719, descriptorIndex := 716, attributes := #[] }, { accessFlags := 4120, nameIndex := 445, descriptorIndex := 117, attributes := #[] }])
  fields := #[{ name := "MIN_ARRAY_SORT_GRAN", type := .int, accessFlags := 26, slot := 0, constantValue := 0 }, { name := "INSERTIONSORT_THRESHOLD", type := .int, accessFlags := 26, slot := 1, constantValue := 0 }, { name := "$assertionsDisabled", type := .boolean, accessFlags := 4120, slot := 2, constantValue := 0 }]
  methods := #[k12m0, k12m1, k12m2, k12m3]
  instanceTypes := #[]
  staticTypes := #[.int, .int, .boolean]
  resolved := Array.replicate 1029 none
  statics := none }

def pool13 : Array CpInfo := pool [(1, .class_ 2), (0, u "java/lang/Math"), (1, .class_ 6), (1, u "java/lang/Object"), (0, u "<init>"), (0, u "()V"), (89, .class_ 100), (1, u "java/lang/Math$RandomNumberGeneratorHolder"), (71, u "negativeZeroFloatBits"), (0, u "J"), (2, u "negativeZeroDoubleBits"), (24, u "min"), (43, u "$assertionsDisabled"), (0, u "Z"), (88, u "(II)I"), (2, u "twoToTheDoubleScaleDown"), (0, u "D"), (4, u "twoToTheDoubleScaleUp"), (9, u "E"), (3, u "PI"), (2, u "TAU"), (2, u "DEGREES_TO_RADIANS"), (0, u "RADIANS_TO_DEGREES")] 94

def k13m0 : Method := { name := "<init>", desc := "()V", sig := { parameters := [], returnType := none }, accessFlags := 2, code := none }
def k13c1 : Code := { maxStack := 2, maxLocals := 2, code := jdk_29_method_69_code, exceptionTable := #[], attributes := #[] }
def k13m1 : Method := { name := "min", desc := "(II)I", sig := { parameters := [.int, .int], returnType := some .int }, accessFlags := 9, code := some k13c1 }
/-- java/lang/Math -/
def k13 : Class := { plain "java/lang/Math" (some 0) with
  accessFlags := 49
  interfaces := #[]
  cf := some (fileOf pool13 1 #[.nestMembers #[98]] #[{ accessFlags := 2, nameIndex := 7, descriptorIndex := 8, attributes := #[] }, { accessFlags := 9, nameIndex := 201, descriptorIndex := 335, attributes := #[] }] 49 4 #[] #[{ accessFlags := 25, nameIndex := 354, descriptorIndex := 339, attributes := #[] }, { accessFlags := 25, nameIndex := 358, descriptorIndex := 339, attributes := #[] }, { accessFlags := 25, nameIndex := 361, descriptorIndex := 339, attributes := #[] }, { accessFlags := 26, nameIndex := 364, descriptorIndex := 339, attributes := #[] }, { accessFlags := 26, nameIndex := 365, descriptorIndex := 339, attributes := #[] }, { accessFlags := 26, nameIndex := 172, descriptorIndex := 173, attributes := #[] }, { accessFlags := 26, nameIndex := 176, descriptorIndex := 173, attributes := #[] }, { accessFlags := 8, nameIndex := 344, descriptorIndex := 339, attributes := #[] }, { accessFlags := 8, nameIndex := 338, descriptorIndex := 339, attributes := #[] }, { accessFlags := 4120, nameIndex := 245, descriptorIndex := 246, attributes := #[] }])
  fields := #[{ name := "E", type := .double, accessFlags := 25, slot := 0, constantValue := 0 }, { name := "PI", type := .double, accessFlags := 25, slot := 1, constantValue := 0 }, { name := "TAU", type := .double, accessFlags := 25, slot := 2, constantValue := 0 }, { name := "DEGREES_TO_RADIANS", type := .double, accessFlags := 26, slot := 3, constantValue := 0 }, { name := "RADIANS_TO_DEGREES", type := .double, accessFlags := 26, slot := 4, constantValue := 0 }, { name := "negativeZeroFloatBits", type := .long, accessFlags := 26, slot := 5, constantValue := 0 }, { name := "negativeZeroDoubleBits", type := .long, accessFlags := 26, slot := 6, constantValue := 0 }, { name := "twoToTheDoubleScaleUp", type := .double, accessFlags := 8, slot := 7, constantValue := 0 }, { name := "twoToTheDoubleScaleDown", type := .double, accessFlags := 8, slot := 8, constantValue := 0 }, { name := "$assertionsDisabled", type := .boolean, accessFlags := 4120, slot := 9, constantValue := 0 }]
  methods := #[k13m0, k13m1]
  instanceTypes := #[]
  staticTypes := #[.double, .double, .double, .double, .double, .long, .long, .double, .double, .boolean]
  resolved := Array.replicate 460 none
  statics := none }

def pool14 : Array CpInfo := pool [(2, .class_ 4), (1, u "java/lang/Object"), (0, u "<init>"), (0, u "()V"), (1, .class_ 10), (1, u "java/lang/System"), (0, u "allowSecurityManager"), (0, u "I"), (16, u "cons"), (0, u "Ljava/io/Console;"), (77, .class_ 110), (1, u "java/lang/System$CallersHolder"), (43, u "initialErrStream"), (0, u "Ljava/io/PrintStream;"), (19, u "security"), (0, u "Ljava/lang/SecurityManager;"), (31, .class_ 209), (0, u "java/lang/System$1"), (7, u "props"), (0, u "Ljava/util/Properties;"), (2, u "lineSeparator"), (0, u "Ljava/lang/String;"), (96, .class_ 321), (1, u "java/lang/System$LoggerFinder"), (5, .class_ 328), (0, u "java/lang/System$Logger"), (67, u "err"), (2, u "out"), (91, u "notSupportedJnuEncoding"), (15, u "in"), (17, u "initialIn"), (0, u "Ljava/io/InputStream;"), (35, u "bootLayer"), (0, u "Ljava/lang/ModuleLayer;"), (99, .class_ 664), (0, u "java/lang/System$2"), (9, u "NEVER"), (2, u "MAYBE"), (49, u "arraycopy"), (0, u "(Ljava/lang/Object;ILjava/lang/Object;II)V"), (72, .class_ 802), (0, u "java/lang/System$Logger$Level")] 31

def k14m0 : Method := { name := "<init>", desc := "()V", sig := { parameters := [], returnType := none }, accessFlags := 2, code := none }
def k14m1 : Method := { name := "arraycopy", desc := "(Ljava/lang/Object;ILjava/lang/Object;II)V", sig := { parameters := [(.object "java/lang/Object"), .int, (.object "java/lang/Object"), .int, .int], returnType := none }, accessFlags := 265, code := none }
/-- java/lang/System -/
def k14 : Class := { plain "java/lang/System" (some 0) with
  accessFlags := 49
  interfaces := #[]
  cf := some (fileOf pool14 8 #[.nestMembers #[319, 327, 801, 108, 663, 208]] #[{ accessFlags := 2, nameIndex := 5, descriptorIndex := 6, attributes := #[] }, { accessFlags := 265, nameIndex := 727, descriptorIndex := 728, attributes := #[] }] 49 2 #[] #[{ accessFlags := 25, nameIndex := 507, descriptorIndex := 526, attributes := #[] }, { accessFlags := 25, nameIndex := 399, descriptorIndex := 155, attributes := #[] }, { accessFlags := 25, nameIndex := 396, descriptorIndex := 155, attributes := #[] }, { accessFlags := 10, nameIndex := 525, descriptorIndex := 526, attributes := #[] }, { accessFlags := 26, nameIndex := 674, descriptorIndex := 12, attributes := #[] }, { accessFlags := 26, nameIndex := 677, descriptorIndex := 12, attributes := #[] }, { accessFlags := 10, nameIndex := 11, descriptorIndex := 12, attributes := #[] }, { accessFlags := 74, nameIndex := 175, descriptorIndex := 176, attributes := #[] }, { accessFlags := 10, nameIndex := 491, descriptorIndex := 222, attributes := #[] }, { accessFlags := 74, nameIndex := 29, descriptorIndex := 30, attributes := #[] }, { accessFlags := 74, nameIndex := 154, descriptorIndex := 155, attributes := #[] }, { accessFlags := 10, nameIndex := 217, descriptorIndex := 218, attributes := #[] }, { accessFlags := 10, nameIndex := 221, descriptorIndex := 222, attributes := #[] }, { accessFlags := 8, nameIndex := 562, descriptorIndex := 563, attributes := #[] }])
  fields := #[{ name := "in", type := (.object "java/io/InputStream"), accessFlags := 25, slot := 0, constantValue := 0 }, { name := "out", type := (.object "java/io/PrintStream"), accessFlags := 25, slot := 1, constantValue := 0 }, { name := "err", type := (.object "java/io/PrintStream"), accessFlags := 25, slot := 2, constantValue := 0 }, { name := "initialIn", type := (.object "java/io/InputStream"), accessFlags := 10, slot := 3, constantValue := 0 }, { name := "NEVER", type := .int, accessFlags := 26, slot := 4, constantValue := 0 }, { name := "MAYBE", type := .int, accessFlags := 26, slot := 5, constantValue := 0 }, { name := "allowSecurityManager", type := .int, accessFlags := 10, slot := 6, constantValue := 0 }, { name := "security", type := (.object "java/lang/SecurityManager"), accessFlags := 74, slot := 7, constantValue := 0 }, { name := "notSupportedJnuEncoding", type := (.object "java/lang/String"), accessFlags := 10, slot := 8, constantValue := 0 }, { name := "cons", type := (.object "java/io/Console"), accessFlags := 74, slot := 9, constantValue := 0 }, { name := "initialErrStream", type := (.object "java/io/PrintStream"), accessFlags := 74, slot := 10, constantValue := 0 }, { name := "props", type := (.object "java/util/Properties"), accessFlags := 10, slot := 11, constantValue := 0 }, { name := "lineSeparator", type := (.object "java/lang/String"), accessFlags := 10, slot := 12, constantValue := 0 }, { name := "bootLayer", type := (.object "java/lang/ModuleLayer"), accessFlags := 8, slot := 13, constantValue := 0 }]
  methods := #[k14m0, k14m1]
  instanceTypes := #[]
  staticTypes := #[(.object "java/io/InputStream"), (.object "java/io/PrintStream"), (.object "java/io/PrintStream"), (.object "java/io/InputStream"), .int, .int, .int, (.object "java/lang/SecurityManager"), (.object "java/lang/String"), (.object "java/io/Console"), (.object "java/io/PrintStream"), (.object "java/util/Properties"), (.object "java/lang/String"), (.object "java/lang/ModuleLayer")]
  resolved := Array.replicate 834 none
  statics := none }

def pool15 : Array CpInfo := pool [(9, u "<init>"), (6, .class_ 18), (1, u "java/lang/Object"), (0, u "()V"), (1, .class_ 23), (1, u "jdk/internal/util/ArraysSupport"), (0, u "LOG2_ARRAY_LONG_INDEX_SCALE"), (0, u "I"), (2, u "U"), (0, u "Ljdk/internal/misc/Unsafe;"), (8, u "BIG_ENDIAN"), (0, u "Z"), (8, u "LOG2_BYTE_BIT_SIZE"), (4, u "LOG2_ARRAY_INT_INDEX_SCALE"), (54, u "JLA"), (0, u "Ljdk/internal/access/JavaLangAccess;"), (11, u "LOG2_ARRAY_BOOLEAN_INDEX_SCALE"), (9, u "LOG2_ARRAY_BYTE_INDEX_SCALE"), (5, u "LOG2_ARRAY_CHAR_INDEX_SCALE"), (5, u "LOG2_ARRAY_SHORT_INDEX_SCALE"), (18, u "LOG2_ARRAY_FLOAT_INDEX_SCALE"), (24, u "LOG2_ARRAY_DOUBLE_INDEX_SCALE"), (89, u "T_BOOLEAN"), (2, u "T_CHAR"), (1, u "T_FLOAT"), (1, u "T_DOUBLE"), (1, u "T_BYTE"), (1, u "T_SHORT"), (1, u "T_INT"), (1, u "T_LONG"), (1, u "SOFT_MAX_ARRAY_LENGTH")] 83

def k15m0 : Method := { name := "<init>", desc := "()V", sig := { parameters := [], returnType := none }, accessFlags := 2, code := none }
/-- jdk/internal/util/ArraysSupport -/
def k15 : Class := { plain "jdk/internal/util/ArraysSupport" (some 0) with
  accessFlags := 33
  interfaces := #[]
  cf := some (fileOf pool15 21 #[] #[{ accessFlags := 2, nameIndex := 9, descriptorIndex := 19, attributes := #[] }] 33 16 #[] #[{ accessFlags := 24, nameIndex := 28, descriptorIndex := 29, attributes := #[] }, { accessFlags := 26, nameIndex := 38, descriptorIndex := 39, attributes := #[] }, { accessFlags := 25, nameIndex := 121, descriptorIndex := 25, attributes := #[] }, { accessFlags := 25, nameIndex := 131, descriptorIndex := 25, attributes := #[] }, { accessFlags := 25, nameIndex := 137, descriptorIndex := 25, attributes := #[] }, { accessFlags := 25, nameIndex := 143, descriptorIndex := 25, attributes := #[] }, { accessFlags := 25, nameIndex := 53, descriptorIndex := 25, attributes := #[] }, { accessFlags := 25, nameIndex := 24, descriptorIndex := 25, attributes := #[] }, { accessFlags := 25, nameIndex := 162, descriptorIndex := 25, attributes := #[] }, { accessFlags := 25, nameIndex := 187, descriptorIndex := 25, attributes := #[] }, { accessFlags := 26, nameIndex := 48, descriptorIndex := 25, attributes := #[] }, { accessFlags := 25, nameIndex := 277, descriptorIndex := 25, attributes := #[] }, { accessFlags := 25, nameIndex := 280, descriptorIndex := 25, attributes := #[] }, { accessFlags := 25, nameIndex := 282, descriptorIndex := 25, attributes := #[] }, { accessFlags := 25, nameIndex := 284, descriptorIndex := 25, attributes := #[] }, { accessFlags := 25, nameIndex := 286, descriptorIndex := 25, attributes := #[] }, { accessFlags := 25, nameIndex := 288, descriptorIndex := 25, attributes := #[] }, { accessFlags := 25, nameIndex := 290, descriptorIndex := 25, attributes := #[] }, { accessFlags := 25, nameIndex := 292, descriptorIndex := 25, attributes := #[] }, { accessFlags := 26, nameIndex := 108, descriptorIndex := 109, attributes := #[] }, { accessFlags := 25, nameIndex := 294, descriptorIndex := 25, attributes := #[] }])
  fields := #[{ name := "U", type := (.object "jdk/internal/misc/Unsafe"), accessFlags := 24, slot := 0, constantValue := 0 }, { name := "BIG_ENDIAN", type := .boolean, accessFlags := 26, slot := 1, constantValue := 0 }, { name := "LOG2_ARRAY_BOOLEAN_INDEX_SCALE", type := .int, accessFlags := 25, slot := 2, constantValue := 0 }, { name := "LOG2_ARRAY_BYTE_INDEX_SCALE", type := .int, accessFlags := 25, slot := 3, constantValue := 0 }, { name := "LOG2_ARRAY_CHAR_INDEX_SCALE", type := .int, accessFlags := 25, slot := 4, constantValue := 0 }, { name := "LOG2_ARRAY_SHORT_INDEX_SCALE", type := .int, accessFlags := 25, slot := 5, constantValue := 0 }, { name := "LOG2_ARRAY_INT_INDEX_SCALE", type := .int, accessFlags := 25, slot := 6, constantValue := 0 }, { name := "LOG2_ARRAY_LONG_INDEX_SCALE", type := .int, accessFlags := 25, slot := 7, constantValue := 0 }, { name := "LOG2_ARRAY_FLOAT_INDEX_SCALE", type := .int, accessFlags := 25, slot := 8, constantValue := 0 }, { name := "LOG2_ARRAY_DOUBLE_INDEX_SCALE", type := .int, accessFlags := 25, slot := 9, constantValue := 0 }, { name := "LOG2_BYTE_BIT_SIZE", type := .int, accessFlags := 26, slot := 10, constantValue := 0 }, { name := "T_BOOLEAN", type := .int, accessFlags := 25, slot := 11, constantValue := 0 }, { name := "T_CHAR", type := .int, accessFlags := 25, slot := 12, constantValue := 0 }, { name := "T_FLOAT", type := .int, accessFlags := 25, slot := 13, constantValue := 0 }, { name := "T_DOUBLE", type := .int, accessFlags := 25, slot := 14, constantValue := 0 }, { name := "T_BYTE", type := .int, accessFlags := 25, slot := 15, constantValue := 0 }, { name := "T_SHORT", type := .int, accessFlags := 25, slot := 16, constantValue := 0 }, { name := "T_INT", type := .int, accessFlags := 25, slot := 17, constantValue := 0 }, { name := "T_LONG", type := .int, accessFlags := 25, slot := 18, constantValue := 0 }, { name := "JLA", type := (.object "jdk/internal/access/JavaLangAccess"), accessFlags := 26, slot := 19, constantValue := 0 }, { name := "SOFT_MAX_ARRAY_LENGTH", type := .int, accessFlags := 25, slot := 20, constantValue := 0 }]
  methods := #[k15m0]
  instanceTypes := #[]
  staticTypes := #[(.object "jdk/internal/misc/Unsafe"), .boolean, .int, .int, .int, .int, .int, .int, .int, .int, .int, .int, .int, .int, .int, .int, .int, .int, .int, (.object "jdk/internal/access/JavaLangAccess"), .int]
  resolved := Array.replicate 378 none
  statics := none }

def pool16 : Array CpInfo := pool [(1, u "java/lang/Cloneable"), (0, .class_ 1), (0, u "java/lang/Object"), (0, .class_ 3)] 3

/-- java/lang/Cloneable -/
def k16 : Class := { plain "java/lang/Cloneable" (some 0) with
  accessFlags := 1537
  interfaces := #[]
  cf := some (fileOf pool16 2 #[] #[] 1537 4 #[] #[])
  fields := #[]
  methods := #[]
  instanceTypes := #[]
  staticTypes := #[]
  resolved := Array.replicate 8 none
  statics := none }

/-- the primitive byte -/
def k17 : Class := { plain "byte" none with kind := .primitive 'B', accessFlags := 0x411 }
/-- [B -/
def k18 : Class := { plain "[B" (some 0) with kind := .array 17 .byte, interfaces := #[16, 2], accessFlags := 1041 }

/-- the primitive char -/
def k19 : Class := { plain "char" none with kind := .primitive 'C', accessFlags := 0x411 }
/-- [C -/
def k20 : Class := { plain "[C" (some 0) with kind := .array 19 .char, interfaces := #[16, 2], accessFlags := 1041 }

/-- the primitive int -/
def k21 : Class := { plain "int" none with kind := .primitive 'I', accessFlags := 0x411 }
/-- [I -/
def k22 : Class := { plain "[I" (some 0) with kind := .array 21 .int, interfaces := #[16, 2], accessFlags := 1041 }

def heap : Heap := #[{ cls := 7, slots := #[.long 0, .int 1, .null, .int 0, .null, .int 0, .int 0], vm := .statics 7 },
  { cls := 9, slots := #[.null, .null, .null], vm := .statics 9 },
  { cls := 10, slots := #[.int 0, .int 8, .int 0, .int 1], vm := .statics 10 }]
def classes : Array Class := #[k0, k1, k2, k3, k4, k5, k6, k7, k8, k9, k10, k11, k12, k13, k14, k15, k16, k17, k18, k19, k20, k21, k22]
def interned : List (Array UInt16 × Addr) := []
def slotsUsed : Nat := 14
def theMethod : MethodId := ⟨1, 1⟩
def args0 : Array Value := #[.int 5, .int 6, .int 7, .int 2, .int 65]
def aboutOver (below : List Frame) : State where
  vm := { classes := classes, interned := interned.toArray }
  heap := heap
  slotsUsed := slotsUsed
  threads := #[{ frames := .invoking theMethod args0 :: below }]
def below0 : List Frame := [.native { method := ⟨0, 0⟩, args := #[] }]
def about1 : State := aboutOver below0
def p0 : Program := .bare "" "" ""
def e0 : Env := launch0.env 0 0 0
theorem w_frames : about1.frames = Frame.invoking theMethod args0 :: below0 := rfl
set_option maxRecDepth 65536 in
theorem w_args : argsFit about1.vm theMethod args0 = true := by decide +kernel
set_option maxRecDepth 65536 in
theorem w_heap : heapFits about1 = true := by decide +kernel
set_option maxRecDepth 65536 in
theorem w_runnable : about1.curStatus? = some .runnable := by decide +kernel
set_option maxRecDepth 65536 in
theorem w_alone : about1.alone = true := by decide +kernel
set_option maxRecDepth 65536 in
theorem w_named : about1.methodNamed? x = some theMethod := by decide +kernel
set_option maxRecDepth 65536 in
theorem w_hears : about1.hears theMethod below0 = true := by decide +kernel
set_option maxRecDepth 65536 in
theorem w_ripe : about1.ripe theMethod args0 below0 = true := by decide +kernel
theorem w_running : about1.status = .running := rfl
set_option maxRecDepth 65536 in
theorem w_room : about1.hasRoom e0.platform room_1 = true :=
  launch0.hasRoom_least _ room_1 (by decide +kernel) (by decide +kernel) (by decide +kernel) (by decide +kernel) (by decide +kernel) (by decide +kernel)
theorem allAtoms_all (ts : List Jvm.Cond) (a : Array Jvm.Value) (st : Jvm.State) : (allAtoms ts).before a st = ts.all (fun c => c.before a st) := by
  induction ts with
  | nil => rfl
  | cons c t ih =>
    show (Jvm.Cond.and c (allAtoms t)).before a st = _
    rw [Jvm.Cond.before_and, ih, List.all_cons]
def words1 : List Jvm.Cond := Jvm.Cond.code x code maxLocals ret :: tables_1
/-- a 'code' word, met by the world's own term for the bytes: nothing is compared byte by byte -/
theorem code_word {y : MethodName} {bytes : ByteArray} {mx : Nat} {rt : Option FieldType} {a : Array Value} {s : State} {m : MethodId} {meth : Method} {c : Code} (h1 : s.methodNamed? y = some m) (h2 : s.vm.method? m = some meth) (h3 : meth.code = some c) (h4 : c.code = bytes)
    (h5 : (c.maxLocals == mx && c.exceptionTable.isEmpty && decide (c.maxStack ≤ mostOperands) && decide (meth.sig.returnType = rt) && !meth.locks && decide (parseMethodDescriptor y.desc = some meth.sig)) = true) : (Jvm.Cond.code y bytes mx rt).before a s = true := by
  simp only [Bool.and_eq_true, beq_iff_eq, Bool.not_eq_true', decide_eq_true_eq] at h5
  obtain ⟨⟨⟨⟨⟨g1, g2⟩, g3⟩, g4⟩, g5⟩, g6⟩ := h5
  simp [Cond.before, Cond.holds, Cond.value, h1, h2, h3, h4, g1, g2, g3, g4, g5, g6]
def isCode : Jvm.Cond → Bool
  | .code _ _ _ _ => true
  | _ => false
theorem all_split {L : List Jvm.Cond} {P : Jvm.Cond → Bool} (h1 : L.all (fun c => isCode c || P c) = true) (h2 : ∀ c ∈ L.filter isCode, P c = true) : L.all P = true := by
  refine List.all_eq_true.mpr fun c hc => ?_
  have h := List.all_eq_true.mp h1 c hc
  rcases Bool.eq_false_or_eq_true (isCode c) with hi | hi
  · exact h2 c (List.mem_filter.mpr ⟨hc, hi⟩)
  · simpa [hi] using h
set_option maxRecDepth 65536 in
theorem w_c0 : (Jvm.Cond.code x code maxLocals ret).before args0 about1 = true := code_word (m := ⟨1, 1⟩) (meth := k1m1) (c := k1c1) (by decide +kernel) rfl rfl rfl (by decide +kernel)
set_option maxRecDepth 65536 in
theorem w_c1 : (Jvm.Cond.code ({ cls := "com/example/nay1/nay1/lexicon/LexiconLineEntryPinLaw", name := "pick", desc := "(I)C" } : Jvm.MethodName) method_3_code (4 : Nat) (Option.some Jvm.ClassFile.FieldType.char)).before args0 about1 = true := code_word (m := ⟨1, 2⟩) (meth := k1m2) (c := k1c2) (by decide +kernel) rfl rfl rfl (by decide +kernel)
set_option maxRecDepth 65536 in
theorem w_c2 : (Jvm.Cond.code ({ cls := "java/lang/String", name := "<init>", desc := "([C)V" } : Jvm.MethodName) jdk_42_method_3_code (2 : Nat) (Option.none : Option Jvm.ClassFile.FieldType)).before args0 about1 = true := code_word (m := ⟨7, 1⟩) (meth := k7m1) (c := k7c1) (by decide +kernel) rfl rfl rfl (by decide +kernel)
set_option maxRecDepth 65536 in
theorem w_c3 : (Jvm.Cond.code ({ cls := "java/lang/String", name := "<init>", desc := "([CIILjava/lang/Void;)V" } : Jvm.MethodName) jdk_42_method_149_code (6 : Nat) (Option.none : Option Jvm.ClassFile.FieldType)).before args0 about1 = true := code_word (m := ⟨7, 5⟩) (meth := k7m5) (c := k7c5) (by decide +kernel) rfl rfl rfl (by decide +kernel)
set_option maxRecDepth 65536 in
theorem w_c4 : (Jvm.Cond.code ({ cls := "java/lang/Object", name := "<init>", desc := "()V" } : Jvm.MethodName) object_method_1_code (1 : Nat) (Option.none : Option Jvm.ClassFile.FieldType)).before args0 about1 = true := code_word (m := ⟨0, 0⟩) (meth := k0m0) (c := k0c0) (by decide +kernel) rfl rfl rfl (by decide +kernel)
set_option maxRecDepth 65536 in
theorem w_c5 : (Jvm.Cond.code ({ cls := "com/example/nay1/nay1/lexicon/LexiconLine", name := "entry", desc := "(Ljava/lang/String;)Ljava/lang/String;" } : Jvm.MethodName) prog_41_method_2_code (3 : Nat) (Option.some (Jvm.ClassFile.FieldType.object "java/lang/String"))).before args0 about1 = true := code_word (m := ⟨8, 1⟩) (meth := k8m1) (c := k8c1) (by decide +kernel) rfl rfl rfl (by decide +kernel)
set_option maxRecDepth 65536 in
theorem w_c6 : (Jvm.Cond.code ({ cls := "java/lang/String", name := "length", desc := "()I" } : Jvm.MethodName) jdk_42_method_54_code (1 : Nat) (Option.some Jvm.ClassFile.FieldType.int)).before args0 about1 = true := code_word (m := ⟨7, 2⟩) (meth := k7m2) (c := k7c2) (by decide +kernel) rfl rfl rfl (by decide +kernel)
set_option maxRecDepth 65536 in
theorem w_c7 : (Jvm.Cond.code ({ cls := "java/lang/String", name := "coder", desc := "()B" } : Jvm.MethodName) jdk_42_method_152_code (1 : Nat) (Option.some Jvm.ClassFile.FieldType.byte)).before args0 about1 = true := code_word (m := ⟨7, 7⟩) (meth := k7m7) (c := k7c7) (by decide +kernel) rfl rfl rfl (by decide +kernel)
set_option maxRecDepth 65536 in
theorem w_c8 : (Jvm.Cond.code ({ cls := "java/lang/String", name := "substring", desc := "(II)Ljava/lang/String;" } : Jvm.MethodName) jdk_42_method_92_code (5 : Nat) (Option.some (Jvm.ClassFile.FieldType.object "java/lang/String"))).before args0 about1 = true := code_word (m := ⟨7, 4⟩) (meth := k7m4) (c := k7c4) (by decide +kernel) rfl rfl rfl (by decide +kernel)
set_option maxRecDepth 65536 in
theorem w_c9 : (Jvm.Cond.code ({ cls := "java/lang/String", name := "checkBoundsBeginEnd", desc := "(III)V" } : Jvm.MethodName) jdk_42_method_158_code (3 : Nat) (Option.none : Option Jvm.ClassFile.FieldType)).before args0 about1 = true := code_word (m := ⟨7, 11⟩) (meth := k7m11) (c := k7c11) (by decide +kernel) rfl rfl rfl (by decide +kernel)
set_option maxRecDepth 65536 in
theorem w_c10 : (Jvm.Cond.code ({ cls := "jdk/internal/util/Preconditions", name := "checkFromToIndex", desc := "(IIILjava/util/function/BiFunction;)I" } : Jvm.MethodName) jdk_41_method_12_code (4 : Nat) (Option.some Jvm.ClassFile.FieldType.int)).before args0 about1 = true := code_word (m := ⟨9, 2⟩) (meth := k9m2) (c := k9c2) (by decide +kernel) rfl rfl rfl (by decide +kernel)
set_option maxRecDepth 65536 in
theorem w_c11 : (Jvm.Cond.code ({ cls := "java/lang/StringUTF16", name := "compress", desc := "([CII)[B" } : Jvm.MethodName) jdk_52_method_16_code (6 : Nat) (Option.some (Jvm.ClassFile.FieldType.array Jvm.ClassFile.FieldType.byte))).before args0 about1 = true := code_word (m := ⟨10, 8⟩) (meth := k10m8) (c := k10c8) (by decide +kernel) rfl rfl rfl (by decide +kernel)
set_option maxRecDepth 65536 in
theorem w_c12 : (Jvm.Cond.code ({ cls := "java/lang/StringUTF16", name := "compress", desc := "([CI[BII)I" } : Jvm.MethodName) jdk_52_method_21_code (7 : Nat) (Option.some Jvm.ClassFile.FieldType.int)).before args0 about1 = true := code_word (m := ⟨10, 10⟩) (meth := k10m10) (c := k10c10) (by decide +kernel) rfl rfl rfl (by decide +kernel)
set_option maxRecDepth 65536 in
theorem w_c13 : (Jvm.Cond.code ({ cls := "java/lang/StringUTF16", name := "coderFromArrayLen", desc := "([BI)B" } : Jvm.MethodName) jdk_52_method_15_code (2 : Nat) (Option.some Jvm.ClassFile.FieldType.byte)).before args0 about1 = true := code_word (m := ⟨10, 7⟩) (meth := k10m7) (c := k10c7) (by decide +kernel) rfl rfl rfl (by decide +kernel)
set_option maxRecDepth 65536 in
theorem w_c14 : (Jvm.Cond.code ({ cls := "java/lang/String", name := "charAt", desc := "(I)C" } : Jvm.MethodName) jdk_42_method_56_code (2 : Nat) (Option.some Jvm.ClassFile.FieldType.char)).before args0 about1 = true := code_word (m := ⟨7, 3⟩) (meth := k7m3) (c := k7c3) (by decide +kernel) rfl rfl rfl (by decide +kernel)
set_option maxRecDepth 65536 in
theorem w_c15 : (Jvm.Cond.code ({ cls := "java/lang/String", name := "isLatin1", desc := "()Z" } : Jvm.MethodName) jdk_42_method_154_code (1 : Nat) (Option.some Jvm.ClassFile.FieldType.boolean)).before args0 about1 = true := code_word (m := ⟨7, 8⟩) (meth := k7m8) (c := k7c8) (by decide +kernel) rfl rfl rfl (by decide +kernel)
set_option maxRecDepth 65536 in
theorem w_c16 : (Jvm.Cond.code ({ cls := "java/lang/StringLatin1", name := "charAt", desc := "([BI)C" } : Jvm.MethodName) jdk_43_method_2_code (2 : Nat) (Option.some Jvm.ClassFile.FieldType.char)).before args0 about1 = true := code_word (m := ⟨11, 1⟩) (meth := k11m1) (c := k11c1) (by decide +kernel) rfl rfl rfl (by decide +kernel)
set_option maxRecDepth 65536 in
theorem w_c17 : (Jvm.Cond.code ({ cls := "java/lang/String", name := "checkIndex", desc := "(II)V" } : Jvm.MethodName) jdk_42_method_155_code (2 : Nat) (Option.none : Option Jvm.ClassFile.FieldType)).before args0 about1 = true := code_word (m := ⟨7, 9⟩) (meth := k7m9) (c := k7c9) (by decide +kernel) rfl rfl rfl (by decide +kernel)
set_option maxRecDepth 65536 in
theorem w_c18 : (Jvm.Cond.code ({ cls := "jdk/internal/util/Preconditions", name := "checkIndex", desc := "(IILjava/util/function/BiFunction;)I" } : Jvm.MethodName) jdk_41_method_11_code (3 : Nat) (Option.some Jvm.ClassFile.FieldType.int)).before args0 about1 = true := code_word (m := ⟨9, 1⟩) (meth := k9m1) (c := k9c1) (by decide +kernel) rfl rfl rfl (by decide +kernel)
set_option maxRecDepth 65536 in
theorem w_c19 : (Jvm.Cond.code ({ cls := "com/example/nay1/nay1/lexicon/LexiconLine", name := "isWhiteSpace", desc := "(C)Z" } : Jvm.MethodName) prog_41_method_3_code (1 : Nat) (Option.some Jvm.ClassFile.FieldType.boolean)).before args0 about1 = true := code_word (m := ⟨8, 2⟩) (meth := k8m2) (c := k8c2) (by decide +kernel) rfl rfl rfl (by decide +kernel)
set_option maxRecDepth 65536 in
theorem w_c20 : (Jvm.Cond.code ({ cls := "java/lang/StringLatin1", name := "newString", desc := "([BII)Ljava/lang/String;" } : Jvm.MethodName) jdk_43_method_47_code (3 : Nat) (Option.some (Jvm.ClassFile.FieldType.object "java/lang/String"))).before args0 about1 = true := code_word (m := ⟨11, 2⟩) (meth := k11m2) (c := k11c2) (by decide +kernel) rfl rfl rfl (by decide +kernel)
set_option maxRecDepth 65536 in
theorem w_c21 : (Jvm.Cond.code ({ cls := "java/util/Arrays", name := "copyOfRange", desc := "([BII)[B" } : Jvm.MethodName) jdk_65_method_132_code (3 : Nat) (Option.some (Jvm.ClassFile.FieldType.array Jvm.ClassFile.FieldType.byte))).before args0 about1 = true := code_word (m := ⟨12, 2⟩) (meth := k12m2) (c := k12c2) (by decide +kernel) rfl rfl rfl (by decide +kernel)
set_option maxRecDepth 65536 in
theorem w_c22 : (Jvm.Cond.code ({ cls := "java/util/Arrays", name := "copyOfRangeByte", desc := "([BII)[B" } : Jvm.MethodName) jdk_65_method_133_code (5 : Nat) (Option.some (Jvm.ClassFile.FieldType.array Jvm.ClassFile.FieldType.byte))).before args0 about1 = true := code_word (m := ⟨12, 3⟩) (meth := k12m3) (c := k12c3) (by decide +kernel) rfl rfl rfl (by decide +kernel)
set_option maxRecDepth 65536 in
theorem w_c23 : (Jvm.Cond.code ({ cls := "java/util/Arrays", name := "checkLength", desc := "(II)V" } : Jvm.MethodName) jdk_65_method_131_code (2 : Nat) (Option.none : Option Jvm.ClassFile.FieldType)).before args0 about1 = true := code_word (m := ⟨12, 1⟩) (meth := k12m1) (c := k12c1) (by decide +kernel) rfl rfl rfl (by decide +kernel)
set_option maxRecDepth 65536 in
theorem w_c24 : (Jvm.Cond.code ({ cls := "java/lang/Math", name := "min", desc := "(II)I" } : Jvm.MethodName) jdk_29_method_69_code (2 : Nat) (Option.some Jvm.ClassFile.FieldType.int)).before args0 about1 = true := code_word (m := ⟨13, 1⟩) (meth := k13m1) (c := k13c1) (by decide +kernel) rfl rfl rfl (by decide +kernel)
set_option maxRecDepth 65536 in
theorem w_c25 : (Jvm.Cond.code ({ cls := "java/lang/String", name := "<init>", desc := "([BB)V" } : Jvm.MethodName) jdk_42_method_151_code (3 : Nat) (Option.none : Option Jvm.ClassFile.FieldType)).before args0 about1 = true := code_word (m := ⟨7, 6⟩) (meth := k7m6) (c := k7c6) (by decide +kernel) rfl rfl rfl (by decide +kernel)
set_option maxRecDepth 65536 in
theorem w_c26 : (Jvm.Cond.code ({ cls := "com/example/nay1/nay1/lexicon/LexiconLineEntryPinLaw", name := "isWs", desc := "(C)Z" } : Jvm.MethodName) method_4_code (1 : Nat) (Option.some Jvm.ClassFile.FieldType.boolean)).before args0 about1 = true := code_word (m := ⟨1, 3⟩) (meth := k1m3) (c := k1c3) (by decide +kernel) rfl rfl rfl (by decide +kernel)
set_option maxRecDepth 65536 in
theorem w_c27 : (Jvm.Cond.code ({ cls := "java/lang/StringUTF16", name := "toBytes", desc := "([CII)[B" } : Jvm.MethodName) jdk_52_method_14_code (5 : Nat) (Option.some (Jvm.ClassFile.FieldType.array Jvm.ClassFile.FieldType.byte))).before args0 about1 = true := code_word (m := ⟨10, 6⟩) (meth := k10m6) (c := k10c6) (by decide +kernel) rfl rfl rfl (by decide +kernel)
set_option maxRecDepth 65536 in
theorem w_c28 : (Jvm.Cond.code ({ cls := "java/lang/StringUTF16", name := "newBytesFor", desc := "(I)[B" } : Jvm.MethodName) jdk_52_method_2_code (1 : Nat) (Option.some (Jvm.ClassFile.FieldType.array Jvm.ClassFile.FieldType.byte))).before args0 about1 = true := code_word (m := ⟨10, 1⟩) (meth := k10m1) (c := k10c1) (by decide +kernel) rfl rfl rfl (by decide +kernel)
set_option maxRecDepth 65536 in
theorem w_c29 : (Jvm.Cond.code ({ cls := "java/lang/StringUTF16", name := "newBytesLength", desc := "(I)I" } : Jvm.MethodName) jdk_52_method_3_code (1 : Nat) (Option.some Jvm.ClassFile.FieldType.int)).before args0 about1 = true := code_word (m := ⟨10, 2⟩) (meth := k10m2) (c := k10c2) (by decide +kernel) rfl rfl rfl (by decide +kernel)
set_option maxRecDepth 65536 in
theorem w_c30 : (Jvm.Cond.code ({ cls := "java/lang/StringUTF16", name := "putChar", desc := "([BII)V" } : Jvm.MethodName) jdk_52_method_4_code (3 : Nat) (Option.none : Option Jvm.ClassFile.FieldType)).before args0 about1 = true := code_word (m := ⟨10, 3⟩) (meth := k10m3) (c := k10c3) (by decide +kernel) rfl rfl rfl (by decide +kernel)
set_option maxRecDepth 65536 in
theorem w_c31 : (Jvm.Cond.code ({ cls := "java/lang/StringUTF16", name := "getChar", desc := "([BI)C" } : Jvm.MethodName) jdk_52_method_5_code (2 : Nat) (Option.some Jvm.ClassFile.FieldType.char)).before args0 about1 = true := code_word (m := ⟨10, 4⟩) (meth := k10m4) (c := k10c4) (by decide +kernel) rfl rfl rfl (by decide +kernel)
set_option maxRecDepth 65536 in
theorem w_c32 : (Jvm.Cond.code ({ cls := "java/lang/StringUTF16", name := "charAt", desc := "([BI)C" } : Jvm.MethodName) jdk_52_method_83_code (2 : Nat) (Option.some Jvm.ClassFile.FieldType.char)).before args0 about1 = true := code_word (m := ⟨10, 13⟩) (meth := k10m13) (c := k10c13) (by decide +kernel) rfl rfl rfl (by decide +kernel)
set_option maxRecDepth 65536 in
theorem w_c33 : (Jvm.Cond.code ({ cls := "java/lang/StringUTF16", name := "checkIndex", desc := "(I[B)V" } : Jvm.MethodName) jdk_52_method_91_code (2 : Nat) (Option.none : Option Jvm.ClassFile.FieldType)).before args0 about1 = true := code_word (m := ⟨10, 14⟩) (meth := k10m14) (c := k10c14) (by decide +kernel) rfl rfl rfl (by decide +kernel)
set_option maxRecDepth 65536 in
theorem w_c34 : (Jvm.Cond.code ({ cls := "java/lang/StringUTF16", name := "length", desc := "([B)I" } : Jvm.MethodName) jdk_52_method_6_code (1 : Nat) (Option.some Jvm.ClassFile.FieldType.int)).before args0 about1 = true := code_word (m := ⟨10, 5⟩) (meth := k10m5) (c := k10c5) (by decide +kernel) rfl rfl rfl (by decide +kernel)
set_option maxRecDepth 65536 in
theorem w_c35 : (Jvm.Cond.code ({ cls := "java/lang/StringUTF16", name := "newString", desc := "([BII)Ljava/lang/String;" } : Jvm.MethodName) jdk_52_method_69_code (5 : Nat) (Option.some (Jvm.ClassFile.FieldType.object "java/lang/String"))).before args0 about1 = true := code_word (m := ⟨10, 12⟩) (meth := k10m12) (c := k10c12) (by decide +kernel) rfl rfl rfl (by decide +kernel)
set_option maxRecDepth 65536 in
theorem w_c36 : (Jvm.Cond.code ({ cls := "java/lang/StringUTF16", name := "compress", desc := "([BII)[B" } : Jvm.MethodName) jdk_52_method_17_code (6 : Nat) (Option.some (Jvm.ClassFile.FieldType.array Jvm.ClassFile.FieldType.byte))).before args0 about1 = true := code_word (m := ⟨10, 9⟩) (meth := k10m9) (c := k10c9) (by decide +kernel) rfl rfl rfl (by decide +kernel)
set_option maxRecDepth 65536 in
theorem w_c37 : (Jvm.Cond.code ({ cls := "java/lang/StringUTF16", name := "compress", desc := "([BI[BII)I" } : Jvm.MethodName) jdk_52_method_22_code (7 : Nat) (Option.some Jvm.ClassFile.FieldType.int)).before args0 about1 = true := code_word (m := ⟨10, 11⟩) (meth := k10m11) (c := k10c11) (by decide +kernel) rfl rfl rfl (by decide +kernel)
set_option maxRecDepth 65536 in
theorem w_c38 : (Jvm.Cond.code ({ cls := "java/lang/StringUTF16", name := "checkBoundsOffCount", desc := "(II[B)V" } : Jvm.MethodName) jdk_52_method_94_code (3 : Nat) (Option.none : Option Jvm.ClassFile.FieldType)).before args0 about1 = true := code_word (m := ⟨10, 15⟩) (meth := k10m15) (c := k10c15) (by decide +kernel) rfl rfl rfl (by decide +kernel)
set_option maxRecDepth 65536 in
theorem w_c39 : (Jvm.Cond.code ({ cls := "java/lang/String", name := "checkBoundsOffCount", desc := "(III)I" } : Jvm.MethodName) jdk_42_method_157_code (3 : Nat) (Option.some Jvm.ClassFile.FieldType.int)).before args0 about1 = true := code_word (m := ⟨7, 10⟩) (meth := k7m10) (c := k7c10) (by decide +kernel) rfl rfl rfl (by decide +kernel)
set_option maxRecDepth 65536 in
theorem w_c40 : (Jvm.Cond.code ({ cls := "jdk/internal/util/Preconditions", name := "checkFromIndexSize", desc := "(IIILjava/util/function/BiFunction;)I" } : Jvm.MethodName) jdk_41_method_13_code (4 : Nat) (Option.some Jvm.ClassFile.FieldType.int)).before args0 about1 = true := code_word (m := ⟨9, 3⟩) (meth := k9m3) (c := k9c3) (by decide +kernel) rfl rfl rfl (by decide +kernel)
def codes1 : List Jvm.Cond := [Jvm.Cond.code x code maxLocals ret, Jvm.Cond.code ({ cls := "com/example/nay1/nay1/lexicon/LexiconLineEntryPinLaw", name := "pick", desc := "(I)C" } : Jvm.MethodName) method_3_code (4 : Nat) (Option.some Jvm.ClassFile.FieldType.char), Jvm.Cond.code ({ cls := "java/lang/String", name := "<init>", desc := "([C)V" } : Jvm.MethodName) jdk_42_method_3_code (2 : Nat) (Option.none : Option Jvm.ClassFile.FieldType), Jvm.Cond.code ({ cls := "java/lang/String", name := "<init>", desc := "([CIILjava/lang/Void;)V" } : Jvm.MethodName) jdk_42_method_149_code (6 : Nat) (Option.none : Option Jvm.ClassFile.FieldType), Jvm.Cond.code ({ cls := "java/lang/Object", name := "<init>", desc := "()V" } : Jvm.MethodName) object_method_1_code (1 : Nat) (Option.none : Option Jvm.ClassFile.FieldType), Jvm.Cond.code ({ cls := "com/example/nay1/nay1/lexicon/LexiconLine", name := "entry", desc := "(Ljava/lang/String;)Ljava/lang/String;" } : Jvm.MethodName) prog_41_method_2_code (3 : Nat) (Option.some (Jvm.ClassFile.FieldType.object "java/lang/String")), Jvm.Cond.code ({ cls := "java/lang/String", name := "length", desc := "()I" } : Jvm.MethodName) jdk_42_method_54_code (1 : Nat) (Option.some Jvm.ClassFile.FieldType.int), Jvm.Cond.code ({ cls := "java/lang/String", name := "coder", desc := "()B" } : Jvm.MethodName) jdk_42_method_152_code (1 : Nat) (Option.some Jvm.ClassFile.FieldType.byte), Jvm.Cond.code ({ cls := "java/lang/String", name := "substring", desc := "(II)Ljava/lang/String;" } : Jvm.MethodName) jdk_42_method_92_code (5 : Nat) (Option.some (Jvm.ClassFile.FieldType.object "java/lang/String")), Jvm.Cond.code ({ cls := "java/lang/String", name := "checkBoundsBeginEnd", desc := "(III)V" } : Jvm.MethodName) jdk_42_method_158_code (3 : Nat) (Option.none : Option Jvm.ClassFile.FieldType), Jvm.Cond.code ({ cls := "jdk/internal/util/Preconditions", name := "checkFromToIndex", desc := "(IIILjava/util/function/BiFunction;)I" } : Jvm.MethodName) jdk_41_method_12_code (4 : Nat) (Option.some Jvm.ClassFile.FieldType.int), Jvm.Cond.code ({ cls := "java/lang/StringUTF16", name := "compress", desc := "([CII)[B" } : Jvm.MethodName) jdk_52_method_16_code (6 : Nat) (Option.some (Jvm.ClassFile.FieldType.array Jvm.ClassFile.FieldType.byte)), Jvm.Cond.code ({ cls := "java/lang/StringUTF16", name := "compress", desc := "([CI[BII)I" } : Jvm.MethodName) jdk_52_method_21_code (7 : Nat) (Option.some Jvm.ClassFile.FieldType.int), Jvm.Cond.code ({ cls := "java/lang/StringUTF16", name := "coderFromArrayLen", desc := "([BI)B" } : Jvm.MethodName) jdk_52_method_15_code (2 : Nat) (Option.some Jvm.ClassFile.FieldType.byte), Jvm.Cond.code ({ cls := "java/lang/String", name := "charAt", desc := "(I)C" } : Jvm.MethodName) jdk_42_method_56_code (2 : Nat) (Option.some Jvm.ClassFile.FieldType.char), Jvm.Cond.code ({ cls := "java/lang/String", name := "isLatin1", desc := "()Z" } : Jvm.MethodName) jdk_42_method_154_code (1 : Nat) (Option.some Jvm.ClassFile.FieldType.boolean), Jvm.Cond.code ({ cls := "java/lang/StringLatin1", name := "charAt", desc := "([BI)C" } : Jvm.MethodName) jdk_43_method_2_code (2 : Nat) (Option.some Jvm.ClassFile.FieldType.char), Jvm.Cond.code ({ cls := "java/lang/String", name := "checkIndex", desc := "(II)V" } : Jvm.MethodName) jdk_42_method_155_code (2 : Nat) (Option.none : Option Jvm.ClassFile.FieldType), Jvm.Cond.code ({ cls := "jdk/internal/util/Preconditions", name := "checkIndex", desc := "(IILjava/util/function/BiFunction;)I" } : Jvm.MethodName) jdk_41_method_11_code (3 : Nat) (Option.some Jvm.ClassFile.FieldType.int), Jvm.Cond.code ({ cls := "com/example/nay1/nay1/lexicon/LexiconLine", name := "isWhiteSpace", desc := "(C)Z" } : Jvm.MethodName) prog_41_method_3_code (1 : Nat) (Option.some Jvm.ClassFile.FieldType.boolean), Jvm.Cond.code ({ cls := "java/lang/StringLatin1", name := "newString", desc := "([BII)Ljava/lang/String;" } : Jvm.MethodName) jdk_43_method_47_code (3 : Nat) (Option.some (Jvm.ClassFile.FieldType.object "java/lang/String")), Jvm.Cond.code ({ cls := "java/util/Arrays", name := "copyOfRange", desc := "([BII)[B" } : Jvm.MethodName) jdk_65_method_132_code (3 : Nat) (Option.some (Jvm.ClassFile.FieldType.array Jvm.ClassFile.FieldType.byte)), Jvm.Cond.code ({ cls := "java/util/Arrays", name := "copyOfRangeByte", desc := "([BII)[B" } : Jvm.MethodName) jdk_65_method_133_code (5 : Nat) (Option.some (Jvm.ClassFile.FieldType.array Jvm.ClassFile.FieldType.byte)), Jvm.Cond.code ({ cls := "java/util/Arrays", name := "checkLength", desc := "(II)V" } : Jvm.MethodName) jdk_65_method_131_code (2 : Nat) (Option.none : Option Jvm.ClassFile.FieldType), Jvm.Cond.code ({ cls := "java/lang/Math", name := "min", desc := "(II)I" } : Jvm.MethodName) jdk_29_method_69_code (2 : Nat) (Option.some Jvm.ClassFile.FieldType.int), Jvm.Cond.code ({ cls := "java/lang/String", name := "<init>", desc := "([BB)V" } : Jvm.MethodName) jdk_42_method_151_code (3 : Nat) (Option.none : Option Jvm.ClassFile.FieldType), Jvm.Cond.code ({ cls := "com/example/nay1/nay1/lexicon/LexiconLineEntryPinLaw", name := "isWs", desc := "(C)Z" } : Jvm.MethodName) method_4_code (1 : Nat) (Option.some Jvm.ClassFile.FieldType.boolean), Jvm.Cond.code ({ cls := "java/lang/StringUTF16", name := "toBytes", desc := "([CII)[B" } : Jvm.MethodName) jdk_52_method_14_code (5 : Nat) (Option.some (Jvm.ClassFile.FieldType.array Jvm.ClassFile.FieldType.byte)), Jvm.Cond.code ({ cls := "java/lang/StringUTF16", name := "newBytesFor", desc := "(I)[B" } : Jvm.MethodName) jdk_52_method_2_code (1 : Nat) (Option.some (Jvm.ClassFile.FieldType.array Jvm.ClassFile.FieldType.byte)), Jvm.Cond.code ({ cls := "java/lang/StringUTF16", name := "newBytesLength", desc := "(I)I" } : Jvm.MethodName) jdk_52_method_3_code (1 : Nat) (Option.some Jvm.ClassFile.FieldType.int), Jvm.Cond.code ({ cls := "java/lang/StringUTF16", name := "putChar", desc := "([BII)V" } : Jvm.MethodName) jdk_52_method_4_code (3 : Nat) (Option.none : Option Jvm.ClassFile.FieldType), Jvm.Cond.code ({ cls := "java/lang/StringUTF16", name := "getChar", desc := "([BI)C" } : Jvm.MethodName) jdk_52_method_5_code (2 : Nat) (Option.some Jvm.ClassFile.FieldType.char), Jvm.Cond.code ({ cls := "java/lang/StringUTF16", name := "charAt", desc := "([BI)C" } : Jvm.MethodName) jdk_52_method_83_code (2 : Nat) (Option.some Jvm.ClassFile.FieldType.char), Jvm.Cond.code ({ cls := "java/lang/StringUTF16", name := "checkIndex", desc := "(I[B)V" } : Jvm.MethodName) jdk_52_method_91_code (2 : Nat) (Option.none : Option Jvm.ClassFile.FieldType), Jvm.Cond.code ({ cls := "java/lang/StringUTF16", name := "length", desc := "([B)I" } : Jvm.MethodName) jdk_52_method_6_code (1 : Nat) (Option.some Jvm.ClassFile.FieldType.int), Jvm.Cond.code ({ cls := "java/lang/StringUTF16", name := "newString", desc := "([BII)Ljava/lang/String;" } : Jvm.MethodName) jdk_52_method_69_code (5 : Nat) (Option.some (Jvm.ClassFile.FieldType.object "java/lang/String")), Jvm.Cond.code ({ cls := "java/lang/StringUTF16", name := "compress", desc := "([BII)[B" } : Jvm.MethodName) jdk_52_method_17_code (6 : Nat) (Option.some (Jvm.ClassFile.FieldType.array Jvm.ClassFile.FieldType.byte)), Jvm.Cond.code ({ cls := "java/lang/StringUTF16", name := "compress", desc := "([BI[BII)I" } : Jvm.MethodName) jdk_52_method_22_code (7 : Nat) (Option.some Jvm.ClassFile.FieldType.int), Jvm.Cond.code ({ cls := "java/lang/StringUTF16", name := "checkBoundsOffCount", desc := "(II[B)V" } : Jvm.MethodName) jdk_52_method_94_code (3 : Nat) (Option.none : Option Jvm.ClassFile.FieldType), Jvm.Cond.code ({ cls := "java/lang/String", name := "checkBoundsOffCount", desc := "(III)I" } : Jvm.MethodName) jdk_42_method_157_code (3 : Nat) (Option.some Jvm.ClassFile.FieldType.int), Jvm.Cond.code ({ cls := "jdk/internal/util/Preconditions", name := "checkFromIndexSize", desc := "(IIILjava/util/function/BiFunction;)I" } : Jvm.MethodName) jdk_41_method_13_code (4 : Nat) (Option.some Jvm.ClassFile.FieldType.int)]
set_option maxRecDepth 65536 in
theorem codes_eq : words1.filter isCode = codes1 := rfl
theorem w_codes : ∀ c ∈ words1.filter isCode, c.before args0 about1 = true := by
  rw [codes_eq]
  intro c hc
  simp only [codes1, List.mem_cons, List.not_mem_nil, or_false] at hc
  rcases hc with rfl | rfl | rfl | rfl | rfl | rfl | rfl | rfl | rfl | rfl | rfl | rfl | rfl | rfl | rfl | rfl | rfl | rfl | rfl | rfl | rfl | rfl | rfl | rfl | rfl | rfl | rfl | rfl | rfl | rfl | rfl | rfl | rfl | rfl | rfl | rfl | rfl | rfl | rfl | rfl | rfl
  · exact w_c0
  · exact w_c1
  · exact w_c2
  · exact w_c3
  · exact w_c4
  · exact w_c5
  · exact w_c6
  · exact w_c7
  · exact w_c8
  · exact w_c9
  · exact w_c10
  · exact w_c11
  · exact w_c12
  · exact w_c13
  · exact w_c14
  · exact w_c15
  · exact w_c16
  · exact w_c17
  · exact w_c18
  · exact w_c19
  · exact w_c20
  · exact w_c21
  · exact w_c22
  · exact w_c23
  · exact w_c24
  · exact w_c25
  · exact w_c26
  · exact w_c27
  · exact w_c28
  · exact w_c29
  · exact w_c30
  · exact w_c31
  · exact w_c32
  · exact w_c33
  · exact w_c34
  · exact w_c35
  · exact w_c36
  · exact w_c37
  · exact w_c38
  · exact w_c39
  · exact w_c40
set_option maxRecDepth 65536 in
theorem w_t1 : (words1.take 24).all (fun c => isCode c || c.before args0 about1) = true := by decide +kernel
set_option maxRecDepth 65536 in
theorem w_t2 : ((words1.drop 24).take 24).all (fun c => isCode c || c.before args0 about1) = true := by decide +kernel
set_option maxRecDepth 65536 in
theorem w_t3 : (((words1.drop 24).drop 24).take 24).all (fun c => isCode c || c.before args0 about1) = true := by decide +kernel
set_option maxRecDepth 65536 in
theorem w_t4 : ((((words1.drop 24).drop 24).drop 24).take 24).all (fun c => isCode c || c.before args0 about1) = true := by decide +kernel
set_option maxRecDepth 65536 in
theorem w_t5 : (((((words1.drop 24).drop 24).drop 24).drop 24).take 24).all (fun c => isCode c || c.before args0 about1) = true := by decide +kernel
set_option maxRecDepth 65536 in
theorem w_t6 : ((((((words1.drop 24).drop 24).drop 24).drop 24).drop 24).take 24).all (fun c => isCode c || c.before args0 about1) = true := by decide +kernel
set_option maxRecDepth 65536 in
theorem w_t7 : (((((((words1.drop 24).drop 24).drop 24).drop 24).drop 24).drop 24).take 24).all (fun c => isCode c || c.before args0 about1) = true := by decide +kernel
set_option maxRecDepth 65536 in
theorem w_t8 : (((((((words1.drop 24).drop 24).drop 24).drop 24).drop 24).drop 24).drop 24).all (fun c => isCode c || c.before args0 about1) = true := by decide +kernel
theorem w_tables : (allAtoms (Jvm.Cond.code x code maxLocals ret :: tables_1)).before args0 about1 = true := by
  rw [allAtoms_all]
  show words1.all (fun c => c.before args0 about1) = true
  refine all_split ?_ w_codes
  rw [← List.take_append_drop 24 words1, List.all_append, w_t1, ← List.take_append_drop 24 (words1.drop 24), List.all_append, w_t2, ← List.take_append_drop 24 ((words1.drop 24).drop 24), List.all_append, w_t3, ← List.take_append_drop 24 (((words1.drop 24).drop 24).drop 24), List.all_append, w_t4, ← List.take_append_drop 24 ((((words1.drop 24).drop 24).drop 24).drop 24), List.all_append, w_t5, ← List.take_append_drop 24 (((((words1.drop 24).drop 24).drop 24).drop 24).drop 24), List.all_append, w_t6, ← List.take_append_drop 24 ((((((words1.drop 24).drop 24).drop 24).drop 24).drop 24).drop 24), List.all_append, w_t7, w_t8]
  rfl
set_option maxRecDepth 65536 in
theorem w_rest : rest_1_c.before args0 about1 = true := by decide +kernel
set_option maxRecDepth 65536 in
theorem w_case : (Jvm.Cond.and given_1 narrow_1).before args0 about1 = true := by decide +kernel
set_option maxRecDepth 65536 in
theorem w_consts : constsHeld consts_1 about1 := Jvm.Lit.constsHeldB_iff.mp (by decide +kernel)
theorem w_applies : (headSpec (Jvm.Cond.code x code maxLocals ret :: tables_1) room_1).applies x e0.platform about1 = true :=
  (Spec.applies_iff w_frames).mpr ⟨w_running, w_runnable, w_alone, w_named, w_hears, w_ripe, w_room, w_tables⟩
theorem atStart : AtStart classFile x code maxLocals ret World_1 tables_1 room_1 Calls_1 rest_1 Pre_1 launch0 p0 e0 about1 theMethod args0 below0 :=
  ⟨lists_1, trivial, launch0.admits_env _ _ _, launch0.least_env, fairChoices_fair.cas, fairChoices_fair.clock, w_frames, w_args, w_heap, w_applies, ⟨w_consts, trivial⟩, w_rest, w_case⟩
end start1
theorem witness_1 : WitnessClaimed_1 := ⟨start1.p0, start1.e0, start1.about1, start1.theMethod, start1.args0, start1.below0, start1.atStart⟩
end Jvm.Pilot.@@N@@
