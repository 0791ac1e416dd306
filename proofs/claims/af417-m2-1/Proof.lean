import JvmDerived
import JvmDerived.Pilot.@@N@@Statement
import JvmDerived.Pilot.@@N@@Code
set_option linter.unusedVariables false
set_option linter.unusedSimpArgs false
@@BLOCK:TracedD.lean.txt@@
namespace Jvm.Pilot.@@N@@
namespace OwnKit
open Jvm Jvm.ClassFile Sem Op Lib Jvm.Free Jvm.Stand Jvm.LawKit Jvm.RoadKit Bundle
/-! ## OwnKit: a walk in lawnew's family, its bookkeeping in one word (Sd), its steps in continuation style (Go). General text: no program in sight. -/
section OwnBase
variable {p : Program} {l : Launch} {e : Env} {R : Room} {s : State} {m : MethodId} {args : Array Value} {below : List Frame} {meth : Method} {c : Code} {T : State} {locs : List Loc} {cells slots : Nat} {Z : State} {a0 : Array Value} {h h' : Heap} {EL : List (String × Nat)} {own : String} {w kn : Bool} {S : Addr → Prop} {A : Outcome → State → Prop} {Ls : Array Slot} {st : List Value} {pc : Nat}
/-- how the tables at hand may differ from the invocation's own -/
def Mo (w : Bool) (s : State) (vm0 : Vm) (n : Nat) : Prop := match w with
  | false => s.WarmedH vm0
  | true => ∃ k0, s.Since vm0 k0 ∧ k0 ≤ n
theorem Mo.mono {vm0 : Vm} {n n' : Nat} (H : Mo w s vm0 n) (q : n ≤ n') : Mo w s vm0 n' := by
  cases w with
  | false => exact H
  | true => obtain ⟨k, a, b⟩ := H; exact ⟨k, a, Nat.le_trans b q⟩
theorem Mo.start (w : Bool) (s : State) (n : Nat) (q : s.heap.size ≤ n) : Mo w s s.vm n := by
  cases w with
  | false => exact State.WarmedH.refl s
  | true => exact ⟨s.heap.size, (State.WarmedH.refl s).since _, q⟩
theorem Mo.narrow {vm0 vm1 : Vm} {n : Nat} (H : Mo w s vm0 n) (q : (s.setVm vm0).WarmedH vm1) : Mo w s vm1 n := by
  cases w with
  | false => exact State.WarmedH.trans (t := s.setVm vm0) H q
  | true => obtain ⟨k, a, b⟩ := H; exact ⟨k, a.trans (q.since k) (Nat.le_refl _), b⟩
theorem Mo.since {vm0 vm1 : Vm} {n n1 : Nat} (H : Mo true s vm0 n) (q : (s.setVm vm0).Since vm1 n1) (r : n ≤ n1) : Mo true s vm1 n1 := by
  obtain ⟨k, a, b⟩ := H; exact ⟨n1, a.trans q (Nat.le_trans b r), Nat.le_refl _⟩
/-- where a stack trace may be filled in: the methods of the tables and the frames beneath are known -/
def Kn (kn : Bool) (vm : Vm) (below : List Frame) : Prop := match kn with
  | false => True
  | true => vm.MethodsKnown ∧ vm.FramesKnown below
def EndM (w : Bool) (U : State) (o : Outcome) (U' : State) (L : List Loc) (k n : Nat) : Prop := match w with
  | false => FrameEnd U o U' L k n
  | true => ReturnedEndW U o U' L k n
/-- the promise of a body -/
def Pst (w : Bool) (Z : State) (EL : List (String × Nat)) (kc ks : Nat) (Q : Option Value → Heap → (Addr → Prop) → Prop) (s : State) (o : Outcome) (t : State) : Prop :=
  ∃ v L, o = .returned v ∧ Q v t.heap (Safe Z EL t.vm t.heap) ∧ Fr Z.heap.size L ∧ Old Z Z.heap.size t.heap ∧ CHr Z EL s.vm s.heap t.vm t.heap ∧ EndM w s o t L kc ks
/-- a contract: the callee y, at the heap h with the arguments as' -/
def Ct (w kn : Bool) (Z : State) (EL : List (String × Nat)) (l : Launch) (y : MethodName) (bytes : ByteArray) (maxL : Nat) (ret : Option FieldType) (rm : Room) (as' : Array Value) (h : Heap) (sf : List Addr) (Q : Option Value → Heap → (Addr → Prop) → Prop) (ws : List Jvm.Cond := []) : Prop :=
  MetFree l y (head1 (Jvm.Cond.code y bytes maxL ret :: ws) rm) (fun a U => a = as' ∧ Z.Warmed39 U.vm ∧ U.heap = h ∧ CHv Z EL U.vm h ∧ ∀ x ∈ sf, Safe Z EL U.vm h x)
    (fun _ _ bl U _ => Kn kn U.vm bl) (fun _ U o U' => Pst w Z EL rm.cells rm.slots Q U o U')
/-- what doesn't move in a walk -/
def Bs (kn : Bool) (Z : State) (a0 : Array Value) (EL : List (String × Nat)) (p : Program) (s : State) (below : List Frame) (meth : Method) : Prop := p.tables.exec = Jvm.exec ∧ EW Z a0 EL ∧ Kn kn s.vm below ∧ meth.locks = false ∧ Old Z Z.heap.size s.heap
/-- the walk stands at T, whose heap is h; S: the places that no constant of EL lies at -/
def Sd (w kn : Bool) (Z : State) (a0 : Array Value) (EL : List (String × Nat)) (p : Program) (l : Launch) (e : Env) (R : Room) (s : State) (m : MethodId) (args : Array Value) (below : List Frame) (meth : Method) (c : Code) (own : String) (T : State) (h : Heap) (S : Addr → Prop) (cells slots : Nat) : Prop :=
  Bs kn Z a0 EL p s below meth ∧ ∃ (vm0 : Vm) (locs : List Loc), Stand p l e R (s.setVm vm0) m args below meth c T locs cells slots ∧ T.heap = h ∧ Z.Warmed39 vm0 ∧
    vm0.findClass own = some m.cls ∧ Mo w s vm0 h.size ∧ Fr Z.heap.size locs ∧ Old Z Z.heap.size h ∧ CHr Z EL s.vm s.heap vm0 h ∧ S = Safe Z EL vm0 h
/-- the goal of a walk -/
def Go (p : Program) (e : Env) (below : List Frame) (A : Outcome → State → Prop) (a : State) : Prop := ∃ t o, Steps p.tables e below a t ∧ t.status = .running ∧ Ended t below o ∧ A o t
theorem Go.step {a b : State} (k : ∀ t, Steps p.tables e below b t → Steps p.tables e below a t) (g : Go p e below A b) : Go p e below A a := by
  obtain ⟨t, o, q, r⟩ := g; exact ⟨t, o, k t q, r⟩
theorem Go.tr {a b : State} (k : Steps p.tables e below a b) (g : Go p e below A b) : Go p e below A a := by
  obtain ⟨t, o, q, r⟩ := g; exact ⟨t, o, k.trans q, r⟩
theorem Sd.hx (X : Sd w kn Z a0 EL p l e R s m args below meth c own T h S cells slots) : p.tables.exec = Jvm.exec := X.1.1
theorem Sd.here (X : Sd w kn Z a0 EL p l e R s m args below meth c own T h S cells slots) : At T m c below := by obtain ⟨-, _, _, X, -⟩ := X; exact X.here
theorem Sd.old (X : Sd w kn Z a0 EL p l e R s m args below meth c own T h S cells slots) : Old Z Z.heap.size h := by obtain ⟨-, _, _, -, -, -, -, -, -, q, -⟩ := X; exact q
theorem Sd.more (X : Sd w kn Z a0 EL p l e R s m args below meth c own T h S cells slots) {cells' slots' : Nat} (q : cells ≤ cells') (r : slots ≤ slots') : Sd w kn Z a0 EL p l e R s m args below meth c own T h S cells' slots' := by
  obtain ⟨q1, vm0, locs, X, q2⟩ := X; exact ⟨q1, vm0, locs, X.more q r, q2⟩
/-- S: what is known of it -/
theorem Sd.safeExa (X : Sd w kn Z a0 EL p l e R s m args below meth c own T h S cells slots) {x : Addr} {C : String} (E : Exa Z h x C) (h1 : C ≠ "java/lang/String") (h2 : C ≠ "[B") : S x := by
  obtain ⟨-, vm0, _, -, -, hZ, -, -, -, -, -, rfl⟩ := X; exact Safe.exa hZ.alike E h1 h2
theorem Sd.safeArr (X : Sd w kn Z a0 EL p l e R s m args below meth c own T h S cells slots) {x : Addr} {k : ClassId} {ty : FieldType} {z : Int32} {vs : List Value} {dv : Value} (E : Arv Z h x k ty z vs dv) (ht : ty ≠ .byte) : S x := by
  obtain ⟨-, vm0, _, -, -, hZ, -, -, -, -, -, rfl⟩ := X; exact Safe.arv hZ.alike E ht
theorem Sd.safeNil (X : Sd w kn Z a0 [] p l e R s m args below meth c own T h S cells slots) (x : Addr) : S x := by
  obtain ⟨-, vm0, _, -, -, -, -, -, -, -, -, rfl⟩ := X; rintro ⟨_, q, -⟩; cases q
end OwnBase
section OwnPlain
/-! ### plain instructions, a block at a time -/
def oI : Option Slot → Option Int32 | some (.val (.int v)) => some v | _ => none
theorem oI_eq {o : Option Slot} {v : Int32} (h : oI o = some v) : o = some (.val (.int v)) := by unfold oI at h; split at h <;> first | (cases h; rfl) | cases h
def oJ : Option Slot → Option Int64 | some (.val (.long v)) => some v | _ => none
theorem oJ_eq {o : Option Slot} {v : Int64} (h : oJ o = some v) : o = some (.val (.long v)) := by unfold oJ at h; split at h <;> first | (cases h; rfl) | cases h
def oR : Option Slot → Option Value | some (.val (.ref v)) => some (.ref v) | some (.val .null) => some .null | _ => none
theorem oR_eq {o : Option Slot} {v : Value} (h : oR o = some v) : o = some (.val v) ∧ v.isRef = true := by unfold oR at h; split at h <;> first | (cases h; exact ⟨rfl, rfl⟩) | cases h
/-- one plain instruction at pc: the next pc, locals, stack -/
def px (i : Instr) (pc : Nat) (L : Array Slot) (S : List Value) : Option (Nat × Array Slot × List Value) := match i with
  | .iload k => (oI L[k]?).map fun v => (pc + 2, L, .int v :: S)
  | .iload_n k => (oI L[k.val]?).map fun v => (pc + 1, L, .int v :: S)
  | .aload k => (oR L[k]?).map fun v => (pc + 2, L, v :: S)
  | .aload_n k => (oR L[k.val]?).map fun v => (pc + 1, L, v :: S)
  | .lload k => (oJ L[k]?).map fun v => (pc + 2, L, .long v :: S)
  | .lload_n k => (oJ L[k.val]?).map fun v => (pc + 1, L, .long v :: S)
  | .istore k => (match S with | .int v :: r => (storeLocals L k (.int v)).map fun L' => (pc + 2, L', r) | _ => none)
  | .istore_n k => (match S with | .int v :: r => (storeLocals L k.val (.int v)).map fun L' => (pc + 1, L', r) | _ => none)
  | .astore k => (match S with | .ref v :: r => (storeLocals L k (.ref v)).map fun L' => (pc + 2, L', r) | .null :: r => (storeLocals L k .null).map fun L' => (pc + 2, L', r) | _ => none)
  | .astore_n k => (match S with | .ref v :: r => (storeLocals L k.val (.ref v)).map fun L' => (pc + 1, L', r) | .null :: r => (storeLocals L k.val .null).map fun L' => (pc + 1, L', r) | _ => none)
  | .lstore k => (match S with | .long v :: r => (storeLocals L k (.long v)).map fun L' => (pc + 2, L', r) | _ => none)
  | .lstore_n k => (match S with | .long v :: r => (storeLocals L k.val (.long v)).map fun L' => (pc + 1, L', r) | _ => none)
  | .iconst i => some (pc + 1, L, .int (Int32.ofInt i) :: S)
  | .bipush i => some (pc + 2, L, .int ((Int8.ofInt i).toInt32) :: S)
  | .sipush i => some (pc + 3, L, .int ((Int16.ofInt i).toInt32) :: S)
  | .lconst k => some (pc + 1, L, .long (Int64.ofNat k) :: S)
  | .aconst_null => some (pc + 1, L, .null :: S)
  | .iadd => (match S with | .int y :: .int x :: r => some (pc + 1, L, .int (x + y) :: r) | _ => none)
  | .isub => (match S with | .int y :: .int x :: r => some (pc + 1, L, .int (x - y) :: r) | _ => none)
  | .imul => (match S with | .int y :: .int x :: r => some (pc + 1, L, .int (x * y) :: r) | _ => none)
  | .iand => (match S with | .int y :: .int x :: r => some (pc + 1, L, .int (x &&& y) :: r) | _ => none)
  | .ior => (match S with | .int y :: .int x :: r => some (pc + 1, L, .int (x ||| y) :: r) | _ => none)
  | .ixor => (match S with | .int y :: .int x :: r => some (pc + 1, L, .int (x ^^^ y) :: r) | _ => none)
  | .ishl => (match S with | .int y :: .int x :: r => some (pc + 1, L, .int (x <<< (y &&& 31)) :: r) | _ => none)
  | .ishr => (match S with | .int y :: .int x :: r => some (pc + 1, L, .int (x >>> (y &&& 31)) :: r) | _ => none)
  | .iushr => (match S with | .int y :: .int x :: r => some (pc + 1, L, .int (XT.ushr x y) :: r) | _ => none)
  | .ladd => (match S with | .long y :: .long x :: r => some (pc + 1, L, .long (x + y) :: r) | _ => none)
  | .lsub => (match S with | .long y :: .long x :: r => some (pc + 1, L, .long (x - y) :: r) | _ => none)
  | .land => (match S with | .long y :: .long x :: r => some (pc + 1, L, .long (x &&& y) :: r) | _ => none)
  | .lor => (match S with | .long y :: .long x :: r => some (pc + 1, L, .long (x ||| y) :: r) | _ => none)
  | .lshl => (match S with | .int y :: .long x :: r => some (pc + 1, L, .long (x <<< (y.toInt64 &&& 63)) :: r) | _ => none)
  | .lcmp => (match S with | .long y :: .long x :: r => some (pc + 1, L, .int (XT.cmpL x y) :: r) | _ => none)
  | .i2c => (match S with | .int x :: r => some (pc + 1, L, .int (x.toUInt32.toUInt16.toUInt32.toInt32) :: r) | _ => none)
  | .i2b => (match S with | .int x :: r => some (pc + 1, L, .int (x.toInt8.toInt32) :: r) | _ => none)
  | .i2l => (match S with | .int x :: r => some (pc + 1, L, .long (x.toInt64) :: r) | _ => none)
  | .l2i => (match S with | .long x :: r => some (pc + 1, L, .int (x.toInt32) :: r) | _ => none)
  | .ineg => (match S with | .int x :: r => some (pc + 1, L, .int (-x) :: r) | _ => none)
  | .iinc k i => (oI L[k]?).bind fun v => (storeLocals L k (.int (v + Int32.ofInt i))).map fun L' => (pc + 3, L', S)
  | .dup => (match S with | .int x :: r => some (pc + 1, L, .int x :: .int x :: r) | .ref x :: r => some (pc + 1, L, .ref x :: .ref x :: r) | _ => none)
  | .dup_x1 => (match S with | .int x :: .ref y :: r => some (pc + 1, L, .int x :: .ref y :: .int x :: r) | .ref x :: .ref y :: r => some (pc + 1, L, .ref x :: .ref y :: .ref x :: r) | _ => none)
  | .dup2 => (match S with | .int x :: .ref y :: r => some (pc + 1, L, .int x :: .ref y :: .int x :: .ref y :: r) | _ => none)
  | .pop => (match S with | .int _ :: r => some (pc + 1, L, r) | .ref _ :: r => some (pc + 1, L, r) | .null :: r => some (pc + 1, L, r) | _ => none)
  | .goto o => if 0 ≤ (pc : Int) + o then some (((pc : Int) + o).toNat, L, S) else none
  | _ => none
/-- its length -/
def ln : Instr → Nat
  | .iload _ => 2 | .aload _ => 2 | .lload _ => 2 | .istore _ => 2 | .astore _ => 2 | .lstore _ => 2 | .bipush _ => 2 | .sipush _ => 3 | .iinc _ _ => 3 | .goto _ => 3 | _ => 1
def nx (i : Instr) (pc : Nat) : Nat := match i with | .goto o => ((pc : Int) + o).toNat | _ => pc + ln i
/-- the bytes at pc read as these instructions, one behind the other -/
def decs (code : ByteArray) : Nat → List Instr → Bool
  | _, [] => true
  | pc, i :: r => decide (decode code pc = .ok (i, ln i)) && decs code (nx i pc) r
def pxl : List Instr → Nat → Array Slot → List Value → Option (Nat × Array Slot × List Value)
  | [], pc, L, S => some (pc, L, S)
  | i :: r, pc, L, S => match px i pc L S with
    | some (pc', L', S') => pxl r pc' L' S'
    | none => none
variable {p : Program} {e : Env} {below : List Frame} {T : State} {m : MethodId} {c : Code} {A : Outcome → State → Prop}
theorem px_sound {t : State} (h : At T m c below) (hx : p.tables.exec = Jvm.exec) {i : Instr} {pc pc' : Nat} {L L' : Array Slot} {S S' : List Value} (hd : decode c.code pc = .ok (i, ln i)) (hp : px i pc L S = some (pc', L', S'))
    (hr : Steps p.tables e below (T.setTop (mkF m pc' L' S')) t) : Steps p.tables e below (T.setTop (mkF m pc L S)) t := by
  cases i
  case iload k =>
    simp only [px] at hp
    obtain ⟨v, q, e⟩ := Option.map_eq_some_iff.mp hp; cases e; exact XS.iload h hx rfl hd (oI_eq q) hr
  case iload_n k =>
    simp only [px] at hp
    obtain ⟨v, q, e⟩ := Option.map_eq_some_iff.mp hp; cases e; exact XS.iloadN h hx rfl hd (oI_eq q) hr
  case aload k =>
    simp only [px] at hp
    obtain ⟨v, q, e⟩ := Option.map_eq_some_iff.mp hp; cases e; exact XS.aload h hx rfl hd (oR_eq q).1 (oR_eq q).2 hr
  case aload_n k =>
    simp only [px] at hp
    obtain ⟨v, q, e⟩ := Option.map_eq_some_iff.mp hp; cases e; exact XS.aloadN h hx rfl hd (oR_eq q).1 (oR_eq q).2 hr
  case lload k =>
    simp only [px] at hp
    obtain ⟨v, q, e⟩ := Option.map_eq_some_iff.mp hp; cases e; exact XT.lload h hx rfl hd (oJ_eq q) hr
  case lload_n k =>
    simp only [px] at hp
    obtain ⟨v, q, e⟩ := Option.map_eq_some_iff.mp hp; cases e; exact XT.lloadN h hx rfl hd (oJ_eq q) hr
  case istore k =>
    simp only [px] at hp
    split at hp
    · obtain ⟨v, q, e⟩ := Option.map_eq_some_iff.mp hp; cases e; exact XS.istore h hx rfl hd rfl q hr
    · cases hp
  case istore_n k =>
    simp only [px] at hp
    split at hp
    · obtain ⟨v, q, e⟩ := Option.map_eq_some_iff.mp hp; cases e; exact XS.istoreN h hx rfl hd rfl q hr
    · cases hp
  case astore k =>
    simp only [px] at hp
    split at hp
    · obtain ⟨v, q, e⟩ := Option.map_eq_some_iff.mp hp; cases e; exact XS.astore h hx rfl hd rfl rfl q hr
    · obtain ⟨v, q, e⟩ := Option.map_eq_some_iff.mp hp; cases e; exact XS.astore h hx rfl hd rfl rfl q hr
    · cases hp
  case astore_n k =>
    simp only [px] at hp
    split at hp
    · obtain ⟨v, q, e⟩ := Option.map_eq_some_iff.mp hp; cases e; exact XS.astoreN h hx rfl hd rfl rfl q hr
    · obtain ⟨v, q, e⟩ := Option.map_eq_some_iff.mp hp; cases e; exact XS.astoreN h hx rfl hd rfl rfl q hr
    · cases hp
  case lstore k =>
    simp only [px] at hp
    split at hp
    · obtain ⟨v, q, e⟩ := Option.map_eq_some_iff.mp hp; cases e; exact XT.lstore h hx rfl hd rfl q hr
    · cases hp
  case lstore_n k =>
    simp only [px] at hp
    split at hp
    · obtain ⟨v, q, e⟩ := Option.map_eq_some_iff.mp hp; cases e; exact XT.lstoreN h hx rfl hd rfl q hr
    · cases hp
  case iconst i =>
    simp only [px] at hp
    cases hp; exact XS.iconst h hx rfl hd hr
  case bipush i =>
    simp only [px] at hp
    cases hp; exact XS.bipush h hx rfl hd hr
  case sipush i =>
    simp only [px] at hp
    cases hp; exact XS.sipush h hx rfl hd hr
  case lconst k =>
    simp only [px] at hp
    cases hp; exact XT.lconst h hx rfl hd hr
  case aconst_null =>
    simp only [px] at hp
    cases hp; exact XS.aconstNull h hx rfl hd hr
  case iadd =>
    simp only [px] at hp
    split at hp
    · cases hp; exact XS.iadd h hx rfl hd rfl hr
    · cases hp
  case isub =>
    simp only [px] at hp
    split at hp
    · cases hp; exact XS.isub h hx rfl hd rfl hr
    · cases hp
  case imul =>
    simp only [px] at hp
    split at hp
    · cases hp; exact XS.imul h hx rfl hd rfl hr
    · cases hp
  case iand =>
    simp only [px] at hp
    split at hp
    · cases hp; exact XS.iand h hx rfl hd rfl hr
    · cases hp
  case ior =>
    simp only [px] at hp
    split at hp
    · cases hp; exact XT.ior h hx rfl hd rfl hr
    · cases hp
  case ixor =>
    simp only [px] at hp
    split at hp
    · cases hp; exact XT.ixor h hx rfl hd rfl hr
    · cases hp
  case ishl =>
    simp only [px] at hp
    split at hp
    · cases hp; exact XT.ishl h hx rfl hd rfl hr
    · cases hp
  case ishr =>
    simp only [px] at hp
    split at hp
    · cases hp; exact XT.ishr h hx rfl hd rfl hr
    · cases hp
  case iushr =>
    simp only [px] at hp
    split at hp
    · cases hp; exact XT.iushr h hx rfl hd rfl hr
    · cases hp
  case ladd =>
    simp only [px] at hp
    split at hp
    · cases hp; exact XT.ladd h hx rfl hd rfl hr
    · cases hp
  case lsub =>
    simp only [px] at hp
    split at hp
    · cases hp; exact XT.lsub h hx rfl hd rfl hr
    · cases hp
  case land =>
    simp only [px] at hp
    split at hp
    · cases hp; exact XT.land h hx rfl hd rfl hr
    · cases hp
  case lor =>
    simp only [px] at hp
    split at hp
    · cases hp; exact XT.lor h hx rfl hd rfl hr
    · cases hp
  case lshl =>
    simp only [px] at hp
    split at hp
    · cases hp; exact XT.lshl h hx rfl hd rfl hr
    · cases hp
  case lcmp =>
    simp only [px] at hp
    split at hp
    · cases hp; exact XT.lcmp h hx rfl hd rfl hr
    · cases hp
  case i2c =>
    simp only [px] at hp
    split at hp
    · cases hp; exact XT.i2c h hx rfl hd rfl hr
    · cases hp
  case i2b =>
    simp only [px] at hp
    split at hp
    · cases hp; exact XT.i2b h hx rfl hd rfl hr
    · cases hp
  case i2l =>
    simp only [px] at hp
    split at hp
    · cases hp; exact XT.i2l h hx rfl hd rfl hr
    · cases hp
  case l2i =>
    simp only [px] at hp
    split at hp
    · cases hp; exact XT.l2i h hx rfl hd rfl hr
    · cases hp
  case ineg =>
    simp only [px] at hp
    split at hp
    · cases hp; exact XS.ineg h hx rfl hd rfl hr
    · cases hp
  case iinc k i =>
    simp only [px] at hp
    obtain ⟨v, q, e⟩ := Option.bind_eq_some_iff.mp hp; obtain ⟨L2, q2, e2⟩ := Option.map_eq_some_iff.mp e; cases e2; exact XS.iinc h hx rfl hd (oI_eq q) q2 hr
  case dup =>
    simp only [px] at hp
    split at hp
    · cases hp; exact XS.dup h hx rfl hd rfl rfl hr
    · cases hp; exact XS.dup h hx rfl hd rfl rfl hr
    · cases hp
  case dup_x1 =>
    simp only [px] at hp
    split at hp
    · cases hp; exact XT.dupX1 h hx rfl hd rfl rfl rfl hr
    · cases hp; exact XT.dupX1 h hx rfl hd rfl rfl rfl hr
    · cases hp
  case dup2 =>
    simp only [px] at hp
    split at hp
    · cases hp; exact XT.dup2 h hx rfl hd rfl rfl rfl hr
    · cases hp
  case pop =>
    simp only [px] at hp
    split at hp
    · cases hp; exact XT.pop h hx rfl hd rfl rfl hr
    · cases hp; exact XT.pop h hx rfl hd rfl rfl hr
    · cases hp; exact XT.pop h hx rfl hd rfl rfl hr
    · cases hp
  case goto o =>
    simp only [px] at hp
    split at hp
    · rename_i q; cases hp; exact XS.goto h hx rfl rfl hd q rfl hr
    · cases hp
  all_goals cases hp
theorem px_next {i : Instr} {pc pc' : Nat} {L L' : Array Slot} {S S' : List Value} (hp : px i pc L S = some (pc', L', S')) : pc' = nx i pc := by
  cases i
  case iload k =>
    simp only [px] at hp
    obtain ⟨v, q, e⟩ := Option.map_eq_some_iff.mp hp; cases e; rfl
  case iload_n k =>
    simp only [px] at hp
    obtain ⟨v, q, e⟩ := Option.map_eq_some_iff.mp hp; cases e; rfl
  case aload k =>
    simp only [px] at hp
    obtain ⟨v, q, e⟩ := Option.map_eq_some_iff.mp hp; cases e; rfl
  case aload_n k =>
    simp only [px] at hp
    obtain ⟨v, q, e⟩ := Option.map_eq_some_iff.mp hp; cases e; rfl
  case lload k =>
    simp only [px] at hp
    obtain ⟨v, q, e⟩ := Option.map_eq_some_iff.mp hp; cases e; rfl
  case lload_n k =>
    simp only [px] at hp
    obtain ⟨v, q, e⟩ := Option.map_eq_some_iff.mp hp; cases e; rfl
  case istore k =>
    simp only [px] at hp
    split at hp
    · obtain ⟨v, q, e⟩ := Option.map_eq_some_iff.mp hp; cases e; rfl
    · cases hp
  case istore_n k =>
    simp only [px] at hp
    split at hp
    · obtain ⟨v, q, e⟩ := Option.map_eq_some_iff.mp hp; cases e; rfl
    · cases hp
  case astore k =>
    simp only [px] at hp
    split at hp
    · obtain ⟨v, q, e⟩ := Option.map_eq_some_iff.mp hp; cases e; rfl
    · obtain ⟨v, q, e⟩ := Option.map_eq_some_iff.mp hp; cases e; rfl
    · cases hp
  case astore_n k =>
    simp only [px] at hp
    split at hp
    · obtain ⟨v, q, e⟩ := Option.map_eq_some_iff.mp hp; cases e; rfl
    · obtain ⟨v, q, e⟩ := Option.map_eq_some_iff.mp hp; cases e; rfl
    · cases hp
  case lstore k =>
    simp only [px] at hp
    split at hp
    · obtain ⟨v, q, e⟩ := Option.map_eq_some_iff.mp hp; cases e; rfl
    · cases hp
  case lstore_n k =>
    simp only [px] at hp
    split at hp
    · obtain ⟨v, q, e⟩ := Option.map_eq_some_iff.mp hp; cases e; rfl
    · cases hp
  case iconst i =>
    simp only [px] at hp
    cases hp; rfl
  case bipush i =>
    simp only [px] at hp
    cases hp; rfl
  case sipush i =>
    simp only [px] at hp
    cases hp; rfl
  case lconst k =>
    simp only [px] at hp
    cases hp; rfl
  case aconst_null =>
    simp only [px] at hp
    cases hp; rfl
  case iadd =>
    simp only [px] at hp
    split at hp
    · cases hp; rfl
    · cases hp
  case isub =>
    simp only [px] at hp
    split at hp
    · cases hp; rfl
    · cases hp
  case imul =>
    simp only [px] at hp
    split at hp
    · cases hp; rfl
    · cases hp
  case iand =>
    simp only [px] at hp
    split at hp
    · cases hp; rfl
    · cases hp
  case ior =>
    simp only [px] at hp
    split at hp
    · cases hp; rfl
    · cases hp
  case ixor =>
    simp only [px] at hp
    split at hp
    · cases hp; rfl
    · cases hp
  case ishl =>
    simp only [px] at hp
    split at hp
    · cases hp; rfl
    · cases hp
  case ishr =>
    simp only [px] at hp
    split at hp
    · cases hp; rfl
    · cases hp
  case iushr =>
    simp only [px] at hp
    split at hp
    · cases hp; rfl
    · cases hp
  case ladd =>
    simp only [px] at hp
    split at hp
    · cases hp; rfl
    · cases hp
  case lsub =>
    simp only [px] at hp
    split at hp
    · cases hp; rfl
    · cases hp
  case land =>
    simp only [px] at hp
    split at hp
    · cases hp; rfl
    · cases hp
  case lor =>
    simp only [px] at hp
    split at hp
    · cases hp; rfl
    · cases hp
  case lshl =>
    simp only [px] at hp
    split at hp
    · cases hp; rfl
    · cases hp
  case lcmp =>
    simp only [px] at hp
    split at hp
    · cases hp; rfl
    · cases hp
  case i2c =>
    simp only [px] at hp
    split at hp
    · cases hp; rfl
    · cases hp
  case i2b =>
    simp only [px] at hp
    split at hp
    · cases hp; rfl
    · cases hp
  case i2l =>
    simp only [px] at hp
    split at hp
    · cases hp; rfl
    · cases hp
  case l2i =>
    simp only [px] at hp
    split at hp
    · cases hp; rfl
    · cases hp
  case ineg =>
    simp only [px] at hp
    split at hp
    · cases hp; rfl
    · cases hp
  case iinc k i =>
    simp only [px] at hp
    obtain ⟨v, q, e⟩ := Option.bind_eq_some_iff.mp hp; obtain ⟨L2, q2, e2⟩ := Option.map_eq_some_iff.mp e; cases e2; rfl
  case dup =>
    simp only [px] at hp
    split at hp
    · cases hp; rfl
    · cases hp; rfl
    · cases hp
  case dup_x1 =>
    simp only [px] at hp
    split at hp
    · cases hp; rfl
    · cases hp; rfl
    · cases hp
  case dup2 =>
    simp only [px] at hp
    split at hp
    · cases hp; rfl
    · cases hp
  case pop =>
    simp only [px] at hp
    split at hp
    · cases hp; rfl
    · cases hp; rfl
    · cases hp; rfl
    · cases hp
  case goto o =>
    simp only [px] at hp
    split at hp
    · rename_i q; cases hp; rfl
    · cases hp
  all_goals cases hp
theorem pxl_sound (h : At T m c below) (hx : p.tables.exec = Jvm.exec) {code : ByteArray} (hby : c.code = code) : ∀ {is : List Instr} {pc pc' : Nat} {L L' : Array Slot} {S S' : List Value}, decs code pc is = true → pxl is pc L S = some (pc', L', S') →
    Go p e below A (T.setTop (mkF m pc' L' S')) → Go p e below A (T.setTop (mkF m pc L S))
  | [], pc, pc', L, L', S, S', _, hp, g => by cases hp; exact g
  | i :: r, pc, pc', L, L', S, S', hd, hp, g => by
    simp only [decs, Bool.and_eq_true, decide_eq_true_eq] at hd
    simp only [pxl] at hp
    split at hp
    · rename_i pc1 L1 S1 q
      refine Go.step (fun t k => px_sound h hx (by rw [hby]; exact hd.1) q k) (pxl_sound h hx hby (is := r) ?_ hp g)
      rw [px_next q]; exact hd.2
    · cases hp
end OwnPlain
section OwnLaws
variable {p : Program} {l : Launch} {e : Env} {R : Room} {s : State} {m : MethodId} {args : Array Value} {below : List Frame} {meth : Method} {c : Code} {T : State} {locs : List Loc} {cells slots : Nat} {Z : State} {a0 : Array Value} {h h' : Heap} {EL : List (String × Nat)} {own : String} {w kn : Bool} {S : Addr → Prop} {A : Outcome → State → Prop} {Ls : Array Slot} {st : List Value} {pc : Nat} {code : ByteArray}
theorem Mo.alike {vm0 : Vm} {n : Nat} (H : Mo w s vm0 n) : s.vm.Alike vm0 := by
  cases w with
  | false => exact State.WarmedH.alike H
  | true => obtain ⟨k, a, -⟩ := H; exact a.1.alike
theorem Kn.mv {vm vm' : Vm} (h : vm.Alike vm') (H : Kn kn vm below) : Kn kn vm' below := by
  cases kn with
  | false => trivial
  | true => exact ⟨H.1.alikeC h, H.2.alikeC h⟩
/-- a block of plain instructions -/
theorem blk (X : Sd w kn Z a0 EL p l e R s m args below meth c own T h S cells slots) (hby : c.code = code) {is : List Instr} (hd : decs code pc is = true) {pc' : Nat} {Ls' : Array Slot} {st' : List Value} (hp : pxl is pc Ls st = some (pc', Ls', st'))
    (g : Go p e below A (T.setTop (mkF m pc' Ls' st'))) : Go p e below A (T.setTop (mkF m pc Ls st)) := pxl_sound X.here X.hx hby hd hp g
/-! branches -/
theorem brI (X : Sd w kn Z a0 EL p l e R s m args below meth c own T h S cells slots) (hby : c.code = code) {cd : ClassFile.Cond} {o : Int} (hd : decode code pc = .ok (.if_icmp cd o, 3)) {x y : Int32} {pc1 : Nat} (hp : 0 ≤ (pc : Int) + o ∧ ((pc : Int) + o).toNat = pc1)
    (kt : if_icmp.holds cd x y = true → Go p e below A (T.setTop (mkF m pc1 Ls st))) (kf : if_icmp.holds cd x y = false → Go p e below A (T.setTop (mkF m (pc + 3) Ls st))) : Go p e below A (T.setTop (mkF m pc Ls (.int y :: .int x :: st))) := by
  cases q : if_icmp.holds cd x y with
  | true => exact Go.step (fun t k => XS.icmpYes X.here X.hx rfl rfl (hb hby hd) rfl q hp.1 hp.2 k) (kt q)
  | false => exact Go.step (fun t k => XS.icmpNo X.here X.hx rfl (hb hby hd) rfl q k) (kf q)
theorem br0 (X : Sd w kn Z a0 EL p l e R s m args below meth c own T h S cells slots) (hby : c.code = code) {cd : ClassFile.Cond} {o : Int} (hd : decode code pc = .ok (.ifCond cd o, 3)) {x : Int32} {pc1 : Nat} (hp : 0 ≤ (pc : Int) + o ∧ ((pc : Int) + o).toNat = pc1)
    (kt : if_icmp.holds cd x 0 = true → Go p e below A (T.setTop (mkF m pc1 Ls st))) (kf : if_icmp.holds cd x 0 = false → Go p e below A (T.setTop (mkF m (pc + 3) Ls st))) : Go p e below A (T.setTop (mkF m pc Ls (.int x :: st))) := by
  cases q : if_icmp.holds cd x 0 with
  | true => exact Go.step (fun t k => XS.ifYes X.here X.hx rfl rfl (hb hby hd) rfl ((if0 cd x).trans q) hp.1 hp.2 k) (kt q)
  | false => exact Go.step (fun t k => XS.ifNo X.here X.hx rfl (hb hby hd) rfl ((if0 cd x).trans q) k) (kf q)
theorem brA (X : Sd w kn Z a0 EL p l e R s m args below meth c own T h S cells slots) (hby : c.code = code) {cd : ClassFile.ACond} {o : Int} (hd : decode code pc = .ok (.if_acmp cd o, 3)) {x y : Value} (hx1 : x.isRef = true) (hy1 : y.isRef = true) {pc1 : Nat} (hp : 0 ≤ (pc : Int) + o ∧ ((pc : Int) + o).toNat = pc1)
    (kt : XT.acmp cd x y = true → Go p e below A (T.setTop (mkF m pc1 Ls st))) (kf : XT.acmp cd x y = false → Go p e below A (T.setTop (mkF m (pc + 3) Ls st))) : Go p e below A (T.setTop (mkF m pc Ls (y :: x :: st))) := by
  cases q : XT.acmp cd x y with
  | true => exact Go.step (fun t k => XT.acmpYes X.here X.hx rfl rfl (hb hby hd) rfl hx1 hy1 q hp.1 hp.2 k) (kt q)
  | false => exact Go.step (fun t k => XT.acmpNo X.here X.hx rfl (hb hby hd) rfl hx1 hy1 q k) (kf q)
theorem nnR (X : Sd w kn Z a0 EL p l e R s m args below meth c own T h S cells slots) (hby : c.code = code) {o : Int} (hd : decode code pc = .ok (.ifnonnull o, 3)) {x : Addr} {pc1 : Nat} (hp : 0 ≤ (pc : Int) + o ∧ ((pc : Int) + o).toNat = pc1)
    (kt : Go p e below A (T.setTop (mkF m pc1 Ls st))) : Go p e below A (T.setTop (mkF m pc Ls (.ref x :: st))) := Go.step (fun t k => XT.ifnonnullYes X.here X.hx rfl rfl (hb hby hd) rfl hp.1 hp.2 k) kt
theorem nnN (X : Sd w kn Z a0 EL p l e R s m args below meth c own T h S cells slots) (hby : c.code = code) {o : Int} (hd : decode code pc = .ok (.ifnonnull o, 3))
    (kf : Go p e below A (T.setTop (mkF m (pc + 3) Ls st))) : Go p e below A (T.setTop (mkF m pc Ls (.null :: st))) := Go.step (fun t k => XT.ifnonnullNo X.here X.hx rfl (hb hby hd) rfl k) kf
theorem nuN (X : Sd w kn Z a0 EL p l e R s m args below meth c own T h S cells slots) (hby : c.code = code) {o : Int} (hd : decode code pc = .ok (.ifnull o, 3)) {pc1 : Nat} (hp : 0 ≤ (pc : Int) + o ∧ ((pc : Int) + o).toNat = pc1)
    (kt : Go p e below A (T.setTop (mkF m pc1 Ls st))) : Go p e below A (T.setTop (mkF m pc Ls (.null :: st))) := Go.step (fun t k => XS.ifnullYes X.here X.hx rfl rfl (hb hby hd) rfl hp.1 hp.2 k) kt
theorem nuR (X : Sd w kn Z a0 EL p l e R s m args below meth c own T h S cells slots) (hby : c.code = code) {o : Int} (hd : decode code pc = .ok (.ifnull o, 3)) {x : Addr}
    (kf : Go p e below A (T.setTop (mkF m (pc + 3) Ls st))) : Go p e below A (T.setTop (mkF m pc Ls (.ref x :: st))) := Go.step (fun t k => XS.ifnullNo X.here X.hx rfl (hb hby hd) rfl k) kf
/-! the end -/
theorem leaveM {kc ks : Nat} {Q : Option Value → Heap → (Addr → Prop) → Prop} {v : Option Value} (X : Sd w kn Z a0 EL p l e R s m args below meth c own T h S cells slots) (hv : meth.sig.returnType = none → v = none) (q : ∀ S', (∀ x, S x → S' x) → Q v h S') (hc : cells ≤ kc) (hs : slots ≤ ks) :
    ∃ fs, (∀ (f : JFrame) (acts : List Action), f.method = m → f.locked = none → f.entered = [] → (doReturn e (T.setTop f) acts v).1 = T.setFrames fs) ∧ (T.setFrames fs).status = .running ∧ Ended (T.setFrames fs) below (.returned v) ∧ Pst w Z EL kc ks Q s (.returned v) (T.setFrames fs) := by
  obtain ⟨⟨hx, hEL, -, hlk, -⟩, vm0, locs, X, eT, hZ, hown, hMo, N, hO, hC, rfl⟩ := X
  subst eT
  have A := CHv.at X hZ hEL hC.1
  have q' : Q v T.heap (Safe Z EL T.vm T.heap) := q _ fun x hx => by
    by_cases hlt : x < T.heap.size
    · exact A.safe hlt hx
    · exact Safe.new (Nat.le_of_not_lt hlt)
  cases w with
  | false =>
    obtain ⟨fs, hr, hrun, hended, hW, hsame⟩ := X.leave hv
    exact ⟨fs, hr, hrun, hended, v, locs, rfl, q', N, hO, hC.trans A, ⟨v, rfl⟩, State.WarmedH.trans (t := s.setVm vm0) hMo hW, (hsame.setVm s.vm).mono hc hs⟩
  | true =>
    obtain ⟨k0, hS, hk⟩ := hMo
    obtain ⟨fs, hr, hrun, hended, hE⟩ := X.leaveW hS hk hv
    exact ⟨fs, hr, hrun, hended, v, locs, rfl, q', N, hO, hC.trans A, hE.1, hE.2.1, hE.2.2.1, hE.2.2.2.mono hc hs⟩
theorem retI' {kc ks : Nat} {Q : Option Value → Heap → (Addr → Prop) → Prop} {z : Int32} {t : FieldType} (X : Sd w kn Z a0 EL p l e R s m args below meth c own T h S cells slots) (hby : c.code = code) (hret : meth.sig.returnType = some t) (hd : decode code pc = .ok (.ireturn, 1)) (hn : narrow t (.int z) = .int z)
    (q : ∀ S', (∀ x, S x → S' x) → Q (some (.int z)) h S') (ht : t = .int ∨ t = .boolean ∨ t = .byte ∨ t = .char ∨ t = .short := by decide) (hc : cells ≤ kc := by decide) (hs : slots ≤ ks := by decide) : Go p e below (Pst w Z EL kc ks Q s) (T.setTop (mkF m pc Ls (.int z :: st))) := by
  obtain ⟨fs, hr, hrun, hended, hP⟩ := leaveM (v := some (.int z)) X (fun h => by rw [hret] at h; cases h) q hc hs
  obtain ⟨⟨hx, -⟩, vm0, locs, X, -⟩ := X
  exact ⟨_, _, retOut X hx hret hn (Or.inl ⟨rfl, ht, z, rfl⟩) (hb hby hd) hr, hrun, hended, hP⟩
theorem retA' {kc ks : Nat} {Q : Option Value → Heap → (Addr → Prop) → Prop} {v : Value} {t : FieldType} (X : Sd w kn Z a0 EL p l e R s m args below meth c own T h S cells slots) (hby : c.code = code) (hret : meth.sig.returnType = some t) (hd : decode code pc = .ok (.areturn, 1)) (hv : v.isRef = true)
    (q : ∀ S', (∀ x, S x → S' x) → Q (some v) h S') (ht : t.isReference = true := by rfl) (hc : cells ≤ kc := by decide) (hs : slots ≤ ks := by decide) : Go p e below (Pst w Z EL kc ks Q s) (T.setTop (mkF m pc Ls (v :: st))) := by
  obtain ⟨fs, hr, hrun, hended, hP⟩ := leaveM (v := some v) X (fun h => by rw [hret] at h; cases h) q hc hs
  obtain ⟨⟨hx, -⟩, vm0, locs, X, -⟩ := X
  have hn : narrow t v = v := by
    rcases ref_cases hv with rfl | ⟨a, rfl⟩ <;> cases t <;> rfl
  exact ⟨_, _, retOut X hx hret hn (Or.inr (Or.inr (Or.inr (Or.inr ⟨rfl, ht, hv⟩)))) (hb hby hd) hr, hrun, hended, hP⟩
theorem retV' {kc ks : Nat} {Q : Option Value → Heap → (Addr → Prop) → Prop} (X : Sd w kn Z a0 EL p l e R s m args below meth c own T h S cells slots) (hby : c.code = code) (hret : meth.sig.returnType = none) (hd : decode code pc = .ok (.return_, 1))
    (q : ∀ S', (∀ x, S x → S' x) → Q none h S') (hc : cells ≤ kc := by decide) (hs : slots ≤ ks := by decide) : Go p e below (Pst w Z EL kc ks Q s) (T.setTop (mkF m pc Ls [])) := by
  obtain ⟨fs, hr, hrun, hended, hP⟩ := leaveM (v := none) X (fun _ => rfl) q hc hs
  obtain ⟨⟨hx, -⟩, vm0, locs, X, -⟩ := X
  exact ⟨_, _, X.returnOut hx hret (hb hby hd) hr, hrun, hended, hP⟩
/-! the beginning -/
theorem ctOf {y : MethodName} {bytes : ByteArray} {maxL : Nat} {ret : Option FieldType} {rm : Room} {as' : Array Value} {sf : List Addr} {Q : Option Value → Heap → (Addr → Prop) → Prop} (pn : plainName y.cls = true) (hO : Old Z Z.heap.size h) (hEL : EW Z a0 EL)
    (body : ∀ p e s m below meth c s₁ S, Sd w kn Z a0 EL p l e rm s m as' below meth c y.cls s₁ h S 0 0 → c.code = bytes → c.maxLocals = maxL → meth.sig.returnType = ret → meth.name = y.name → (∀ x ∈ sf, S x) →
      Go p e below (Pst w Z EL rm.cells rm.slots Q s) (s₁.setTop (entryFrame m as' maxL))) {ws : List Jvm.Cond} : Ct w kn Z EL l y bytes maxL ret rm as' h sf Q ws := by
  refine MetFree.of_bodySF (plainFor_of_name pn) hisR ?_
  intro p e s m args below meth c s₁ Bd hml0 hP hK
  obtain ⟨rfl, hZ, rfl, hC, hsf⟩ := hP
  have X0 : Stand p l e rm s m args below meth c s₁ [] 0 0 := Stand.of_body Bd
  have e0 : s₁.heap = s.heap := by rw [Bd.state]; rfl
  exact body p e s m below meth c s₁ (Safe Z EL s.vm s.heap) ⟨⟨Bd.exec, hEL, hK, BodyLoose.notSynchronized Bd, hO⟩, s.vm, [], X0, e0, hZ, findClass_of_methodNamed Bd.named, Mo.start w s _ (Nat.le_refl _), Fr.nil _, hO, CHr.refl hC, rfl⟩
    Bd.bytes hml0 Bd.returns (name_of_methodNamed Bd.named Bd.method).1 hsf
theorem Go.entry {g g' : JFrame} (q : g = g') (k : Go p e below A (T.setTop g')) : Go p e below A (T.setTop g) := q ▸ k
/-! the heap's instructions -/
theorem gNew (X : Sd w kn Z a0 EL p l e R s m args below meth c own T h S cells slots) (hby : c.code = code) {C : String} {index n : Nat} (w1 : (Jvm.Cond.classLink own index C).before a0 Z = true) (w2 : (Jvm.Cond.instantiable C n).before a0 Z = true) (w3 : (Jvm.Cond.initialized C).before a0 Z = true)
    (hd : decode code pc = .ok (.new index, 3)) (hc : cells + 1 ≤ R.cells) (hl : slots + n ≤ R.slots)
    (k : ∀ T' h' S', Sd w kn Z a0 EL p l e R s m args below meth c own T' h' S' (cells + 1) (slots + n) → Ext h h' → Exa Z h' h.size C → (∀ {O nm d : String} {ty : FieldType}, Laid Z a0 C O nm d → parseFieldDescriptor d = some ty → Fld Z h' h.size O nm d (defaultValue ty)) →
      (∃ cell : Cell, h'[h.size]? = some cell ∧ cell.vm = .none ∧ cell.monitor = {}) → (∀ x, S x → S' x) → S' h.size → Go p e below A (T'.setTop (mkF m (pc + 3) Ls (.ref h.size :: st)))) : Go p e below A (T.setTop (mkF m pc Ls st)) := by
  obtain ⟨q1, vm0, locs, X, eT, hZ, hown, hMo, N, hO, hC, rfl⟩ := X
  obtain ⟨T', h', X', e', E, A', D, M, stp⟩ := newO X q1.1 hZ hown w1 w2 w3 eT (g := mkF m pc Ls st) rfl (hb hby hd) hc hl
  exact Go.step stp (k T' h' (Safe Z EL vm0 h') ⟨q1, vm0, locs, X', e', hZ, hown, hMo.mono E.1, N, hO.ext E, hC.trans (CHr.ext E hC.1), rfl⟩ E A' D M (fun x hs => hs.ext E hC.1) fun B => by
    obtain ⟨cell, q⟩ := ((hC.1.step fun _ _ _ q => E.2 _ _ q).2 _ B).there
    exact absurd (Array.getElem?_eq_some_iff.mp q).1 (Nat.lt_irrefl _))
theorem gGetF (X : Sd w kn Z a0 EL p l e R s m args below meth c own T h S cells slots) (hby : c.code = code) {R0 O n d : String} {index : Nat} (w1 : (Jvm.Cond.fieldLink own index R0 n d).before a0 Z = true) (via : Via Z R0 O n d) {a : Addr} {v : Value} (F : Fld Z h a O n d v)
    (hd : decode code pc = .ok (.getfield index, 3)) (k : ∀ T', Sd w kn Z a0 EL p l e R s m args below meth c own T' h S cells slots → Go p e below A (T'.setTop (mkF m (pc + 3) Ls (v :: st)))) : Go p e below A (T.setTop (mkF m pc Ls (.ref a :: st))) := by
  obtain ⟨q1, vm0, locs, X, eT, hZ, r⟩ := X
  obtain ⟨T', X', e', stp⟩ := getF X q1.1 hZ r.1 (host := "") (Or.inl w1) via eT F (g := mkF m pc Ls (.ref a :: st)) rfl rfl (hb hby hd)
  exact Go.step stp (k T' ⟨q1, vm0, locs, X', e', hZ, r⟩)
theorem gGetS (X : Sd w kn Z a0 EL p l e R s m args below meth c own T h S cells slots) (hby : c.code = code) {R0 O n d : String} {index : Nat} (w1 : (Jvm.Cond.fieldLink own index R0 n d).before a0 Z = true) (via : Via Z R0 O n d) {v : Value} (F : Sta Z Z.heap O n d v)
    (hd : decode code pc = .ok (.getstatic index, 3)) (k : ∀ T', Sd w kn Z a0 EL p l e R s m args below meth c own T' h S cells slots → Go p e below A (T'.setTop (mkF m (pc + 3) Ls (v :: st)))) : Go p e below A (T.setTop (mkF m pc Ls st)) := by
  have hO := X.old
  obtain ⟨q1, vm0, locs, X, eT, hZ, r⟩ := X
  obtain ⟨T', X', e', stp⟩ := getS X q1.1 hZ r.1 (host := "") w1 via eT (F.ext hO.2) (g := mkF m pc Ls st) rfl (hb hby hd)
  exact Go.step stp (k T' ⟨q1, vm0, locs, X', e', hZ, r⟩)
theorem gPutF (X : Sd w kn Z a0 EL p l e R s m args below meth c own T h S cells slots) (hby : c.code = code) {R0 O n d C : String} {index kk : Nat} {ty : FieldType} (w1 : (Jvm.Cond.fieldLink own index R0 n d).before a0 Z = true) (via : Via Z R0 O n d) {a : Addr} {v old : Value} (F : Fld Z h a O n d old) (E : Exa Z h a C)
    (L : (Jvm.Cond.lays C O n d).before a0 Z = true ∨ ((Jvm.Cond.laysFinal C O n d).before a0 Z = true ∧ own = O ∧ meth.name = "<init>")) (wi : (Jvm.Cond.instantiable C kk).before a0 Z = true) (hty : parseFieldDescriptor d = some ty) (hn : narrow ty v = v) (hf : fits ty v = true) (hna : Z.heap.size ≤ a) (hs : S a)
    (hd : decode code pc = .ok (.putfield index, 3)) (k : ∀ T' h' S', Sd w kn Z a0 EL p l e R s m args below meth c own T' h' S' cells slots → Wr h h' a (Jvm.RoadKit.slotOf Z O n d) v → (∀ x, S x → S' x) → Go p e below A (T'.setTop (mkF m (pc + 3) Ls st))) : Go p e below A (T.setTop (mkF m pc Ls (v :: .ref a :: st))) := by
  obtain ⟨q1, vm0, locs, X, eT, hZ, hown, hMo, N, hO, hC, rfl⟩ := X
  obtain ⟨T', h', X', e', W, stp⟩ := putF X q1.1 hZ hown (host := "") (Or.inl w1) via eT F E L wi hty hn hf (g := mkF m pc Ls (v :: .ref a :: st)) rfl rfl (hb hby hd)
  exact Go.step stp (k T' h' (Safe Z EL vm0 h') ⟨q1, vm0, _, X', e', hZ, hown, hMo.mono (Nat.le_of_eq W.size.symm), Fr.snoc X' N hna, hO.wr W hna, hC.trans (CHr.wr W hs hC.1), rfl⟩ W (fun x hx => Safe.wr W hs hC.1 hx))
theorem gInitO (X : Sd w kn Z a0 EL p l e R s m args below meth c own T h S cells slots) (hby : c.code = code) {idx : Nat} (w1 : (Jvm.Cond.methodLink own idx Lib.objectInit).before a0 Z = true) (w2 : (Jvm.Cond.instanceMethod Lib.objectInit).before a0 Z = true) (w3 : (Jvm.Cond.code Lib.objectInit ⟨#[0xb1]⟩ 1 none).before a0 Z = true)
    (hsz : Ls.size = c.maxLocals) {a : Addr} (hd : decode code pc = .ok (.invokespecial idx, 3)) (hf : 1 ≤ R.frames) (hl : (st.map fun v => v.category).sum + 12 ≤ R.locals)
    (k : ∀ T', Sd w kn Z a0 EL p l e R s m args below meth c own T' h S cells slots → Go p e below A (T'.setTop (mkF m (pc + 3) Ls st))) : Go p e below A (T.setTop (mkF m pc Ls (.ref a :: st))) := by
  obtain ⟨q1, vm0, locs, X, eT, hZ, r⟩ := X
  obtain ⟨T', X', e', stp⟩ := initO X q1.1 hZ r.1 w1 w2 w3 eT (g := mkF m pc Ls (.ref a :: st)) rfl hsz rfl (hb hby hd) hf (W := (st.map fun v => v.category).sum) (by show 2 * 0 + _ ≤ _; omega) hl
  exact Go.step stp (k T' ⟨q1, vm0, locs, X', e', hZ, r⟩)
end OwnLaws
section OwnArrays
variable {p : Program} {l : Launch} {e : Env} {R : Room} {s : State} {m : MethodId} {args : Array Value} {below : List Frame} {meth : Method} {c : Code} {T : State} {locs : List Loc} {cells slots : Nat} {Z : State} {a0 : Array Value} {h h' : Heap} {EL : List (String × Nat)} {own : String} {w kn : Bool} {S : Addr → Prop} {A : Outcome → State → Prop} {Ls : Array Slot} {st : List Value} {pc : Nat} {code : ByteArray} {a b : Addr} {ty : FieldType} {xs : List Int32}
theorem n32 {n : Nat} (hn : n < 2147483648) : (Int32.ofNat n).toInt = n := Int32.toInt_ofNat_small hn
theorem c32 {n : Nat} (hn : n < 2147483648) : (Int32.ofNat n).toNatClampNeg = n := by simp only [Int32.toNatClampNeg, n32 hn]; omega
theorem nn32 {n : Nat} (hn : n < 2147483648) : ¬ Int32.ofNat n < 0 := by
  rw [Int32.lt_iff_toInt_lt, n32 hn]; simp
/-- an array of ints (chars, bytes ..) whose components are all known -/
def Ari (Z : State) (h : Heap) (a : Addr) (ty : FieldType) (xs : List Int32) : Prop := xs.length < 2147483648 ∧ ∃ k, Arv Z h a k ty (Int32.ofNat xs.length) (xs.map Value.int) (.int 0)
theorem Ari.ext (E : Ext h h') (F : Ari Z h a ty xs) : Ari Z h' a ty xs := by obtain ⟨q, k, F⟩ := F; exact ⟨q, k, F.ext E⟩
theorem Ari.keep {ws : List Addr} (F : Ari Z h a ty xs) (K : Keep h h' ws) (q : a ∉ ws) : Ari Z h' a ty xs := by obtain ⟨r, k, F⟩ := F; exact ⟨r, k, F.keep K q⟩
theorem Ari.other {sl : Nat} {v : Value} (F : Ari Z h a ty xs) (W : Wr h h' b sl v) (q : a ≠ b) : Ari Z h' a ty xs := by obtain ⟨r, k, F⟩ := F; exact ⟨r, k, F.other W q⟩
theorem Ari.lt (F : Ari Z h a ty xs) : a < h.size := by obtain ⟨-, k, F⟩ := F; exact F.lt
theorem Ari.len (F : Ari Z h a ty xs) : xs.length < 2147483648 := F.1
theorem Ari.fits (F : Ari Z h a ty xs) {i : Nat} (hi : i < xs.length) : fits ty (.int (xs.getD i 0)) = true := by
  obtain ⟨q, k, cl, A, r1, r2, r3, H, G⟩ := F
  have := G i (by rw [r2, c32 q]; exact hi)
  simpa [List.getD_eq_getElem?_getD, hi] using this
theorem Sd.safeAri (X : Sd w kn Z a0 EL p l e R s m args below meth c own T h S cells slots) (F : Ari Z h a ty xs) (ht : ty ≠ .byte) : S a := by obtain ⟨-, k, F⟩ := F; exact X.safeArr F ht
theorem nar_fits {x : Int32} (ht : ty = .int ∨ ty = .char ∨ ty = .byte ∨ ty = .boolean) (hf : Jvm.fits ty (.int x) = true) : nar ty x = x := by
  rcases ht with rfl | rfl | rfl | rfl
  · rfl
  · have q := rng_char hf
    apply Int32.toInt_inj.mp
    have r := c_i2c x
    simp only [nar]
    simp only [Int32.lt_iff_toInt_lt, Int32.reduceToInt] at q
    omega
  · have q := rng_byte hf
    apply Int32.toInt_inj.mp
    have r := c_i2b x
    simp only [nar]
    simp only [Int32.lt_iff_toInt_lt, Int32.reduceToInt] at q
    omega
  · simp only [Jvm.fits, Bool.or_eq_true, beq_iff_eq] at hf
    rcases hf with rfl | rfl <;> rfl
theorem gLen (X : Sd w kn Z a0 EL p l e R s m args below meth c own T h S cells slots) (hby : c.code = code) (F : Ari Z h a ty xs) (hd : decode code pc = .ok (.arraylength, 1)) (k : Go p e below A (T.setTop (mkF m (pc + 1) Ls (.int (Int32.ofNat xs.length) :: st)))) :
    Go p e below A (T.setTop (mkF m pc Ls (.ref a :: st))) := by
  obtain ⟨q1, vm0, locs, X, eT, hZ, -⟩ := X
  obtain ⟨q, kk, cl, F, r1, r2, r3, H, G⟩ := F
  refine Go.step (fun t k => X.arraylength q1.1 (by rw [eT]; exact F.1) (State.isArrayOf_alike (T := s.setVm vm0) hZ.alike F.2.1) (g := mkF m pc Ls (.ref a :: st)) rfl rfl (hb hby hd) t k) ?_
  rw [len_of r2 r3]; exact k
theorem gLd (X : Sd w kn Z a0 EL p l e R s m args below meth c own T h S cells slots) (hby : c.code = code) (F : Ari Z h a ty xs) {ins : Instr} (hi : (ins = .iaload ∧ ty = .int) ∨ (ins = .caload ∧ ty = .char) ∨ (ins = .baload ∧ ty = .byte)) (hd : decode code pc = .ok (ins, 1)) {j : Int32} {i : Nat} (hj : j = Int32.ofNat i) (hl : i < xs.length)
    (k : Go p e below A (T.setTop (mkF m (pc + 1) Ls (.int (xs.getD i 0) :: st)))) : Go p e below A (T.setTop (mkF m pc Ls (.int j :: .ref a :: st))) := by
  obtain ⟨q1, vm0, locs, X, eT, hZ, -⟩ := X
  obtain ⟨q, kk, cl, F, r1, r2, r3, H, G⟩ := F
  subst hj
  have hi31 : i < 2147483648 := Nat.lt_trans hl q
  have hin : ¬ (Int32.ofNat i < 0 ∨ cl.slots.size ≤ (Int32.ofNat i).toNatClampNeg) := by
    rw [r2, c32 q, c32 hi31]; exact fun z => z.elim (nn32 hi31) (by omega)
  have hat : cl.slots[(Int32.ofNat i).toNatClampNeg]? = some (.int (xs.getD i 0)) := Has.at H hin (by rw [c32 hi31]; simp [List.getD_eq_getElem?_getD, hl])
  have hT := State.isArrayOf_alike (T := s.setVm vm0) hZ.alike F.2.1
  have hc : T.heap[a]? = some cl := by rw [eT]; exact F.1
  rcases hi with ⟨rfl, rfl⟩ | ⟨rfl, rfl⟩ | ⟨rfl, rfl⟩
  · exact Go.step (fun t k => X.iaload q1.1 hc hT F.2.2 hin hat (g := mkF m pc Ls _) rfl rfl (hb hby hd) t k) k
  · exact Go.step (fun t k => X.caload q1.1 hc hT F.2.2 hin hat (g := mkF m pc Ls _) rfl rfl (hb hby hd) t k) k
  · exact Go.step (fun t k => X.baloadBytes q1.1 hc hT F.2.2 hin hat (g := mkF m pc Ls _) rfl rfl (hb hby hd) t k) k
theorem gSt (X : Sd w kn Z a0 EL p l e R s m args below meth c own T h S cells slots) (hby : c.code = code) (F : Ari Z h a ty xs) {ins : Instr} (hi : (ins = .iastore ∧ ty = .int) ∨ (ins = .castore ∧ ty = .char) ∨ (ins = .bastore ∧ ty = .byte)) (hd : decode code pc = .ok (ins, 1)) {j x : Int32} {i : Nat} (hj : j = Int32.ofNat i) (hl : i < xs.length)
    (hf : Jvm.fits ty (.int (nar ty x)) = true) (hna : Z.heap.size ≤ a) (hs : S a)
    (k : ∀ T' h' S', Sd w kn Z a0 EL p l e R s m args below meth c own T' h' S' cells slots → Wr h h' a i (.int (nar ty x)) → Ari Z h' a ty (xs.set i (nar ty x)) → (∀ x, S x → S' x) → Go p e below A (T'.setTop (mkF m (pc + 1) Ls st))) :
    Go p e below A (T.setTop (mkF m pc Ls (.int x :: .int j :: .ref a :: st))) := by
  obtain ⟨q1, vm0, locs, X, eT, hZ, hown, hMo, N, hO, hC, rfl⟩ := X
  obtain ⟨q, kk, cl, F, r1, r2, r3, H, G⟩ := F
  subst hj
  have hi31 : i < 2147483648 := Nat.lt_trans hl q
  have hin : ¬ (Int32.ofNat i < 0 ∨ cl.slots.size ≤ (Int32.ofNat i).toNatClampNeg) := by
    rw [r2, c32 q, c32 hi31]; exact fun z => z.elim (nn32 hi31) (by omega)
  have go : ∀ T' h', Stand p l e R (s.setVm vm0) m args below meth c T' (locs ++ [⟨a, (Int32.ofNat i).toNatClampNeg⟩]) cells slots → T'.heap = h' → Wr h h' a (Int32.ofNat i).toNatClampNeg (.int (nar ty x)) →
      (∀ target, Steps p.tables e below (T'.setTop (mkF m (pc + 1) Ls st)) target → Steps p.tables e below (T.setTop (mkF m pc Ls (.int x :: .int (Int32.ofNat i) :: .ref a :: st))) target) → Go p e below A (T.setTop (mkF m pc Ls (.int x :: .int (Int32.ofNat i) :: .ref a :: st))) := by
    intro T' h' X' e' W stp
    refine Go.step stp (k T' h' (Safe Z EL vm0 h') ⟨q1, vm0, _, X', e', hZ, hown, hMo.mono (Nat.le_of_eq W.size.symm), Fr.snoc X' N hna, hO.wr W hna, hC.trans (CHr.wr W hs hC.1), rfl⟩ (by rw [c32 hi31] at W; exact W) ⟨by simpa using q, kk, ?_⟩ (fun x hx => Safe.wr W hs hC.1 hx))
    have := Arv.set (v := .int (nar ty x)) F r1 r2 r3 H G hf W i (c32 hi31) (by simpa using hl)
    rw [List.length_set, List.map_set]
    exact this
  rcases hi with ⟨rfl, rfl⟩ | ⟨rfl, rfl⟩ | ⟨rfl, rfl⟩
  · obtain ⟨T', h', X', e', W, stp⟩ := stI X q1.1 hZ eT F hin (g := mkF m pc Ls _) rfl rfl (hb hby hd)
    exact go T' h' X' e' W stp
  · obtain ⟨T', h', X', e', W, stp⟩ := stC X q1.1 hZ eT F hin (g := mkF m pc Ls _) rfl rfl (hb hby hd)
    exact go T' h' X' e' W stp
  · obtain ⟨T', h', X', e', W, stp⟩ := stB X q1.1 hZ eT F hin (g := mkF m pc Ls _) rfl rfl (hb hby hd)
    exact go T' h' X' e' W stp
theorem gNewA (X : Sd w kn Z a0 EL p l e R s m args below meth c own T h S cells slots) (hby : c.code = code) {aty : ArrayType} (w1 : (Jvm.Cond.arrayClass (newarray.typeOf aty)).before a0 Z = true) (hd : decode code pc = .ok (.newarray aty, 2)) (hdv : defaultValue (newarray.typeOf aty) = .int 0) {n : Int32} {N cap : Nat} (hn : n = Int32.ofNat N) (hN : N ≤ cap) (hb8 : cap * 8 ≤ 536870912)
    (hc : cells + 1 ≤ R.cells) (hl : slots + cap ≤ R.slots)
    (k : ∀ T' h' S', Sd w kn Z a0 EL p l e R s m args below meth c own T' h' S' (cells + 1) (slots + cap) → Ext h h' → Ari Z h' h.size (newarray.typeOf aty) (List.replicate N 0) → (∀ x, S x → S' x) → S' h.size → Go p e below A (T'.setTop (mkF m (pc + 2) Ls (.ref h.size :: st)))) :
    Go p e below A (T.setTop (mkF m pc Ls (.int n :: st))) := by
  obtain ⟨q1, vm0, locs, X, eT, hZ, hown, hMo, N0, hO, hC, rfl⟩ := X
  subst hn
  have hN31 : N < 2147483648 := by omega
  obtain ⟨T', h', kA, X', e', E, A', stp⟩ := newP X q1.1 hZ w1 eT (g := mkF m pc Ls _) rfl (hb hby hd) rfl (nn32 hN31) (cap := cap) (by rw [c32 hN31]; exact hN) hb8 hc hl
  refine Go.step stp (k T' h' (Safe Z EL vm0 h') ⟨q1, vm0, locs, X', e', hZ, hown, hMo.mono E.1, N0, hO.ext E, hC.trans (CHr.ext E hC.1), rfl⟩ E ⟨by simpa using hN31, kA, ?_⟩ (fun x hs => hs.ext E hC.1) fun B => by
    obtain ⟨cell, q⟩ := ((hC.1.step fun _ _ _ q => E.2 _ _ q).2 _ B).there
    exact absurd (Array.getElem?_eq_some_iff.mp q).1 (Nat.lt_irrefl _))
  have V := Arv.new A' (nn32 hN31)
  rw [hdv] at V
  have := V.pad (vs' := [] ++ List.replicate N (.int 0)) (pad_rep [] (.int 0) N)
  rw [List.nil_append] at this
  simpa using this
end OwnArrays
section OwnCalls
variable {p : Program} {l : Launch} {e : Env} {R : Room} {s : State} {m : MethodId} {args : Array Value} {below : List Frame} {meth : Method} {c : Code} {T : State} {locs : List Loc} {cells slots : Nat} {Z : State} {a0 : Array Value} {h h' : Heap} {EL : List (String × Nat)} {own : String} {w kn : Bool} {S : Addr → Prop} {A : Outcome → State → Prop} {Ls : Array Slot} {st stk : List Value} {pc : Nat} {code : ByteArray}
  {y : MethodName} {bytes : ByteArray} {maxL : Nat} {ret : Option FieldType} {rm : Room} {as' : Array Value} {sf : List Addr} {Q : Option Value → Heap → (Addr → Prop) → Prop} {vm0 : Vm} {len W : Nat}
/-- what comes back of a call by its contract -/
def Bck (Z : State) (EL : List (String × Nat)) (rm : Room) (Q : Option Value → Heap → (Addr → Prop) → Prop) (vm0 : Vm) (h : Heap) (A : Pt) (v : Option Value) (B : Pt) : Prop := ∃ L, Q v B.U.heap (Safe Z EL B.U.vm B.U.heap) ∧ Fr Z.heap.size L ∧ Old Z Z.heap.size B.U.heap ∧ B.locs = A.locs ++ L ∧ B.cells = A.cells + rm.cells ∧ B.slots = A.slots + rm.slots ∧ CHr Z EL vm0 h B.U.vm B.U.heap
theorem Ct.backW (K : Ct true kn Z EL l y bytes maxL ret rm as' h sf Q) (hZ : Z.Warmed39 vm0) (wc : (Jvm.Cond.code y bytes maxL ret).before a0 Z = true) (wz : (Jvm.Cond.initialized y.cls).before a0 Z = true) (hf : rm.frames + 1 ≤ R.frames) (hl : W + (maxL + 11) + rm.locals ≤ R.locals) (hEL : EW Z a0 EL) (H : CHv Z EL vm0 h) (hsf : ∀ x ∈ sf, Safe Z EL vm0 h x) (hKn : Kn kn vm0 below) :
    BackS l R p e below (s.setVm vm0) args y len W (fun A a => a = as' ∧ A.U.heap = h ∧ A.cells + rm.cells ≤ R.cells ∧ A.slots + rm.slots ≤ R.slots) (fun A _ v B => Bck Z EL rm Q vm0 h A v B) :=
  BackS.of_freeWG (bytes := bytes) (maxL := maxL) (ret := ret) (E := fun _ first o t L k n => k = rm.cells ∧ n = rm.slots ∧ (∃ v, o = .returned v ∧ Q v t.heap (Safe Z EL t.vm t.heap)) ∧ Fr Z.heap.size L ∧ Old Z Z.heap.size t.heap ∧ CHr Z EL first.vm first.heap t.vm t.heap) K hf hl
    (fun m meth c A a Y hp => have hU : Z.Warmed39 A.U.vm := wtrans (s := s.setVm vm0) hZ Y.warmed
      ⟨by show (Jvm.Cond.and _ .tt).before a A.U = true; rw [Cond.before_and, mv hU wc]; rfl, mv hU wc, mv hU wz, hp.2.2.1, hp.2.2.2⟩)
    (fun m meth c A a g mk Y hp => ⟨hp.1, wtrans (s := s.setVm vm0) hZ Y.warmed, hp.2.1, (CHv.at Y hZ hEL H).1, fun x hx => by
      by_cases hlt : x < h.size
      · exact (CHv.at Y hZ hEL H).safe hlt (hsf x hx)
      · exact Safe.new (Nat.le_of_not_lt hlt)⟩)
    (fun m meth c A a g mk Y _ hg => by
      cases kn with
      | false => trivial
      | true => exact known_frames Y hg hKn.1 hKn.2)
    (fun _ _ _ _ ⟨v, L, h1, h2, h3, h4, h5, h6⟩ => ⟨L, _, _, h6, rfl, rfl, ⟨v, h1, h2⟩, h3, h4, h5⟩)
    (fun m meth c A a g mk v t L k n Y hp _ _ ⟨e1, e2, ⟨v', e3, e4⟩, e5, e6, e7⟩ => by
      cases e3; subst e1 e2
      refine ⟨L, e4, e5, e6, rfl, rfl, rfl, (CHv.at Y hZ hEL H).trans ?_⟩
      rw [← hp.2.1]; exact e7)
theorem Ct.backN (K : Ct false kn Z EL l y bytes maxL ret rm as' h sf Q) (hZ : Z.Warmed39 vm0) (wc : (Jvm.Cond.code y bytes maxL ret).before a0 Z = true) (wz : (Jvm.Cond.initialized y.cls).before a0 Z = true) (hf : rm.frames + 1 ≤ R.frames) (hl : W + (maxL + 11) + rm.locals ≤ R.locals) (hEL : EW Z a0 EL) (H : CHv Z EL vm0 h) (hsf : ∀ x ∈ sf, Safe Z EL vm0 h x) (hKn : Kn kn vm0 below) :
    Back l R p e below (s.setVm vm0) args y len W (fun A a => a = as' ∧ A.U.heap = h ∧ A.cells + rm.cells ≤ R.cells ∧ A.slots + rm.slots ≤ R.slots) (fun A _ v B => Bck Z EL rm Q vm0 h A v B) :=
  Back.of_freeG (bytes := bytes) (maxL := maxL) (ret := ret) (E := fun _ first o t L k n => k = rm.cells ∧ n = rm.slots ∧ (∃ v, o = .returned v ∧ Q v t.heap (Safe Z EL t.vm t.heap)) ∧ Fr Z.heap.size L ∧ Old Z Z.heap.size t.heap ∧ CHr Z EL first.vm first.heap t.vm t.heap) K hf hl
    (fun m meth c A a Y hp => have hU : Z.Warmed39 A.U.vm := wtrans (s := s.setVm vm0) hZ Y.warmed
      ⟨by show (Jvm.Cond.and _ .tt).before a A.U = true; rw [Cond.before_and, mv hU wc]; rfl, mv hU wc, mv hU wz, hp.2.2.1, hp.2.2.2⟩)
    (fun m meth c A a g mk Y hp => ⟨hp.1, wtrans (s := s.setVm vm0) hZ Y.warmed, hp.2.1, (CHv.at Y hZ hEL H).1, fun x hx => by
      by_cases hlt : x < h.size
      · exact (CHv.at Y hZ hEL H).safe hlt (hsf x hx)
      · exact Safe.new (Nat.le_of_not_lt hlt)⟩)
    (fun m meth c A a g mk Y _ hg => by
      cases kn with
      | false => trivial
      | true => exact known_frames Y hg hKn.1 hKn.2)
    (fun _ _ _ _ ⟨v, L, h1, h2, h3, h4, h5, h6⟩ => ⟨L, _, _, h6, rfl, rfl, ⟨v, h1, h2⟩, h3, h4, h5⟩)
    (fun m meth c A a g mk v t L k n Y hp _ _ ⟨e1, e2, ⟨v', e3, e4⟩, e5, e6, e7⟩ => by
      cases e3; subst e1 e2
      refine ⟨L, e4, e5, e6, rfl, rfl, rfl, (CHv.at Y hZ hEL H).trans ?_⟩
      rw [← hp.2.1]; exact e7)
/-- the walk behind a call, wide and narrow -/
theorem doneW {T' : State} {B : Pt} {v : Option Value} {A0 : Pt} (q1 : Bs kn Z a0 EL p s below meth) (hZ : Z.Warmed39 vm0) (hown : vm0.findClass own = some m.cls) (hMo : Mo true s vm0 h.size) (N : Fr Z.heap.size A0.locs) (hC : CHr Z EL s.vm s.heap vm0 h)
    (X' : Stand p l e R ((s.setVm vm0).setVm B.U.vm) m args below meth c B.U B.locs B.cells B.slots) (hS : (s.setVm vm0).Since B.U.vm B.U.heap.size) (hB : Bck Z EL rm Q vm0 h A0 v B) :
    Sd true kn Z a0 EL p l e R s m args below meth c own B.U B.U.heap (Safe Z EL B.U.vm B.U.heap) (A0.cells + rm.cells) (A0.slots + rm.slots) ∧ Q v B.U.heap (Safe Z EL B.U.vm B.U.heap) ∧ (∀ x, x < h.size → Safe Z EL vm0 h x → Safe Z EL B.U.vm B.U.heap x) ∧ h.size ≤ B.U.heap.size := by
  obtain ⟨L, hQ, hN, hO', l1, l2, l3, hC'⟩ := hB
  rw [l1, l2, l3] at X'
  exact ⟨⟨q1, _, _, X', rfl, State.Warmed39.trans (t := s.setVm vm0) hZ hS.1, by rw [hS.1.alike.findClass]; exact hown, hMo.since hS hC'.2.1, Fr.app N hN, hO', hC.trans hC', rfl⟩, hQ, fun x hx hs => hC'.safe hx hs, hC'.2.1⟩
theorem doneN {B : Pt} {v : Option Value} {A0 : Pt} (q1 : Bs kn Z a0 EL p s below meth) (hZ : Z.Warmed39 vm0) (hown : vm0.findClass own = some m.cls) (hMo : Mo w s vm0 h.size) (N : Fr Z.heap.size A0.locs) (hC : CHr Z EL s.vm s.heap vm0 h)
    (X' : Stand p l e R (s.setVm vm0) m args below meth c B.U B.locs B.cells B.slots) (hB : Bck Z EL rm Q vm0 h A0 v B) :
    Sd w kn Z a0 EL p l e R s m args below meth c own B.U B.U.heap (Safe Z EL B.U.vm B.U.heap) (A0.cells + rm.cells) (A0.slots + rm.slots) ∧ Q v B.U.heap (Safe Z EL B.U.vm B.U.heap) ∧ (∀ x, x < h.size → Safe Z EL vm0 h x → Safe Z EL B.U.vm B.U.heap x) ∧ h.size ≤ B.U.heap.size := by
  obtain ⟨L, hQ, hN, hO', l1, l2, l3, hC'⟩ := hB
  have hW := X'.warmed
  have X2 := X'.retabled X'.warmed.wide
  rw [l1, l2, l3] at X2
  exact ⟨⟨q1, _, _, X2, rfl, State.Warmed39.trans (t := s.setVm vm0) hZ hW.wide, by rw [hW.alike.findClass]; exact hown, (hMo.narrow hW).mono hC'.2.1, Fr.app N hN, hO', hC.trans hC', rfl⟩, hQ, fun x hx hs => hC'.safe hx hs, hC'.2.1⟩
theorem gStatic (X : Sd w kn Z a0 EL p l e R s m args below meth c own T h S cells slots) (hby : c.code = code) {index : Nat} {argsL : List Value} (K : Ct w kn Z EL l y bytes maxL ret rm argsL.toArray h sf Q)
    (w1 : (Jvm.Cond.methodLink own index y).before a0 Z = true) (w2 : (Jvm.Cond.static y).before a0 Z = true) (w3 : (Jvm.Cond.initialized y.cls).before a0 Z = true) (w4 : (Jvm.Cond.code y bytes maxL ret).before a0 Z = true) {ps : List FieldType} {r : Option FieldType} (hdesc : parseMethodDescriptor y.desc = some ⟨ps, r⟩) (hlen : argsL.length = ps.length)
    (hd : decode code pc = .ok (.invokestatic index, 3)) (hstk : stk = argsL.reverse ++ st) (hsz : Ls.size = c.maxLocals) (hsf : ∀ x ∈ sf, S x) (hfr : rm.frames + 1 ≤ R.frames) (hlo : (st.map fun v => v.category).sum + (maxL + 11) + rm.locals ≤ R.locals) (hc : cells + rm.cells ≤ R.cells) (hs : slots + rm.slots ≤ R.slots)
    (k : ∀ v T' h' S', Sd w kn Z a0 EL p l e R s m args below meth c own T' h' S' (cells + rm.cells) (slots + rm.slots) → Q v h' S' → (∀ x, x < h.size → S x → S' x) → h.size ≤ h'.size → Go p e below A (T'.setTop (mkF m (pc + 3) Ls (v.toList ++ st))))
    (hy : y.cls ≠ "java/lang/invoke/MethodHandle" ∧ y.cls ≠ "java/lang/invoke/VarHandle" := by decide) : Go p e below A (T.setTop (mkF m pc Ls stk)) := by
  obtain ⟨q1, vm0, locs, X, eT, hZ, hown, hMo, N, hO, hC, rfl⟩ := X
  have hKn := q1.2.2.1.mv hMo.alike
  cases w with
  | false =>
    obtain ⟨v, vm1, B, -, X', hB, stp⟩ := Jvm.LawKit.callS X q1.1 hown (mvT (s := s.setVm vm0) hZ w1) (mvT (s := s.setVm vm0) hZ w2) (mvT (s := s.setVm vm0) hZ w3) (mvT (s := s.setVm vm0) hZ w4) hy (K.backN (W := (st.map fun v => v.category).sum) hZ w4 w3 hfr hlo q1.2.1 hC.1 hsf hKn) (g := mkF m pc Ls stk) rfl hsz (argsL := argsL) (rest := st) (lenOf hdesc hlen) hstk (by show 2 * 0 + _ ≤ _; omega) (hb hby hd) (fun _ _ => ⟨rfl, eT, hc, hs⟩)
    obtain ⟨X1, hQ, hS, hz⟩ := doneN (A0 := ⟨T.setVm vm1, locs, cells, slots⟩) q1 hZ hown hMo N hC X' hB
    exact Go.step stp (k v _ _ _ X1 hQ hS hz)
  | true =>
    obtain ⟨v, vm1, B, -, X', hSi, -, hB, stp⟩ := callSS X q1.1 hown (mvT (s := s.setVm vm0) hZ w1) (mvT (s := s.setVm vm0) hZ w2) (mvT (s := s.setVm vm0) hZ w3) (mvT (s := s.setVm vm0) hZ w4) hy (K.backW (W := (st.map fun v => v.category).sum) hZ w4 w3 hfr hlo q1.2.1 hC.1 hsf hKn) (g := mkF m pc Ls stk) rfl hsz (argsL := argsL) (rest := st) (lenOf hdesc hlen) hstk (by show 2 * 0 + _ ≤ _; omega) (hb hby hd) (fun _ _ => ⟨rfl, eT, hc, hs⟩)
    obtain ⟨X1, hQ, hS, hz⟩ := doneW (T' := T) (A0 := ⟨T.setVm vm1, locs, cells, slots⟩) q1 hZ hown hMo N hC X' hSi hB
    exact Go.tr stp (k v _ _ _ X1 hQ hS hz)
theorem gInit (X : Sd w kn Z a0 EL p l e R s m args below meth c own T h S cells slots) (hby : c.code = code) {index : Nat} {a : Addr} {argsL : List Value} (K : Ct w kn Z EL l y bytes maxL none rm (.ref a :: argsL).toArray h sf Q) (hy1 : y.name = "<init>")
    (w1 : (Jvm.Cond.methodLink own index y).before a0 Z = true) (w2 : (Jvm.Cond.instanceMethod y).before a0 Z = true) (w3 : (Jvm.Cond.initialized y.cls).before a0 Z = true) (w4 : (Jvm.Cond.code y bytes maxL none).before a0 Z = true) {ps : List FieldType} {r : Option FieldType} (hdesc : parseMethodDescriptor y.desc = some ⟨ps, r⟩) (hlen : argsL.length = ps.length)
    (hd : decode code pc = .ok (.invokespecial index, 3)) (hstk : stk = argsL.reverse ++ .ref a :: st) (hsz : Ls.size = c.maxLocals) (hsf : ∀ x ∈ sf, S x) (hfr : rm.frames + 1 ≤ R.frames) (hlo : (st.map fun v => v.category).sum + (maxL + 11) + rm.locals ≤ R.locals) (hc : cells + rm.cells ≤ R.cells) (hs : slots + rm.slots ≤ R.slots)
    (k : ∀ v T' h' S', Sd w kn Z a0 EL p l e R s m args below meth c own T' h' S' (cells + rm.cells) (slots + rm.slots) → Q v h' S' → (∀ x, x < h.size → S x → S' x) → h.size ≤ h'.size → Go p e below A (T'.setTop (mkF m (pc + 3) Ls (v.toList ++ st))))
    (hy : y.cls ≠ "java/lang/invoke/MethodHandle" ∧ y.cls ≠ "java/lang/invoke/VarHandle" := by decide) : Go p e below A (T.setTop (mkF m pc Ls stk)) := by
  obtain ⟨q1, vm0, locs, X, eT, hZ, hown, hMo, N, hO, hC, rfl⟩ := X
  have hKn := q1.2.2.1.mv hMo.alike
  cases w with
  | false =>
    obtain ⟨v, vm1, B, -, X', hB, stp⟩ := X.specialBack q1.1 hy1 hown (mvT (s := s.setVm vm0) hZ w1) (mvT (s := s.setVm vm0) hZ w2) (mvT (s := s.setVm vm0) hZ w4) hy (K.backN (W := (st.map fun v => v.category).sum) hZ w4 w3 hfr hlo q1.2.1 hC.1 hsf hKn) (g := mkF m pc Ls stk) rfl hsz (Steps.refl _) (a := a) (argsL := argsL) (rest := st) (lenOf hdesc hlen) hstk (by show 2 * 0 + _ ≤ _; omega) (hb hby hd) (fun _ _ => ⟨rfl, eT, hc, hs⟩)
    obtain ⟨X1, hQ, hS, hz⟩ := doneN (A0 := ⟨T.setVm vm1, locs, cells, slots⟩) q1 hZ hown hMo N hC X' hB
    exact Go.tr stp (k v _ _ _ X1 hQ hS hz)
  | true =>
    obtain ⟨v, vm1, B, -, X', hSi, -, hB, stp⟩ := X.specialBackS q1.1 hy1 hown (mvT (s := s.setVm vm0) hZ w1) (mvT (s := s.setVm vm0) hZ w2) (mvT (s := s.setVm vm0) hZ w4) hy (K.backW (W := (st.map fun v => v.category).sum) hZ w4 w3 hfr hlo q1.2.1 hC.1 hsf hKn) (g := mkF m pc Ls stk) rfl hsz (Steps.refl _) (a := a) (argsL := argsL) (rest := st) (lenOf hdesc hlen) hstk (by show 2 * 0 + _ ≤ _; omega) (hb hby hd) (fun _ _ => ⟨rfl, eT, hc, hs⟩)
    obtain ⟨X1, hQ, hS, hz⟩ := doneW (T' := T) (A0 := ⟨T.setVm vm1, locs, cells, slots⟩) q1 hZ hown hMo N hC X' hSi hB
    exact Go.tr stp (k v _ _ _ X1 hQ hS hz)
/-- invokevirtual of y, which it also selects -/
theorem gVirt (X : Sd w kn Z a0 EL p l e R s m args below meth c own T h S cells slots) (hby : c.code = code) {index : Nat} {a : Addr} {C : String} {argsL : List Value} (K : Ct w kn Z EL l y bytes maxL ret rm (.ref a :: argsL).toArray h sf Q) (E : Exa Z h a C)
    (w1 : (Jvm.Cond.methodLink own index y).before a0 Z = true) (w2 : (Jvm.Cond.declares y).before a0 Z = true) (w5 : (Jvm.Cond.selects C y y).before a0 Z = true) (w6 : (Jvm.Cond.instanceMethod y).before a0 Z = true) (w3 : (Jvm.Cond.initialized y.cls).before a0 Z = true) (w4 : (Jvm.Cond.code y bytes maxL ret).before a0 Z = true) {ps : List FieldType} {r : Option FieldType} (hdesc : parseMethodDescriptor y.desc = some ⟨ps, r⟩) (hlen : argsL.length = ps.length)
    (hd : decode code pc = .ok (.invokevirtual index, 3)) (hstk : stk = argsL.reverse ++ .ref a :: st) (hsz : Ls.size = c.maxLocals) (hsf : ∀ x ∈ sf, S x) (hfr : rm.frames + 1 ≤ R.frames) (hlo : (st.map fun v => v.category).sum + (maxL + 11) + rm.locals ≤ R.locals) (hc : cells + rm.cells ≤ R.cells) (hs : slots + rm.slots ≤ R.slots)
    (k : ∀ v T' h' S', Sd w kn Z a0 EL p l e R s m args below meth c own T' h' S' (cells + rm.cells) (slots + rm.slots) → Q v h' S' → (∀ x, x < h.size → S x → S' x) → h.size ≤ h'.size → Go p e below A (T'.setTop (mkF m (pc + 3) Ls (v.toList ++ st))))
    (hy : y.cls ≠ "java/lang/invoke/MethodHandle" ∧ y.cls ≠ "java/lang/invoke/VarHandle" := by decide) : Go p e below A (T.setTop (mkF m pc Ls stk)) := by
  obtain ⟨q1, vm0, locs, X, eT, hZ, hown, hMo, N, hO, hC, rfl⟩ := X
  have hKn := q1.2.2.1.mv hMo.alike
  obtain ⟨cq, kq, i1, i2, i3⟩ := isOf (s := s.setVm vm0) hZ eT E
  cases w with
  | false =>
    obtain ⟨v, vm1, B, -, X', hB, stp⟩ := X.virtualBack q1.1 (y := y) (z := y) hown (mvT (s := s.setVm vm0) hZ w1) (mvT (s := s.setVm vm0) hZ w2) (notFace_of_selects (args := #[]) (mvT (s := s.setVm vm0) hZ w5)) (mvT (s := s.setVm vm0) hZ w5) (mvT (s := s.setVm vm0) hZ w6) hy (K.backN (W := (st.map fun v => v.category).sum) hZ w4 w3 hfr hlo q1.2.1 hC.1 hsf hKn) i1 i3 (g := mkF m pc Ls stk) rfl hsz (Steps.refl _) (argsL := argsL) (rest := st) (lenOf hdesc hlen) hstk (by show 2 * 0 + _ ≤ _; omega) (hb hby hd) (fun _ _ => ⟨rfl, eT, hc, hs⟩)
    obtain ⟨X1, hQ, hS, hz⟩ := doneN (A0 := ⟨T.setVm vm1, locs, cells, slots⟩) q1 hZ hown hMo N hC X' hB
    exact Go.tr stp (k v _ _ _ X1 hQ hS hz)
  | true =>
    obtain ⟨v, vm1, B, -, X', hSi, -, hB, stp⟩ := X.virtualBackS q1.1 (y := y) (z := y) hown (mvT (s := s.setVm vm0) hZ w1) (mvT (s := s.setVm vm0) hZ w2) (notFace_of_selects (args := #[]) (mvT (s := s.setVm vm0) hZ w5)) (mvT (s := s.setVm vm0) hZ w5) (mvT (s := s.setVm vm0) hZ w6) hy (K.backW (W := (st.map fun v => v.category).sum) hZ w4 w3 hfr hlo q1.2.1 hC.1 hsf hKn) i1 i3 (g := mkF m pc Ls stk) rfl hsz (Steps.refl _) (argsL := argsL) (rest := st) (lenOf hdesc hlen) hstk (by show 2 * 0 + _ ≤ _; omega) (hb hby hd) (fun _ _ => ⟨rfl, eT, hc, hs⟩)
    obtain ⟨X1, hQ, hS, hz⟩ := doneW (T' := T) (A0 := ⟨T.setVm vm1, locs, cells, slots⟩) q1 hZ hown hMo N hC X' hSi hB
    exact Go.tr stp (k v _ _ _ X1 hQ hS hz)
/-- invokevirtual through a subclass's name: z names a method that owner declares -/
theorem gVirtUp (X : Sd w kn Z a0 EL p l e R s m args below meth c own T h S cells slots) (hby : c.code = code) {index : Nat} {a : Addr} {C owner : String} {z : MethodName} {argsL : List Value} (K : Ct w kn Z EL l y bytes maxL ret rm (.ref a :: argsL).toArray h sf Q) (E : Exa Z h a C)
    (w1 : (Jvm.Cond.methodLink own index z).before a0 Z = true) (w7 : (Jvm.Cond.sameMethod z.cls owner z.name z.desc).before a0 Z = true) (w2 : (Jvm.Cond.declares ⟨owner, z.name, z.desc⟩).before a0 Z = true) (w5 : (Jvm.Cond.selects C z y).before a0 Z = true) (w6 : (Jvm.Cond.instanceMethod y).before a0 Z = true) (w3 : (Jvm.Cond.initialized y.cls).before a0 Z = true) (w4 : (Jvm.Cond.code y bytes maxL ret).before a0 Z = true) {ps : List FieldType} {r : Option FieldType} (hdesc : parseMethodDescriptor z.desc = some ⟨ps, r⟩) (hlen : argsL.length = ps.length)
    (hd : decode code pc = .ok (.invokevirtual index, 3)) (hstk : stk = argsL.reverse ++ .ref a :: st) (hsz : Ls.size = c.maxLocals) (hsf : ∀ x ∈ sf, S x) (hfr : rm.frames + 1 ≤ R.frames) (hlo : (st.map fun v => v.category).sum + (maxL + 11) + rm.locals ≤ R.locals) (hc : cells + rm.cells ≤ R.cells) (hs : slots + rm.slots ≤ R.slots)
    (k : ∀ v T' h' S', Sd w kn Z a0 EL p l e R s m args below meth c own T' h' S' (cells + rm.cells) (slots + rm.slots) → Q v h' S' → (∀ x, x < h.size → S x → S' x) → h.size ≤ h'.size → Go p e below A (T'.setTop (mkF m (pc + 3) Ls (v.toList ++ st))))
    (hy : owner ≠ "java/lang/invoke/MethodHandle" ∧ owner ≠ "java/lang/invoke/VarHandle" := by decide) : Go p e below A (T.setTop (mkF m pc Ls stk)) := by
  obtain ⟨q1, vm0, locs, X, eT, hZ, hown, hMo, N, hO, hC, rfl⟩ := X
  have hKn := q1.2.2.1.mv hMo.alike
  obtain ⟨cq, kq, i1, i2, i3⟩ := isOf (s := s.setVm vm0) hZ eT E
  cases w with
  | false =>
    obtain ⟨v, vm1, B, -, X', hB, stp⟩ := X.virtualBackUp q1.1 (x := z) (y := y) hown (mvT (s := s.setVm vm0) hZ w1) (mvT (s := s.setVm vm0) hZ w7) (mvT (s := s.setVm vm0) hZ w2) hy (mvT (s := s.setVm vm0) hZ w5) (mvT (s := s.setVm vm0) hZ w6) (K.backN (W := (st.map fun v => v.category).sum) hZ w4 w3 hfr hlo q1.2.1 hC.1 hsf hKn) i1 i3 (g := mkF m pc Ls stk) rfl hsz (Steps.refl _) (argsL := argsL) (rest := st) (lenOf hdesc hlen) hstk (by show 2 * 0 + _ ≤ _; omega) (hb hby hd) (fun _ _ => ⟨rfl, eT, hc, hs⟩)
    obtain ⟨X1, hQ, hS, hz⟩ := doneN (A0 := ⟨T.setVm vm1, locs, cells, slots⟩) q1 hZ hown hMo N hC X' hB
    exact Go.tr stp (k v _ _ _ X1 hQ hS hz)
  | true =>
    obtain ⟨v, vm1, B, -, X', hSi, -, hB, stp⟩ := X.virtualBackUpS q1.1 (x := z) (y := y) hown (mvT (s := s.setVm vm0) hZ w1) (mvT (s := s.setVm vm0) hZ w7) (mvT (s := s.setVm vm0) hZ w2) hy (mvT (s := s.setVm vm0) hZ w5) (mvT (s := s.setVm vm0) hZ w6) (K.backW (W := (st.map fun v => v.category).sum) hZ w4 w3 hfr hlo q1.2.1 hC.1 hsf hKn) i1 i3 (g := mkF m pc Ls stk) rfl hsz (Steps.refl _) (argsL := argsL) (rest := st) (lenOf hdesc hlen) hstk (by show 2 * 0 + _ ≤ _; omega) (hb hby hd) (fun _ _ => ⟨rfl, eT, hc, hs⟩)
    obtain ⟨X1, hQ, hS, hz⟩ := doneW (T' := T) (A0 := ⟨T.setVm vm1, locs, cells, slots⟩) q1 hZ hown hMo N hC X' hSi hB
    exact Go.tr stp (k v _ _ _ X1 hQ hS hz)
/-- ldc of a String constant of EL -/
theorem gLdc {own : String} (X : Sd true kn Z a0 EL p l e R s m args below meth c own T h S cells slots) (hby : c.code = code) {text : String} {index : Nat} (w1 : (Jvm.Cond.stringLink own index text).before a0 Z = true) (wS : ∀ a ∈ Bundle.stringAtoms, a.before a0 Z = true) (hmem : (own, index) ∈ EL)
    {xs : List Int32} (hlat : ∀ c ∈ text.toList, c.toNat < 256) (ht : text.toList.map (fun c => Jvm.Lit.byteI c.toNat.toUInt16) = xs) (hxs : xs.length < 1000) (hd : decode code pc = .ok (.ldc index, 2)) {n : Nat} (hn : 4 * text.toList.length ≤ n) (hbig : n ≤ 536870912) (hc : cells + 2 ≤ R.cells) (hl : slots + (n + 4) ≤ R.slots)
    (k : ∀ T' h' S' a b, Sd true kn Z a0 EL p l e R s m args below meth c own T' h' S' (cells + 2) (slots + (n + 4)) → Ext h h' → Exa Z h' a "java/lang/String" → Fld Z h' a "java/lang/String" "coder" "B" (.int 0) → Fld Z h' a "java/lang/String" "value" "[B" (.ref b) → Ari Z h' b .byte xs → (∀ x, x < h.size → S x → S' x) → (∀ x, S' x → x ≠ a ∧ x ≠ b) →
      Go p e below A (T'.setTop (mkF m (pc + 2) Ls (.ref a :: st)))) : Go p e below A (T.setTop (mkF m pc Ls st)) := by
  obtain ⟨q1, vm0, locs, X, eT, hZ, hown, ⟨k0, hS, hk⟩, N, hO, hC, rfl⟩ := X
  obtain ⟨a, T', h', k1, b, kb, X', e', E, hS', hk', hZ', hown', E1, F1, F2, V, -, -, hC', -, hne, stp⟩ := ldcCH X q1.1 hZ hown w1 wS eT hS hk q1.2.1 hmem hC.1 (vs := xs.map Value.int) (z := Int32.ofNat xs.length) ⟨hlat, by rw [← ht, List.map_map]; rfl⟩ (nn32 (by omega)) (by rw [c32 (by omega), List.length_map]) (g := mkF m pc Ls st) rfl (hb hby hd) hn hbig hc hl
  exact Go.step stp (k T' h' (Safe Z EL T'.vm h') a b ⟨q1, T'.vm, locs, X', e', hZ', hown', ⟨k1, hS', hk'⟩, N, hO.ext E, hC.trans hC', rfl⟩ E E1 F1 F2 ⟨by omega, kb, V⟩ (fun x hx hs => hC'.safe hx hs) hne)
/-- ldc of a String constant, unread -/
theorem gLdcO {own : String} (X : Sd true kn Z a0 EL p l e R s m args below meth c own T h S cells slots) (hby : c.code = code) {text : String} {index : Nat} (w1 : (Jvm.Cond.stringLink own index text).before a0 Z = true) (wS : ∀ a ∈ Bundle.stringAtoms, a.before a0 Z = true)
    (hd : decode code pc = .ok (.ldc index, 2)) {n : Nat} (hn : 4 * text.toList.length ≤ n) (hbig : n ≤ 536870912) (hc : cells + 2 ≤ R.cells) (hl : slots + (n + 4) ≤ R.slots)
    (k : ∀ T' h' S' a, Sd true kn Z a0 EL p l e R s m args below meth c own T' h' S' (cells + 2) (slots + (n + 4)) → Ext h h' → (∀ x, x < h.size → S x → S' x) → Go p e below A (T'.setTop (mkF m (pc + 2) Ls (.ref a :: st)))) : Go p e below A (T.setTop (mkF m pc Ls st)) := by
  obtain ⟨q1, vm0, locs, X, eT, hZ, hown, ⟨k0, hS, hk⟩, N, hO, hC, rfl⟩ := X
  obtain ⟨a, T', h', k1, X', e', E, hS', hk', hZ', hown', hC', -, stp⟩ := ldcOH X q1.1 hZ hown w1 wS eT hS hk q1.2.1 hC.1 (g := mkF m pc Ls st) rfl (hb hby hd) hn hbig hc hl
  exact Go.step stp (k T' h' (Safe Z EL T'.vm h') a ⟨q1, T'.vm, locs, X', e', hZ', hown', ⟨k1, hS', hk'⟩, N, hO.ext E, hC.trans hC', rfl⟩ E (fun x hx hs => hC'.safe hx hs))
end OwnCalls
section OwnExc
variable {p : Program} {l : Launch} {e : Env} {R : Room} {s : State} {m : MethodId} {args : Array Value} {below : List Frame} {meth : Method} {c : Code} {T : State} {locs : List Loc} {cells slots : Nat} {Z : State} {a0 : Array Value} {h h' : Heap} {EL : List (String × Nat)} {own : String} {w kn : Bool} {S : Addr → Prop} {A : Outcome → State → Prop} {Ls : Array Slot} {st stk : List Value} {pc : Nat} {code : ByteArray}
/-- the constructor with a message of a Throwable's class, on an object of the walk's own -/
theorem gExc1 (X : Sd w true Z a0 EL p l e R s m args below meth c own T h S cells slots) (hby : c.code = code) (hl : l.stackTraces = true) {rc : String} {links : List Jvm.Free.Exc.Link} {ic n : Nat} (hok : Jvm.Free.Exc.linksOk 1 links = true)
    (w1 : (Jvm.Cond.methodLink own ic (Jvm.Free.Exc.ctor 1 (Jvm.Free.Exc.headName links))).before a0 Z = true) (w2 : (Jvm.Cond.instanceMethod (Jvm.Free.Exc.ctor 1 (Jvm.Free.Exc.headName links))).before a0 Z = true) (wT : (Jvm.Free.Exc.chainTab 1 rc links).before a0 Z = true) (wi : (Jvm.Cond.instantiable rc n).before a0 Z = true) (r : ∀ d ∈ twoRefs, d.before a0 Z = true)
    {a : Addr} {msg : Value} (E : Exa Z h a rc) (N : Unt h a) (B : Fld Z h a "java/lang/Throwable" "backtrace" "Ljava/lang/Object;" .null) (B2 : Fld Z h a "java/lang/Throwable" "detailMessage" "Ljava/lang/String;" .null) (hmsg : msg.isRef = true) (hna : Z.heap.size ≤ a) (hs : S a)
    (hd : decode code pc = .ok (.invokespecial ic, 3)) (hsz : Ls.size = c.maxLocals) (hf : 4 + links.length ≤ R.frames) (hlo : (st.map fun v => v.category).sum + (56 + 14 * links.length) ≤ R.locals) (hc : cells + 1 ≤ R.cells) (hsl : slots + 2752 ≤ R.slots)
    (k : ∀ T' h' S', Sd w true Z a0 EL p l e R s m args below meth c own T' h' S' (cells + 1) (slots + 2752) → Kp Z h h' a → Exa Z h' a rc → Fld Z h' a "java/lang/Throwable" "detailMessage" "Ljava/lang/String;" msg → (∀ x, S x → S' x) → Go p e below A (T'.setTop (mkF m (pc + 3) Ls st))) :
    Go p e below A (T.setTop (mkF m pc Ls (msg :: .ref a :: st))) := by
  obtain ⟨q1, vm0, locs, X, eT, hZ, hown, hMo, N0, hO, hC, rfl⟩ := X
  have hKn : Kn true vm0 below := q1.2.2.1.mv hMo.alike
  obtain ⟨T', h', X', e', K, E', U', F', -, -, stp⟩ := excL1 X q1.1 hl hZ hown hok w1 w2 wT wi r (ThS.start.ext q1.2.2.2.2.2) (ThS.start.ext hO.2) hKn.1 hKn.2 eT E N B B2 hmsg (g := mkF m pc Ls (msg :: .ref a :: st)) rfl hsz (rest := st) rfl (hb hby hd) hf (by show 2 * 0 + _ + _ ≤ _; omega) hc hsl
  have K2 : Keep h h' [a] := keep_of_kp K
  have sf : ∀ x ∈ [a], Safe Z EL vm0 h x := fun x hx => by cases List.mem_singleton.mp hx; exact hs
  exact Go.step stp (k T' h' (Safe Z EL vm0 h') ⟨q1, vm0, _, X', e', hZ, hown, hMo.mono K2.1, Fr.six N0 hna, hO.keep K2 (allS hna all0), hC.trans (CHr.keep K2 sf hC.1), rfl⟩ K E' F' (fun x hx => Safe.keep K2 sf hC.1 hx))
end OwnExc
section OwnNums
theorem eqT {x y : Int32} (h : if_icmp.holds .eq x y = true) : x = y := Classical.byContradiction fun q => by rw [(feq q).1] at h; cases h
theorem eqF {x y : Int32} (h : if_icmp.holds .eq x y = false) : ¬ x = y := fun q => by rw [(teq q).1] at h; cases h
theorem neT {x y : Int32} (h : if_icmp.holds .ne x y = true) : ¬ x = y := fun q => by rw [(teq q).2] at h; cases h
theorem neF {x y : Int32} (h : if_icmp.holds .ne x y = false) : x = y := Classical.byContradiction fun q => by rw [(feq q).2] at h; cases h
theorem ltT {x y : Int32} (h : if_icmp.holds .lt x y = true) : x < y := Classical.byContradiction fun q => by rw [(flt q).1] at h; cases h
theorem ltF {x y : Int32} (h : if_icmp.holds .lt x y = false) : ¬ x < y := fun q => by rw [(tlt q).1] at h; cases h
theorem geT {x y : Int32} (h : if_icmp.holds .ge x y = true) : ¬ x < y := fun q => by rw [(tlt q).2.1] at h; cases h
theorem geF {x y : Int32} (h : if_icmp.holds .ge x y = false) : x < y := Classical.byContradiction fun q => by rw [(flt q).2.1] at h; cases h
theorem gtT {x y : Int32} (h : if_icmp.holds .gt x y = true) : y < x := Classical.byContradiction fun q => by rw [(flt q).2.2.1] at h; cases h
theorem gtF {x y : Int32} (h : if_icmp.holds .gt x y = false) : ¬ y < x := fun q => by rw [(tlt q).2.2.1] at h; cases h
theorem leT {x y : Int32} (h : if_icmp.holds .le x y = true) : ¬ y < x := fun q => by rw [(tlt q).2.2.2] at h; cases h
theorem leF {x y : Int32} (h : if_icmp.holds .le x y = false) : y < x := Classical.byContradiction fun q => by rw [(flt q).2.2.2] at h; cases h
theorem aeqT {x y : Value} (h : XT.acmp .eq x y = true) : x = y := Classical.byContradiction fun q => by rw [XT.aa_eq_f q] at h; cases h
theorem aeqF {x y : Value} (h : XT.acmp .eq x y = false) : ¬ x = y := fun q => by rw [XT.aa_eq_t q] at h; cases h
theorem aneT {x y : Value} (h : XT.acmp .ne x y = true) : ¬ x = y := fun q => by rw [XT.aa_ne_f q] at h; cases h
theorem aneF {x y : Value} (h : XT.acmp .ne x y = false) : x = y := Classical.byContradiction fun q => by rw [XT.aa_ne_t q] at h; cases h
abbrev chr16 (x : Int32) : Int32 := x.toUInt32.toUInt16.toUInt32.toInt32
abbrev lo8 (x : Int32) : Int32 := x.toInt8.toInt32
theorem lt32 {i j : Nat} (hi : i < 2147483648) (hj : j < 2147483648) : Int32.ofNat i < Int32.ofNat j ↔ i < j := by rw [Int32.lt_iff_toInt_lt, n32 hi, n32 hj]; omega
theorem eq32 {i j : Nat} (hi : i < 2147483648) (hj : j < 2147483648) : Int32.ofNat i = Int32.ofNat j ↔ i = j := by rw [← Int32.toInt_inj, n32 hi, n32 hj]; omega
theorem succ32 (i : Nat) : Int32.ofNat i + (1 : Int32) = Int32.ofNat (i + 1) := (Int32.ofNat_add i 1).symm
theorem nar_lo8 (x : Int32) : nar .byte (lo8 x) = lo8 x := nar_fits (Or.inr (Or.inr (Or.inl rfl))) (fits_nar_byte x)
theorem nar_chr (x : Int32) : nar .char (chr16 x) = chr16 x := nar_fits (Or.inr (Or.inl rfl)) (fits_nar_char x)
/-- istore into a slot of which is known only that it is no half of a long -/
theorem gIst {p : Program} {l : Launch} {e : Env} {R : Room} {s : State} {m : MethodId} {args : Array Value} {below : List Frame} {meth : Method} {c : Code} {T : State} {cells slots : Nat} {Z : State} {a0 : Array Value} {h : Heap} {EL : List (String × Nat)} {own : String} {w kn : Bool} {S : Addr → Prop} {A : Outcome → State → Prop} {Ls : Array Slot} {st : List Value} {pc : Nat} {code : ByteArray}
    (X : Sd w kn Z a0 EL p l e R s m args below meth c own T h S cells slots) (hby : c.code = code) {k : Nat} {x : Int32} {o : Slot} (hd : decode code pc = .ok (.istore k, 2)) (hold : Ls[k]? = some o) (ho : One o) (g : Go p e below A (T.setTop (mkF m (pc + 2) (Ls.setIfInBounds k (.val (.int x))) st))) : Go p e below A (T.setTop (mkF m pc Ls (.int x :: st))) :=
  Go.step (fun t q => XS.istoreS X.here X.hx rfl (hb hby hd) rfl hold ho q) g
theorem gIstN {p : Program} {l : Launch} {e : Env} {R : Room} {s : State} {m : MethodId} {args : Array Value} {below : List Frame} {meth : Method} {c : Code} {T : State} {cells slots : Nat} {Z : State} {a0 : Array Value} {h : Heap} {EL : List (String × Nat)} {own : String} {w kn : Bool} {S : Addr → Prop} {A : Outcome → State → Prop} {Ls : Array Slot} {st : List Value} {pc : Nat} {code : ByteArray}
    (X : Sd w kn Z a0 EL p l e R s m args below meth c own T h S cells slots) (hby : c.code = code) {k : Fin 4} {x : Int32} {o : Slot} (hd : decode code pc = .ok (.istore_n k, 1)) (hold : Ls[k.val]? = some o) (ho : One o) (g : Go p e below A (T.setTop (mkF m (pc + 1) (Ls.setIfInBounds k.val (.val (.int x))) st))) : Go p e below A (T.setTop (mkF m pc Ls (.int x :: st))) :=
  Go.step (fun t q => XS.istoreNS X.here X.hx rfl (hb hby hd) rfl hold ho q) g
end OwnNums
section OwnStr
theorem getD_set_self {xs : List Int32} {i : Nat} {v : Int32} (h : i < xs.length) : (xs.set i v).getD i 0 = v := by simp [List.getD_eq_getElem?_getD, h]
theorem getD_set_ne {xs : List Int32} {i j : Nat} {v : Int32} (h : i ≠ j) : (xs.set i v).getD j 0 = xs.getD j 0 := by simp [List.getD_eq_getElem?_getD, List.getElem?_set_ne h]
theorem list_of_getD {xs ys : List Int32} (hl : xs.length = ys.length) (h : ∀ j, j < xs.length → xs.getD j 0 = ys.getD j 0) : xs = ys := by
  apply List.ext_getElem hl
  intro i h1 h2
  have := h i h1
  simpa [List.getD_eq_getElem?_getD, h1, h2] using this
theorem getD_map {xs : List Int32} {f : Int32 → Int32} {j : Nat} (h : j < xs.length) : (xs.map f).getD j 0 = f (xs.getD j 0) := by simp [List.getD_eq_getElem?_getD, h]
theorem getD_mem {xs : List Int32} {j : Nat} (h : j < xs.length) : xs.getD j 0 ∈ xs := by simp [List.getD_eq_getElem?_getD, h]
/-- the high byte, as StringUTF16.putChar stores it -/
abbrev hi8 (x : Int32) : Int32 := lo8 (x >>> ((8 : Int32) &&& 31))
/-- UTF-16's bytes, the low one first -/
def u16 : List Int32 → List Int32
  | [] => []
  | c :: r => lo8 c :: hi8 c :: u16 r
theorem u16_length (cs : List Int32) : (u16 cs).length = 2 * cs.length := by induction cs with | nil => rfl | cons c r ih => simp only [u16, List.length_cons, ih]; omega
/-- a String: her bytes lie at b, her chars are cs -/
def Str (Z : State) (h : Heap) (x b : Addr) (cs : List Int32) : Prop := Exa Z h x "java/lang/String" ∧ Fld Z h x "java/lang/String" "value" "[B" (.ref b) ∧ (∀ c ∈ cs, ¬ c < 0 ∧ ¬ 65535 < c) ∧
  ((Fld Z h x "java/lang/String" "coder" "B" (.int 0) ∧ Ari Z h b .byte (cs.map lo8) ∧ ∀ c ∈ cs, ¬ 255 < c) ∨ (Fld Z h x "java/lang/String" "coder" "B" (.int 1) ∧ Ari Z h b .byte (u16 cs) ∧ ∃ c ∈ cs, 255 < c))
variable {Z : State} {h h' : Heap} {x b a : Addr} {cs : List Int32}
theorem Str.exa (F : Str Z h x b cs) : Exa Z h x "java/lang/String" := F.1
theorem Str.ext (E : Ext h h') (F : Str Z h x b cs) : Str Z h' x b cs := by
  obtain ⟨q1, q2, q3, q4⟩ := F
  refine ⟨q1.ext E, q2.ext E, q3, ?_⟩
  rcases q4 with ⟨r1, r2, r3⟩ | ⟨r1, r2, r3⟩
  · exact Or.inl ⟨r1.ext E, r2.ext E, r3⟩
  · exact Or.inr ⟨r1.ext E, r2.ext E, r3⟩
theorem Str.keep {ws : List Addr} (F : Str Z h x b cs) (K : Keep h h' ws) (n1 : x ∉ ws) (n2 : b ∉ ws) : Str Z h' x b cs := by
  obtain ⟨q1, q2, q3, q4⟩ := F
  refine ⟨q1.keep K, q2.keep K n1, q3, ?_⟩
  rcases q4 with ⟨r1, r2, r3⟩ | ⟨r1, r2, r3⟩
  · exact Or.inl ⟨r1.keep K n1, r2.keep K n2, r3⟩
  · exact Or.inr ⟨r1.keep K n1, r2.keep K n2, r3⟩
theorem Str.lt (F : Str Z h x b cs) : x < h.size ∧ b < h.size := ⟨F.1.lt, by rcases F.2.2.2 with ⟨-, r, -⟩ | ⟨-, r, -⟩ <;> exact r.lt⟩
theorem Ari.chars (F : Ari Z h a .char cs) : ∀ c ∈ cs, ¬ c < 0 ∧ ¬ 65535 < c := fun c hc => by
  obtain ⟨i, hi, e⟩ := List.mem_iff_getElem.mp hc
  have := F.fits hi
  rw [show cs.getD i 0 = c by simp [List.getD_eq_getElem?_getD, hi, e]] at this
  exact rng_char this
theorem ne_ari {a0 : Array Value} {C : String} {n : Nat} {ty : FieldType} {xs : List Int32} (E : Exa Z h x C) (F : Ari Z h b ty xs) (w : (Jvm.Cond.instantiable C n).before a0 Z = true) : x ≠ b := by obtain ⟨-, k, F⟩ := F; exact E.neArv F w
end OwnStr
theorem keep_more {h h' : Heap} {ws : List Addr} (K : Keep h h' []) : Keep h h' ws := ⟨K.1, fun x c q _ => K.2.1 x c q nin0, K.2.2⟩
theorem lat_mask (x : Int32) : ¬ (255 : Int32) < chr16 (x &&& (255 : Int32)) := by
  rw [show chr16 (x &&& (255 : Int32)) = x &&& 255 from i2c_mask x]
  have h := c_and x 255 (by decide)
  have e : (255 : Int32).toInt = 255 := rfl
  rw [Int32.lt_iff_toInt_lt]; omega
section OwnFill
open Jvm.Free.Exc LibCode.Throwable
/-- the words on Throwable and on the receiver's class rc that a filled-in stack trace asks: the fields are said by rc's words alone -/
def exW (rc : String) : List Jvm.Cond := [.native tFill0, .superclass tN "java/lang/Object", .instanceMethod tFill, .codeSync tFill Fill.code 1 (some (.object tN)), .instanceMethod tFill0, .initialized tN, .instanceMethod tInit0, .code tInit0 Init0.code 1 none,
  .instanceMethod oInit, .code oInit ⟨#[0xb1]⟩ 1 none, .methodLink tN 1 oInit, .methodLink tN 27 tFill, .methodLink tN 202 tFill0, .fieldLink tN 7 tN "cause" thD, .fieldLink tN 17 tN "stackTrace" steD, .fieldLink tN 24 tN "suppressedExceptions" listD,
  .fieldLink tN 13 tN "UNASSIGNED_STACK" steD, .laysStatic tN "UNASSIGNED_STACK" steD, .fieldLink tN 20 tN "SUPPRESSED_SENTINEL" listD, .laysStatic tN "SUPPRESSED_SENTINEL" listD,
  .lays rc tN "cause" thD, .lays rc tN "stackTrace" steD, .lays rc tN "suppressedExceptions" listD, .lays rc tN "detailMessage" msgD, .lays rc tN "backtrace" obD, .lays rc tN "depth" "I",
  .declares tFill, .selects rc tFill0 tFill0, .selects rc tFill tFill, .fieldLink tN 198 tN "backtrace" obD, .arrayOver (.object "java/lang/Object"), .soleField tN "backtrace", .soleField tN "depth"]
theorem exW_ok {rc : String} : (exW rc).all xOk = true := rfl
/-- Throwable's tables, out of those words -/
theorem own_links {rc : String} {args : Array Value} {s : State} {pl : Platform} (howns : pl.frameOwnsMonitors = true) (hfin : pl.finalization = false) (hpl : pl.magicAccessors = ({} : Platform).magicAccessors)
    {cR : ClassId} {kR : Class} (fR : s.vm.findClass rc = some cR) (kRat : s.vm.classes[cR]? = some kR) (W : ∀ x ∈ exW rc, x.before args s = true) : ∃ (T : ThrowableC) (Z0 : Init0T), T.Links pl s ∧ Ties T Z0 s := by
  have gm : ∀ x, x ∈ exW rc → x.holds args s none s [] = true := fun x hx => W x hx
  obtain ⟨⟨cT, iN⟩, mN, nN, mmN, natN, codeN, lockN, sigN⟩ := Cond.native_spec (gm (.native tFill0) (by simp [exW]))
  have fT : s.vm.findClass tN = some cT := findClass_of_methodNamed nN
  obtain ⟨kT, kTat, kTn⟩ := Vm.findClass_spec fT
  obtain ⟨_, kT', _, _, kTat', _, _, ordT, _, noI⟩ := Cond.superclass_spec fT (gm (.superclass tN "java/lang/Object") (by simp [exW]))
  cases kTat.symm.trans kTat'
  obtain ⟨iF, mF, nF, mmF, atF, stF, abF, -, -⟩ := Cond.ownMethod (x := tFill) fT kTat (gm (.instanceMethod tFill) (by simp [exW]))
  obtain ⟨_, cF, mmF', cdF, byF, loF, reF, lkF, -, sgF⟩ := Cond.codeSync_spec nF (gm (.codeSync tFill Fill.code 1 (some (.object tN))) (by simp [exW]))
  cases mmF.symm.trans mmF'
  obtain ⟨iN', mN', nN', mmN', atN, stN, abN, nmN, dsN⟩ := Cond.ownMethod (x := tFill0) fT kTat (gm (.instanceMethod tFill0) (by simp [exW]))
  cases nN.symm.trans nN'
  cases mmN.symm.trans mmN'
  obtain ⟨iI, mI, nI, mmI, atI, -, -, -, -⟩ := Cond.ownMethod (x := tInit0) fT kTat (gm (.instanceMethod tInit0) (by simp [exW]))
  obtain ⟨_, cI, mmI', cdI, byI, loI, -, lkI, -, -⟩ := Cond.code_spec nI (gm (.code tInit0 Init0.code 1 none) (by simp [exW]))
  cases mmI.symm.trans mmI'
  obtain ⟨oM, mO, nO, mmO, stO, abO⟩ := Cond.instanceMethod_spec (gm (.instanceMethod oInit) (by simp [exW]))
  obtain ⟨_, cO, mmO', cdO, byO, loO, -, lkO, -, sgO⟩ := Cond.code_spec nO (gm (.code oInit ⟨#[0xb1]⟩ 1 none) (by simp [exW]))
  cases mmO.symm.trans mmO'
  obtain ⟨kO, kOat, kOn⟩ := Vm.findClass_spec (findClass_of_methodNamed nO)
  obtain ⟨nmO, dsO⟩ := name_of_methodNamed nO mmO
  obtain ⟨ci1, n1, cf, l1, r1, hcf, p1⟩ := Cond.linkedMethod fT kTat nO (gm (.methodLink tN 1 oInit) (by simp [exW])) pl hpl
  obtain ⟨ci27, n27, cf2, l27, r27, hcf2, p27⟩ := Cond.linkedMethod fT kTat nF (gm (.methodLink tN 27 tFill) (by simp [exW])) pl hpl
  cases hcf.symm.trans hcf2
  obtain ⟨ci202, n202, cf3, l202, r202, hcf3, p202⟩ := Cond.linkedMethod fT kTat nN (gm (.methodLink tN 202 tFill0) (by simp [exW])) pl hpl
  cases hcf.symm.trans hcf3
  have wS := gm (.lays rc tN "stackTrace" steD) (by simp [exW])
  have wP := gm (.lays rc tN "suppressedExceptions" listD) (by simp [exW])
  have wM := gm (.lays rc tN "detailMessage" msgD) (by simp [exW])
  obtain ⟨ci7, i7, f7, b7, c7, d7, e7, g7, h7, j7, k7⟩ := Cond.ownField (t := .object tN) fT kTat (by decide +kernel) (gm (.fieldLink tN 7 tN "cause" thD) (by simp [exW])) (gm (.lays rc tN "cause" thD) (by simp [exW])) pl hpl
  obtain ⟨ci17, i17, f17, b17, c17, d17, e17, g17, h17, j17, k17⟩ := Cond.ownField (t := .array (.object "java/lang/StackTraceElement")) fT kTat (by decide +kernel) (gm (.fieldLink tN 17 tN "stackTrace" steD) (by simp [exW])) wS pl hpl
  obtain ⟨ci24, i24, f24, b24, c24, d24, e24, g24, h24, j24, k24⟩ := Cond.ownField (t := .object "java/util/List") fT kTat (by decide +kernel) (gm (.fieldLink tN 24 tN "suppressedExceptions" listD) (by simp [exW])) wP pl hpl
  obtain ⟨ci13, i13, f13, aS, cS, b13, c13, d13, e13, -, -, hsta, hcS, hiS, -, -, k13⟩ := Cond.ownStatic (t := .array (.object "java/lang/StackTraceElement")) fT kTat (by decide +kernel) (gm (.fieldLink tN 13 tN "UNASSIGNED_STACK" steD) (by simp [exW])) (gm (.laysStatic tN "UNASSIGNED_STACK" steD) (by simp [exW])) pl hpl
  obtain ⟨ci20, i20, f20, _, _, b20, c20, d20, e20, -, -, -, -, -, -, -, k20⟩ := Cond.ownStatic (t := .object "java/util/List") fT kTat (by decide +kernel) (gm (.fieldLink tN 20 tN "SUPPRESSED_SENTINEL" listD) (by simp [exW])) (gm (.laysStatic tN "SUPPRESSED_SENTINEL" listD) (by simp [exW])) pl hpl
  obtain ⟨_, _, cM, kM, iM, fM, _, _, fndM, sM, fiM, _⟩ := Cond.lays_spec wM
  cases fT.symm.trans (Cond.lays_declared wM fndM)
  cases kTat.symm.trans (State.fieldFound?_spec fndM).1
  obtain ⟨-, _, q1, q2⟩ := Cond.laysAt fR kRat k17 wS
  obtain ⟨-, _, q3, q4⟩ := Cond.laysAt fR kRat k24 wP
  have apart : f17.slot ≠ f24.slot := Cond.laysApart q1 q3 q2 q4 (by rw [h17, h24]; decide)
  have pF : mF.sig.parameters = [] := by
    have z : (parseMethodDescriptor tFill.desc).map (·.parameters) = some [] := by decide +kernel
    rw [sgF] at z; simpa using z
  have pN : mN.sig.parameters = [.int] := by
    have z : (parseMethodDescriptor tFill0.desc).map (·.parameters) = some [.int] := by decide +kernel
    rw [sigN] at z; simpa using z
  have pO : mO.sig.parameters.length = 0 := by
    have z : (parseMethodDescriptor oInit.desc).map (·.parameters) = some [] := by decide +kernel
    rw [sgO] at z
    have z2 : mO.sig.parameters = [] := by simpa using z
    rw [z2]; rfl
  refine ⟨{ cT := cT, kT := kT, cO := cT, aS := aS, fillIdx := iF, fill0Idx := iN, initSIdx := iI, obj := oM, kObj := kO, methFill := mF, methFill0 := mN, methInitS := mI, methObj := mO, codeFill := cF, codeInitS := cI, codeObj := cO,
              fBack := f7, fDepth := f7, fStack := f17, fCause := f7, fSupp := f24, fMsg := fM, fUnassigned := f13, fSentinel := f20, cfT := cf, ci1 := ci1, n1 := n1, ci27 := ci27, n27 := n27, ci202 := ci202, n202 := n202,
              ci7 := ci7, i7 := i7, ci13 := ci13, i13 := i13, ci17 := ci17, i17 := i17, ci20 := ci20, i20 := i20, ci24 := ci24, i24 := i24 }, { idx := iI, meth := mI, code := cI }, ?_, ?_⟩
  · exact { owns := howns, noFinalization := hfin, cls := kTat, name := kTn, boot := Vm.findClass_boot fT kTat, notInterface := noI, initialized := Cond.initialized_spec fT kTat (gm (.initialized tN) (by simp [exW])), statics := hsta,
            fillAt := atF, fillCode := cdF, fillBytes := byF, fillLocals := loF, fillLocks := lkF, fillStatic := stF, fillAbstract := abF, fillReturns := reF, fillParams := pF,
            fill0At := atN, fill0Name := nmN, fill0Desc := dsN, fill0Params := pN, fill0Static := stN, fill0Native := natN, fill0Code := codeN, fill0Locks := lockN, fill0Abstract := abN,
            stackInstance := e17, stackNotFinal := g17, unassignedStatic := e13, objClass := kOat, objClassName := kOn, objMethod := mmO, objName := nmO, objStatic := stO, objAbstract := abO,
            objFound := by rw [dsO]; exact lookupSpecial_of_named nO mmO stO, objParams := pO, objCode := cdO, objBytes := byO, objLocks := lkO, causeInstance := e7, causeNotFinal := g7, sentinelStatic := e20, suppInstance := e24, suppNotFinal := g24, msgInstance := sM, msgNotFinal := fiM, stackApartSupp := apart,
            file := hcf, mlink1 := l1, mright1 := r1, pool1 := p1, mlink27 := l27, mright27 := r27, pool27 := p27, mlink202 := l202, mright202 := r202, pool202 := p202,
            link7 := b7, right7 := c7, at7 := d7, link13 := b13, right13 := c13, at13 := d13, link17 := b17, right17 := c17, at17 := d17, link20 := b20, right20 := c20, at20 := d20, link24 := b24, right24 := c24, at24 := d24 }
  · exact ⟨fT, nF, nN, nI, loO, ordT, k7, k17, k24, k13, k20, ⟨iM, fndM⟩, (State.fieldFound?_type fndM (t := .object "java/lang/String") (by decide +kernel)).2, h7, h17, h24, j7, j17, j24, cS, hcS, hiS⟩
variable {p : Program} {l : Launch} {e : Env} {R : Room} {s : State} {m : MethodId} {args : Array Value} {below : List Frame} {meth : Method} {c : Code} {T : State} {locs : List Loc} {cells slots : Nat} {Z : State} {a0 : Array Value} {h h' : Heap} {EL : List (String × Nat)} {w kn : Bool} {S : Addr → Prop} {A : Outcome → State → Prop} {Ls : Array Slot} {st stk : List Value} {pc : Nat} {code : ByteArray}
theorem setCell_keep {h : Heap} {a : Addr} {c0 c1 hd : Cell} (q : h[a]? = some c0) (h1 : c1.cls = c0.cls) (h2 : c1.vm = c0.vm) (h3 : c1.slots.size = c0.slots.size) : Keep h ((h.push hd).setIfInBounds a c1) [a] := by
  have hlt := (Array.getElem?_eq_some_iff.mp q).1
  refine ⟨by simp, fun x cx hx hn => ?_, fun x cx hx => ?_⟩
  · have hne : a ≠ x := fun z => hn (by simp [z])
    rw [Array.getElem?_setIfInBounds_ne hne, Array.getElem?_push_lt (Array.getElem?_eq_some_iff.mp hx).1]
    exact (Array.getElem?_eq_getElem _).symm.trans hx
  · by_cases z : a = x
    · subst z; cases q.symm.trans hx
      exact ⟨c1, by rw [Array.getElem?_setIfInBounds_self_of_lt (by simp; omega)], h1, h2, h3⟩
    · exact ⟨cx, by
        rw [Array.getElem?_setIfInBounds_ne z, Array.getElem?_push_lt (Array.getElem?_eq_some_iff.mp hx).1]
        exact (Array.getElem?_eq_getElem _).symm.trans hx, rfl, rfl, rfl⟩
/-- Throwable.fillInStackTrace() on an object of the walk's own, whose field stackTrace holds UNASSIGNED_STACK -/
theorem gFill (X : Sd w true Z a0 EL p l e R s m args below meth c "java/lang/Throwable" T h S cells slots) (hby : c.code = code) (hl : l.stackTraces = true) {rc : String} {n : Nat} (W : ∀ x ∈ exW rc, x.before a0 Z = true) (wi : (Jvm.Cond.instantiable rc n).before a0 Z = true)
    {a u : Addr} (E : Exa Z h a rc) (N : Unt h a) (FB : Fld Z h a "java/lang/Throwable" "backtrace" "Ljava/lang/Object;" .null) (FS : Fld Z h a "java/lang/Throwable" "stackTrace" "[Ljava/lang/StackTraceElement;" (.ref u)) (hU : Sta Z Z.heap "java/lang/Throwable" "UNASSIGNED_STACK" "[Ljava/lang/StackTraceElement;" (.ref u))
    (hna : Z.heap.size ≤ a) (hs : S a) (hd : decode code pc = .ok (.invokevirtual 27, 3)) (hsz : Ls.size = c.maxLocals) (hf : 2 < R.frames) (hlo : (st.map fun v => v.category).sum + 42 ≤ R.locals) (hc : cells + 1 ≤ R.cells) (hsl : slots + 2752 ≤ R.slots)
    (k : ∀ T' h' S', Sd w true Z a0 EL p l e R s m args below meth c "java/lang/Throwable" T' h' S' (cells + 1) (slots + 2752) → Keep h h' [a] → Unt h' a → (∀ x, S x → S' x) → Go p e below A (T'.setTop (mkF m (pc + 3) Ls (.ref a :: st)))) :
    Go p e below A (T.setTop (mkF m pc Ls (.ref a :: st))) := by
  obtain ⟨q1, vm0, locs, X, eT, hZ, hown, hMo, N0, hO, hC, rfl⟩ := X
  have hKn : Kn true vm0 below := q1.2.2.1.mv hMo.alike
  have hT0 : ThS Z s.heap := ThS.start.ext q1.2.2.2.2.2
  have W' : ∀ x ∈ exW rc, x.before args (s.setVm vm0) = true := fun x hx => mvX (s := s.setVm vm0) hT0 hZ (List.all_eq_true.mp exW_ok x hx) (W x hx)
  have gm : ∀ x, x ∈ exW rc → x.holds args (s.setVm vm0) none (s.setVm vm0) [] = true := fun x hx => W' x hx
  have hpf := X.admits.platform
  have hpl : e.platform.magicAccessors = ({} : Platform).magicAccessors := by rw [hpf]
  have howns : e.platform.frameOwnsMonitors = true := by rw [hpf]
  have hfin : e.platform.finalization = false := by rw [hpf]
  obtain ⟨cell, vmn, hcell, hfR, hkZ, hstat, hord⟩ := id E
  obtain ⟨cB, kB, i1, i2, i3⟩ := isOf (s := s.setVm vm0) hZ eT E
  obtain ⟨cellN, hcN, hvmN, hmon⟩ := id N
  cases hcell.symm.trans hcN
  have hfR' : (s.setVm vm0).vm.findClass rc = some cell.cls := by rw [show (s.setVm vm0).vm = vm0 from rfl, hZ.alike.findClass]; exact hfR
  cases i1.symm.trans hfR'
  obtain ⟨T0, Z0, L, Y⟩ := own_links (pl := e.platform) howns hfin hpl hfR' i2 W'
  have hal : Z.vm.Alike vm0 := hZ.alike
  obtain ⟨kZ', zk, ezk⟩ := hal.2.2 _ _ hkZ
  cases i2.symm.trans zk
  obtain ⟨c2, k2, z1, z2, z3, -⟩ := Cond.instantiable_spec (mv (s := s.setVm vm0) (args := args) hZ wi)
  cases hfR'.symm.trans z1
  cases i2.symm.trans z2
  have hsize : cell.slots.size = kB.instanceTypes.size := by
    have q : vmn.kind = .ordinary := by rw [ezk] at z3; exact z3
    rw [ezk]; exact hord q
  obtain ⟨c1, cf1, k1, j1, f1, g1, g2, g3, g4, g5, g6, g7⟩ := FS
  cases hcell.symm.trans g1
  obtain ⟨k1', y1, -⟩ := State.fieldFound?_setVm (s := Z) hal g2
  cases (show (s.setVm vm0).fieldFound? "java/lang/Throwable" "stackTrace" "[Ljava/lang/StackTraceElement;" = _ from y1).symm.trans Y.stack
  obtain ⟨ci198, i198, fB, hk198, hg198, ha198, hsB, -, hnB, htyB, hffB⟩ := Cond.ownField (t := .object "java/lang/Object") Y.found L.cls (by decide +kernel) (gm (.fieldLink tN 198 tN "backtrace" obD) (by simp [exW])) (gm (.lays rc tN "backtrace" obD) (by simp [exW])) e.platform hpl
  obtain ⟨c3, cf3, k3, j3, f3, b1, b2, b3, b4, b5, b6, b7⟩ := FB
  cases hcell.symm.trans b1
  obtain ⟨k3', y3, -⟩ := State.fieldFound?_setVm (s := Z) hal b2
  cases (show (s.setVm vm0).fieldFound? "java/lang/Throwable" "backtrace" "Ljava/lang/Object;" = _ from y3).symm.trans hffB
  obtain ⟨cfU, iU, kU, fU, stU, cellS, u1, u2, u3, u4, u5, u6, u7⟩ := hU
  obtain ⟨kU', y4, ekU⟩ := State.fieldFound?_setVm (s := Z) hal u1
  cases (show (s.setVm vm0).fieldFound? "java/lang/Throwable" "UNASSIGNED_STACK" "[Ljava/lang/StackTraceElement;" = _ from y4).symm.trans Y.unassigned
  have eS0 : stU = T0.aS := by
    have q := L.statics
    rw [ekU] at q
    exact Option.some.inj (u4.symm.trans q)
  subst eS0
  have hcS : h[T0.aS]? = some cellS := hO.2.2 _ _ u5
  have hneS : T0.aS ≠ a := fun z => by
    rw [z] at hcS; cases hcell.symm.trans hcS
    rw [hvmN] at u6; cases u6
  have hsel0 : selectMethod e.platform (s.setVm vm0).vm cell.cls T0.fill0 = .method T0.fill0 := by
    obtain ⟨c2, r2, m2, q1, q2, q3, q4, -⟩ := Cond.selects_spec (gm (.selects rc tFill0 tFill0) (by simp [exW]))
    cases hfR'.symm.trans q1
    cases q2.symm.trans (State.methodFound?_of_named Y.fill0 (by decide))
    cases q3.symm.trans Y.fill0
    rw [Launch.admits_selectMethod X.admits]; exact q4
  obtain ⟨_, _, cD, kD, iD, fD, -, -, hffD, hstD, -, -, -, -⟩ := Cond.lays_spec (gm (.lays rc tN "depth" "I") (by simp [exW]))
  cases (Cond.lays_declared (gm (.lays rc tN "depth" "I") (by simp [exW])) hffD).symm.trans Y.found
  obtain ⟨hkD, hatD⟩ := State.fieldFound?_spec hffD
  cases hkD.symm.trans L.cls
  obtain ⟨hnD, htyD⟩ := State.fieldFound?_type hffD (t := .int) (by decide +kernel)
  have hfb := Cond.soleField_find Y.found L.cls (gm (.soleField tN "backtrace") (by simp [exW])) ha198 hnB hsB
  have hfd := Cond.soleField_find Y.found L.cls (gm (.soleField tN "depth") (by simp [exW])) hatD hnD hstD
  obtain ⟨comp, cO, kO, -, -, hkO, hkindO, hOo⟩ := Cond.arrayOver_spec (W' (.arrayOver (.object "java/lang/Object")) (by simp [exW]))
  obtain ⟨tyS, -⟩ := Cond.laysAt hfR' i2 Y.stack (gm (.lays rc tN "stackTrace" steD) (by simp [exW]))
  obtain ⟨tyB, -⟩ := Cond.laysAt hfR' i2 hffB (gm (.lays rc tN "backtrace" obD) (by simp [exW]))
  obtain ⟨tyD, -⟩ := Cond.laysAt hfR' i2 hffD (gm (.lays rc tN "depth" "I") (by simp [exW]))
  have tk : ∀ {f : Field} {v : Value}, kB.instanceTypes[f.slot]? = some f.type → Jvm.fits f.type v = true → Jvm.Takes (s.setVm vm0) cell f v := fun {f v} r1 r2 => by
    obtain ⟨t1, t2⟩ := Takes.of_laid (v := v) i2 z3 r1 r2
    exact ⟨by rw [hsize]; simpa using t1, by rw [hvmN]; exact t2⟩
  have pays := Jvm.Free.Str.fillPays (l := l) (R := R) (below := below) (s := s.setVm vm0) (sargs := args) (len := 3) (W := (st.map fun v => v.category).sum) q1.1 (by rw [hpf]; exact hl) T0 L Y.fill (u0 := ⟨.ref u, rfl⟩) (by simp) (self := a) (cell := cell) (cellS := cellS)
    (fun z q => by rw [hvmN] at q; cases q) (by rw [hvmN]; simp) (by rw [hmon]) (by rw [hmon]) g7 hsel0 hneS (fun q => by rw [q] at u6; cases u6) u7 (tk tyS (by rw [Y.stackType]; rfl))
    ⟨⟨ci198, i198, fB⟩, ⟨hk198, hg198, ha198, hsB⟩, b7⟩ hKn.1 hKn.2 Y.found hOo hkO hkindO hfb hfd (fun x => tk tyB (by rw [htyB]; rfl)) (fun x => tk tyD (by rw [htyD]; rfl)) hf hlo
  obtain ⟨v, vm1, B, -, X', ⟨rfl, vm2, lines, hlen, -, eU, eL, eC, eS⟩, stp⟩ := X.virtualBack q1.1 (y := tFill) (z := tFill) hown (W' (.methodLink tN 27 tFill) (by simp [exW])) (W' _ (by simp [exW])) (notFace_of_selects (args := #[]) (C := rc) (mvT (s := s.setVm vm0) hZ (W _ (by simp [exW])))) (C := rc) (W' _ (by simp [exW])) (W' _ (by simp [exW])) (by decide) pays hfR' i3
    (g := mkF m pc Ls (.ref a :: st)) rfl hsz (Steps.refl _) (argsL := []) (rest := st) (lenOf (d := tFill.desc) (ps := []) (r := some (.object tN)) (by decide +kernel) rfl) rfl (by show 2 * 0 + _ ≤ _; omega) (hb hby hd) (fun _ _ => ⟨rfl, hc, hsl, by show T.heap[a]? = _; rw [eT]; exact hcell, by show T.heap[T0.aS]? = _; rw [eT]; exact hcS⟩)
  dsimp only [Pt.U, Pt.locs, Pt.cells, Pt.slots] at eU eL eC eS
  have hh : B.U.heap = (h.push (traceHolder cO lines)).setIfInBounds a (Jvm.Free.Str.filledOn T0.toThrowableT fB fD cell ⟨.ref u, rfl⟩ T.heap.size lines.length.toInt32) := by
    rw [show B.U = _ from eU, ← eT]; rfl
  have K2 : Keep h B.U.heap [a] := by
    rw [hh]; exact setCell_keep hcell rfl rfl (by simp [Jvm.Free.Str.filledOn, Cell.setSlot])
  have sf : ∀ x ∈ [a], Safe Z EL vm0 h x := fun x hx => by cases List.mem_singleton.mp hx; exact hs
  have X2 : Stand p l e R (s.setVm vm0) m args below meth c B.U B.locs (cells + 1) (slots + 2752) := by
    have q : B.slots ≤ slots + 2752 := by rw [show B.slots = _ from eS]; exact Nat.add_le_add_left (traceHolder_size_le cO hlen) _
    exact X'.more (Nat.le_of_eq eC) q
  refine Go.tr stp (k B.U B.U.heap (Safe Z EL vm0 B.U.heap) ⟨q1, vm0, _, X2, rfl, hZ, hown, hMo.mono K2.1, ?_, hO.keep K2 (allS hna all0), hC.trans (CHr.keep K2 sf hC.1), rfl⟩ K2 ?_ (fun x hx => Safe.keep K2 sf hC.1 hx))
  · rw [show B.locs = _ from eL]
    exact N0.app fun y hy => by
      simp only [List.mem_cons, List.not_mem_nil, or_false] at hy
      rcases hy with rfl | rfl | rfl <;> exact hna
  · have q : B.U.heap[a]? = some (Jvm.Free.Str.filledOn T0.toThrowableT fB fD cell ⟨.ref u, rfl⟩ T.heap.size lines.length.toInt32) := by
      rw [hh, Array.getElem?_setIfInBounds_self_of_lt (by have := (Array.getElem?_eq_some_iff.mp hcell).1; simp; omega)]
    exact ⟨_, q, hvmN, hmon⟩
theorem Unt.wr {x y : Addr} {sl : Nat} {v : Value} (W : Wr h h' y sl v) (N : Unt h x) : Unt h' x := by
  obtain ⟨cell, h1, -, -, rfl⟩ := W
  obtain ⟨cx, q1, q2, q3⟩ := N
  by_cases z : y = x
  · subst z; cases h1.symm.trans q1
    have hlt := (Array.getElem?_eq_some_iff.mp q1).1
    have q : (h.setIfInBounds y (cell.setSlot sl v))[y]? = some (cell.setSlot sl v) := by rw [Array.getElem?_setIfInBounds_self_of_lt hlt]
    exact ⟨_, q, q2, q3⟩
  · exact ⟨cx, by rw [Array.getElem?_setIfInBounds_ne z]; exact q1, q2, q3⟩
theorem Unt.known {x : Addr} (N : Unt h x) : ∃ cell : Cell, h[x]? = some cell ∧ cell.vm ≠ .unknown := by
  obtain ⟨cx, q1, q2, -⟩ := N; exact ⟨cx, q1, by rw [q2]; simp⟩
end OwnFill
end OwnKit
open Jvm Jvm.ClassFile Sem Op Lib Jvm.Free Jvm.Stand Jvm.LawKit Jvm.RoadKit Bundle OwnKit Jvm.Pilot.@@N@@.Jvm.D
abbrev EL : List (String × Nat) := consts_1
variable {l : Launch} {Z : State} {a0 : Array Value}
theorem strIn : ∀ d ∈ Bundle.stringAtoms, d ∈ tables_1 := by decide +kernel
theorem pn_java_lang_StringUTF16 : plainName "java/lang/StringUTF16" = true := by first | (simp [plainName, overriddenIn]; done) | decide +kernel
theorem ef_jdk_52_method_21_code (m : MethodId) (x0 : Addr) (x1 : Int32) (x2 : Addr) (x3 : Int32) (x4 : Int32) : entryFrame m #[(.ref x0), (.int x1), (.ref x2), (.int x3), (.int x4)] 7 = mkF m 0 #[.val (.ref x0), .val (.int x1), .val (.ref x2), .val (.int x3), .val (.int x4), .unset, .unset] [] := by first | (simp [entryFrame, mkF, argsToLocals, Value.category]; done) | rfl
theorem b1 : decs jdk_52_method_21_code 0 [.iconst 0, .istore 5] = true := by decide +kernel
theorem b2 : decs jdk_52_method_21_code 3 [.iload 5, .iload 4] = true := by decide +kernel
theorem d_jdk_52_method_21_code_7 : decode jdk_52_method_21_code 7 = .ok (.if_icmp .ge 37, 3) := by decide +kernel
theorem b3 : decs jdk_52_method_21_code 44 [.iload 4] = true := by decide +kernel
theorem d_jdk_52_method_21_code_46 : decode jdk_52_method_21_code 46 = .ok (.ireturn, 1) := by decide +kernel
theorem b4 : decs jdk_52_method_21_code 3 [.iload 5, .iload 4] = true := by decide +kernel
theorem b5 : decs jdk_52_method_21_code 10 [.aload_n 0, .iload_n 1] = true := by decide +kernel
theorem d_jdk_52_method_21_code_12 : decode jdk_52_method_21_code 12 = .ok (.caload, 1) := by decide +kernel
theorem d_jdk_52_method_21_code_13 : decode jdk_52_method_21_code 13 = .ok (.istore 6, 2) := by decide +kernel
theorem b6 : decs jdk_52_method_21_code 15 [.iload 6, .sipush 255] = true := by decide +kernel
theorem d_jdk_52_method_21_code_20 : decode jdk_52_method_21_code 20 = .ok (.if_icmp .le 6, 3) := by decide +kernel
theorem b7 : decs jdk_52_method_21_code 26 [.aload_n 2, .iload_n 3, .iload 6, .i2b] = true := by decide +kernel
theorem d_jdk_52_method_21_code_31 : decode jdk_52_method_21_code 31 = .ok (.bastore, 1) := by decide +kernel
theorem b8 : decs jdk_52_method_21_code 32 [.iinc 1 1, .iinc 3 1, .iinc 5 1, .goto (-38)] = true := by decide +kernel
theorem b9 : decs jdk_52_method_21_code 23 [.iload 5] = true := by decide +kernel
theorem d_jdk_52_method_21_code_25 : decode jdk_52_method_21_code 25 = .ok (.ireturn, 1) := by decide +kernel
def QC5 (Z : State) (h0 : Heap) (d : Addr) (cs : List Int32) (v : Option Value) (h : Heap) (S : Addr → Prop) : Prop := ∃ i ys, v = some (.int (Int32.ofNat i)) ∧ i ≤ cs.length ∧ Keep h0 h [d] ∧ Ari Z h d .byte ys ∧ ys.length = cs.length ∧ (∀ j, j < i → ¬ 255 < cs.getD j 0 ∧ ys.getD j 0 = lo8 (cs.getD j 0)) ∧ (i < cs.length → 255 < cs.getD i 0)
set_option maxRecDepth 65536 in
set_option maxHeartbeats 40000000 in
theorem ct_cmp5 {h0 : Heap} {a d : Addr} {cs ys : List Int32} (hw : ∀ d ∈ tables_1, d.before a0 Z = true) (hEL : EW Z a0 EL) (hO : Old Z Z.heap.size h0) (VA : Ari Z h0 a .char cs) (VD : Ari Z h0 d .byte ys) (hl : ys.length = cs.length) (hne : a ≠ d) (gd : Z.heap.size ≤ d) :
    Ct true true Z EL l (⟨"java/lang/StringUTF16", "compress", "([CI[BII)I"⟩ : MethodName) jdk_52_method_21_code 7 (some .int) ({ frames := 0, cells := 0, slots := 0, locals := 0 } : Room) #[(.ref a), (.int (0 : Int32)), (.ref d), (.int (0 : Int32)), (.int (Int32.ofNat cs.length))] h0 [d] (QC5 Z h0 d cs) := by
  refine ctOf pn_java_lang_StringUTF16 hO hEL ?_
  intro p e s m below meth c s₁ S0 X0 hby hml hret hnm hsf
  refine Go.entry (ef_jdk_52_method_21_code m a (0 : Int32) d (0 : Int32) (Int32.ofNat cs.length)) ?_
  show Go _ _ _ _ (s₁.setTop (mkF m 0 #[.val (.ref a), .val (.int (0 : Int32)), .val (.ref d), .val (.int (0 : Int32)), .val (.int (Int32.ofNat cs.length)), .unset, .unset] []))
  refine blk X0 hby b1 (pc' := 3) (Ls' := #[.val (.ref a), .val (.int (0 : Int32)), .val (.ref d), .val (.int (0 : Int32)), .val (.int (Int32.ofNat cs.length)), .val (.int (0 : Int32)), .unset]) (st' := []) rfl ?_
  have loop : ∀ (n i : Nat) (T : State) (h : Heap) (S : Addr → Prop) (ys : List Int32) (sl : Slot), n + i = cs.length → Sd true true Z a0 EL p l e ({ frames := 0, cells := 0, slots := 0, locals := 0 } : Room) s m #[(.ref a), (.int (0 : Int32)), (.ref d), (.int (0 : Int32)), (.int (Int32.ofNat cs.length))] below meth c "java/lang/StringUTF16" T h S 0 0 → Ari Z h a .char cs → Ari Z h d .byte ys → ys.length = cs.length → Keep h0 h [d] → S d → (∀ j, j < i → ¬ 255 < cs.getD j 0 ∧ ys.getD j 0 = lo8 (cs.getD j 0)) → One sl → Go p e below (Pst true Z EL ({ frames := 0, cells := 0, slots := 0, locals := 0 } : Room).cells ({ frames := 0, cells := 0, slots := 0, locals := 0 } : Room).slots (QC5 Z h0 d cs) s) (T.setTop (mkF m 3 #[.val (.ref a), .val (.int (Int32.ofNat i)), .val (.ref d), .val (.int (Int32.ofNat i)), .val (.int (Int32.ofNat cs.length)), .val (.int (Int32.ofNat i)), sl] [])) := by
    intro n
    induction n with
    | zero =>
      intro i T h S ys sl hn X VA VD hl K hs hy ho
      have hL := VA.len
      have hi31 : i < 2147483648 := by omega
      refine blk X hby b2 (pc' := 7) (Ls' := #[.val (.ref a), .val (.int (Int32.ofNat i)), .val (.ref d), .val (.int (Int32.ofNat i)), .val (.int (Int32.ofNat cs.length)), .val (.int (Int32.ofNat i)), sl]) (st' := [(.int (Int32.ofNat cs.length)), (.int (Int32.ofNat i))]) rfl ?_
      refine brI X hby d_jdk_52_method_21_code_7 (pc1 := 44) (by decide) (fun hc => ?_) (fun hc => absurd (geF hc) (by rw [lt32 hi31 hL]; omega))
      show Go _ _ _ _ (T.setTop (mkF m 44 #[.val (.ref a), .val (.int (Int32.ofNat i)), .val (.ref d), .val (.int (Int32.ofNat i)), .val (.int (Int32.ofNat cs.length)), .val (.int (Int32.ofNat i)), sl] []))
      refine blk X hby b3 (pc' := 46) (Ls' := #[.val (.ref a), .val (.int (Int32.ofNat i)), .val (.ref d), .val (.int (Int32.ofNat i)), .val (.int (Int32.ofNat cs.length)), .val (.int (Int32.ofNat i)), sl]) (st' := [(.int (Int32.ofNat cs.length))]) rfl ?_
      exact retI' X hby hret d_jdk_52_method_21_code_46 rfl (fun S' hS' => ⟨cs.length, ys, rfl, Nat.le_refl _, K, VD, hl, fun j hj => hy j (by omega), fun q => absurd q (Nat.lt_irrefl _)⟩)
    | succ n ih =>
      intro i T h S ys sl hn X VA VD hl K hs hy ho
      have hL := VA.len
      have hi31 : i < 2147483648 := by omega
      refine blk X hby b4 (pc' := 7) (Ls' := #[.val (.ref a), .val (.int (Int32.ofNat i)), .val (.ref d), .val (.int (Int32.ofNat i)), .val (.int (Int32.ofNat cs.length)), .val (.int (Int32.ofNat i)), sl]) (st' := [(.int (Int32.ofNat cs.length)), (.int (Int32.ofNat i))]) rfl ?_
      have hil : i < cs.length := by omega
      refine brI X hby d_jdk_52_method_21_code_7 (pc1 := 44) (by decide) (fun hc => absurd (geT hc) (fun q => q (by rw [lt32 hi31 hL]; omega))) (fun hc => ?_)
      show Go _ _ _ _ (T.setTop (mkF m 10 #[.val (.ref a), .val (.int (Int32.ofNat i)), .val (.ref d), .val (.int (Int32.ofNat i)), .val (.int (Int32.ofNat cs.length)), .val (.int (Int32.ofNat i)), sl] []))
      refine blk X hby b5 (pc' := 12) (Ls' := #[.val (.ref a), .val (.int (Int32.ofNat i)), .val (.ref d), .val (.int (Int32.ofNat i)), .val (.int (Int32.ofNat cs.length)), .val (.int (Int32.ofNat i)), sl]) (st' := [(.int (Int32.ofNat i)), (.ref a)]) rfl ?_
      refine gLd X hby VA (Or.inr (Or.inl ⟨rfl, rfl⟩)) d_jdk_52_method_21_code_12 (i := i) rfl hil ?_
      show Go _ _ _ _ (T.setTop (mkF m 13 #[.val (.ref a), .val (.int (Int32.ofNat i)), .val (.ref d), .val (.int (Int32.ofNat i)), .val (.int (Int32.ofNat cs.length)), .val (.int (Int32.ofNat i)), sl] [(.int (cs.getD i 0))]))
      refine gIst X hby d_jdk_52_method_21_code_13 (o := sl) rfl ho ?_
      show Go _ _ _ _ (T.setTop (mkF m 15 #[.val (.ref a), .val (.int (Int32.ofNat i)), .val (.ref d), .val (.int (Int32.ofNat i)), .val (.int (Int32.ofNat cs.length)), .val (.int (Int32.ofNat i)), .val (.int (cs.getD i 0))] []))
      refine blk X hby b6 (pc' := 20) (Ls' := #[.val (.ref a), .val (.int (Int32.ofNat i)), .val (.ref d), .val (.int (Int32.ofNat i)), .val (.int (Int32.ofNat cs.length)), .val (.int (Int32.ofNat i)), .val (.int (cs.getD i 0))]) (st' := [(.int (255 : Int32)), (.int (cs.getD i 0))]) rfl ?_
      refine brI X hby d_jdk_52_method_21_code_20 (pc1 := 26) (by decide) (fun hc2 => ?_) (fun hc2 => ?_)
      · replace hc2 := leT hc2
        show Go _ _ _ _ (T.setTop (mkF m 26 #[.val (.ref a), .val (.int (Int32.ofNat i)), .val (.ref d), .val (.int (Int32.ofNat i)), .val (.int (Int32.ofNat cs.length)), .val (.int (Int32.ofNat i)), .val (.int (cs.getD i 0))] []))
        refine blk X hby b7 (pc' := 31) (Ls' := #[.val (.ref a), .val (.int (Int32.ofNat i)), .val (.ref d), .val (.int (Int32.ofNat i)), .val (.int (Int32.ofNat cs.length)), .val (.int (Int32.ofNat i)), .val (.int (cs.getD i 0))]) (st' := [(.int (lo8 (cs.getD i 0))), (.int (Int32.ofNat i)), (.ref d)]) rfl ?_
        refine gSt X hby VD (Or.inr (Or.inr ⟨rfl, rfl⟩)) d_jdk_52_method_21_code_31 (i := i) rfl (by omega) (by rw [nar_lo8]; exact fits_nar_byte _) gd hs (fun T1 h1 S1 X1 W1 V1 sS1 => ?_)
        show Go _ _ _ _ (T1.setTop (mkF m 32 #[.val (.ref a), .val (.int (Int32.ofNat i)), .val (.ref d), .val (.int (Int32.ofNat i)), .val (.int (Int32.ofNat cs.length)), .val (.int (Int32.ofNat i)), .val (.int (cs.getD i 0))] []))
        rw [nar_lo8] at V1
        refine blk X1 hby b8 (pc' := 3) (Ls' := #[.val (.ref a), .val (.int ((Int32.ofNat i) + (1 : Int32))), .val (.ref d), .val (.int ((Int32.ofNat i) + (1 : Int32))), .val (.int (Int32.ofNat cs.length)), .val (.int ((Int32.ofNat i) + (1 : Int32))), .val (.int (cs.getD i 0))]) (st' := []) rfl ?_
        rw [succ32]
        refine ih (i + 1) T1 h1 S1 _ (.val (.int (cs.getD i 0))) (by omega) X1 (VA.other W1 hne) V1 (by rw [List.length_set]; exact hl) (K.wr W1 (Or.inl (by simp))) (sS1 d hs) (fun j hj => ?_) (One.val rfl)
        by_cases q : j = i
        · subst q; exact ⟨hc2, getD_set_self (by omega)⟩
        · rw [getD_set_ne (fun z => q z.symm)]; exact hy j (by omega)
      · replace hc2 := leF hc2
        show Go _ _ _ _ (T.setTop (mkF m 23 #[.val (.ref a), .val (.int (Int32.ofNat i)), .val (.ref d), .val (.int (Int32.ofNat i)), .val (.int (Int32.ofNat cs.length)), .val (.int (Int32.ofNat i)), .val (.int (cs.getD i 0))] []))
        refine blk X hby b9 (pc' := 25) (Ls' := #[.val (.ref a), .val (.int (Int32.ofNat i)), .val (.ref d), .val (.int (Int32.ofNat i)), .val (.int (Int32.ofNat cs.length)), .val (.int (Int32.ofNat i)), .val (.int (cs.getD i 0))]) (st' := [(.int (Int32.ofNat i))]) rfl ?_
        exact retI' X hby hret d_jdk_52_method_21_code_25 rfl (fun S' hS' => ⟨i, ys, rfl, by omega, K, VD, hl, hy, fun _ => hc2⟩)
  exact loop cs.length 0 s₁ h0 S0 ys .unset (by omega) X0 VA VD hl (Keep.refl _ _) (hsf d (by simp)) (fun j hj => absurd hj (Nat.not_lt_zero _)) One.u
theorem ef_jdk_52_method_16_code (m : MethodId) (x0 : Addr) (x1 : Int32) (x2 : Int32) : entryFrame m #[(.ref x0), (.int x1), (.int x2)] 6 = mkF m 0 #[.val (.ref x0), .val (.int x1), .val (.int x2), .unset, .unset, .unset] [] := by first | (simp [entryFrame, mkF, argsToLocals, Value.category]; done) | rfl
theorem b10 : decs jdk_52_method_16_code 0 [.iload_n 2] = true := by decide +kernel
theorem d_jdk_52_method_16_code_1 : decode jdk_52_method_16_code 1 = .ok (.newarray .byte, 2) := by decide +kernel
theorem b11 : decs jdk_52_method_16_code 3 [.astore_n 3, .aload_n 0, .iload_n 1, .aload_n 3, .iconst 0, .iload_n 2] = true := by decide +kernel
theorem d_jdk_52_method_16_code_9 : decode jdk_52_method_16_code 9 = .ok (.invokestatic 115, 3) := by decide +kernel
theorem pd___CI_BII_I : parseMethodDescriptor "([CI[BII)I" = some ⟨[(.array .char), .int, (.array .byte), .int, .int], (some .int)⟩ := by decide +kernel
theorem b12 : decs jdk_52_method_16_code 12 [.istore 4, .iload 4, .iload_n 2] = true := by decide +kernel
theorem d_jdk_52_method_16_code_17 : decode jdk_52_method_16_code 17 = .ok (.if_icmp .eq 40, 3) := by decide +kernel
theorem b13 : decs jdk_52_method_16_code 57 [.aload_n 3] = true := by decide +kernel
theorem d_jdk_52_method_16_code_58 : decode jdk_52_method_16_code 58 = .ok (.areturn, 1) := by decide +kernel
def QC3 (Z : State) (h0 : Heap) (cs : List Int32) (v : Option Value) (h : Heap) (S : Addr → Prop) : Prop := v = some (.ref h0.size) ∧ Keep h0 h [] ∧ Ari Z h h0.size .byte (cs.map lo8) ∧ S h0.size
set_option maxRecDepth 65536 in
set_option maxHeartbeats 40000000 in
theorem ct_cmp3 {h0 : Heap} {a : Addr} {cs : List Int32} (hw : ∀ d ∈ tables_1, d.before a0 Z = true) (hEL : EW Z a0 EL) (hO : Old Z Z.heap.size h0) (VA : Ari Z h0 a .char cs) (hlat : ∀ c ∈ cs, ¬ 255 < c) (hcap : cs.length ≤ 3) :
    Ct true true Z EL l (⟨"java/lang/StringUTF16", "compress", "([CII)[B"⟩ : MethodName) jdk_52_method_16_code 6 (some (.array .byte)) ({ frames := 1, cells := 1, slots := 3, locals := 18 } : Room) #[(.ref a), (.int (0 : Int32)), (.int (Int32.ofNat cs.length))] h0 [] (QC3 Z h0 cs) := by
  refine ctOf pn_java_lang_StringUTF16 hO hEL ?_
  intro p e s m below meth c s₁ S0 X0 hby hml hret hnm hsf
  refine Go.entry (ef_jdk_52_method_16_code m a (0 : Int32) (Int32.ofNat cs.length)) ?_
  show Go _ _ _ _ (s₁.setTop (mkF m 0 #[.val (.ref a), .val (.int (0 : Int32)), .val (.int (Int32.ofNat cs.length)), .unset, .unset, .unset] []))
  refine blk X0 hby b10 (pc' := 1) (Ls' := #[.val (.ref a), .val (.int (0 : Int32)), .val (.int (Int32.ofNat cs.length)), .unset, .unset, .unset]) (st' := [(.int (Int32.ofNat cs.length))]) rfl ?_
  refine gNewA X0 hby (aty := .byte) (hw _ (List.mem_of_getElem? (i := 19) rfl)) d_jdk_52_method_16_code_1 rfl (N := cs.length) (cap := 3) rfl hcap (by decide) (by decide) (by decide) (fun T1 h1 S1 X1 E1 V1 sS1 sn1 => ?_)
  show Go _ _ _ _ (T1.setTop (mkF m 3 #[.val (.ref a), .val (.int (0 : Int32)), .val (.int (Int32.ofNat cs.length)), .unset, .unset, .unset] [(.ref h0.size)]))
  refine blk X1 hby b11 (pc' := 9) (Ls' := #[.val (.ref a), .val (.int (0 : Int32)), .val (.int (Int32.ofNat cs.length)), .val (.ref h0.size), .unset, .unset]) (st' := [(.int (Int32.ofNat cs.length)), (.int (0 : Int32)), (.ref h0.size), (.int (0 : Int32)), (.ref a)]) rfl ?_
  refine gStatic X1 hby (argsL := [(.ref a), (.int (0 : Int32)), (.ref h0.size), (.int (0 : Int32)), (.int (Int32.ofNat cs.length))]) (st := []) (ct_cmp5 hw hEL X1.old (VA.ext E1) V1 (by simp) (Nat.ne_of_lt VA.lt) hO.2.1) (hw _ (List.mem_of_getElem? (i := 110) rfl)) (hw _ (List.mem_of_getElem? (i := 111) rfl)) (hw _ (List.mem_of_getElem? (i := 108) rfl)) (hw _ (List.mem_of_getElem? (i := 112) rfl)) pd___CI_BII_I rfl d_jdk_52_method_16_code_9 rfl (by rw [hml]; rfl) (allS sn1 all0) (by decide) (Nat.le_of_ble_eq_true rfl) (by decide) (by decide) (fun v2 T2 h2 S2 X2 q2 sS2 sz2 => ?_)
  obtain ⟨i, ys, rfl, q1, q2, q3, q4, q5, q6⟩ := q2
  have hic : i = cs.length := by
    rcases Nat.lt_or_ge i cs.length with z | z
    · exact absurd (q6 z) (hlat _ (getD_mem z))
    · omega
  subst hic
  have hys : ys = cs.map lo8 := list_of_getD (by rw [q4, List.length_map]) (fun j hj => by rw [getD_map (by omega)]; exact (q5 j (by omega)).2)
  subst hys
  show Go _ _ _ _ (T2.setTop (mkF m 12 #[.val (.ref a), .val (.int (0 : Int32)), .val (.int (Int32.ofNat cs.length)), .val (.ref h0.size), .unset, .unset] [(.int (Int32.ofNat cs.length))]))
  refine blk X2 hby b12 (pc' := 17) (Ls' := #[.val (.ref a), .val (.int (0 : Int32)), .val (.int (Int32.ofNat cs.length)), .val (.ref h0.size), .val (.int (Int32.ofNat cs.length)), .unset]) (st' := [(.int (Int32.ofNat cs.length)), (.int (Int32.ofNat cs.length))]) rfl ?_
  refine brI X2 hby d_jdk_52_method_16_code_17 (pc1 := 57) (by decide) (fun hc => ?_) (fun hc => absurd (eqF hc) (fun q => q rfl))
  show Go _ _ _ _ (T2.setTop (mkF m 57 #[.val (.ref a), .val (.int (0 : Int32)), .val (.int (Int32.ofNat cs.length)), .val (.ref h0.size), .val (.int (Int32.ofNat cs.length)), .unset] []))
  refine blk X2 hby b13 (pc' := 58) (Ls' := #[.val (.ref a), .val (.int (0 : Int32)), .val (.int (Int32.ofNat cs.length)), .val (.ref h0.size), .val (.int (Int32.ofNat cs.length)), .unset]) (st' := [(.ref h0.size)]) rfl ?_
  exact retA' X2 hby hret d_jdk_52_method_16_code_58 rfl (fun S' hS' => ⟨rfl, (Keep.refl _ _).ext E1 |>.trans q2 (fun x hx => Or.inr (by cases List.mem_singleton.mp hx; exact Nat.le_refl _)), q3, hS' _ (sS2 _ (by have := V1.lt; exact this) sn1)⟩)
theorem ef_jdk_52_method_15_code (m : MethodId) (x0 : Addr) (x1 : Int32) : entryFrame m #[(.ref x0), (.int x1)] 2 = mkF m 0 #[.val (.ref x0), .val (.int x1)] [] := by first | (simp [entryFrame, mkF, argsToLocals, Value.category]; done) | rfl
theorem b14 : decs jdk_52_method_15_code 0 [.iload_n 1, .aload_n 0] = true := by decide +kernel
theorem d_jdk_52_method_15_code_2 : decode jdk_52_method_15_code 2 = .ok (.arraylength, 1) := by decide +kernel
theorem b15 : decs jdk_52_method_15_code 3 [.isub, .bipush 31, .iushr, .i2b] = true := by decide +kernel
theorem d_jdk_52_method_15_code_8 : decode jdk_52_method_15_code 8 = .ok (.ireturn, 1) := by decide +kernel
def QCL (h0 : Heap) (ys : List Int32) (n : Int32) (v : Option Value) (h : Heap) (S : Addr → Prop) : Prop := v = some (.int (lo8 (XT.ushr (n - Int32.ofNat ys.length) (31 : Int32)))) ∧ h = h0
set_option maxRecDepth 65536 in
set_option maxHeartbeats 40000000 in
theorem ct_cfl {h0 : Heap} {d : Addr} {ys : List Int32} {n : Int32} (hw : ∀ d ∈ tables_1, d.before a0 Z = true) (hEL : EW Z a0 EL) (hO : Old Z Z.heap.size h0) (VD : Ari Z h0 d .byte ys) :
    Ct true true Z EL l (⟨"java/lang/StringUTF16", "coderFromArrayLen", "([BI)B"⟩ : MethodName) jdk_52_method_15_code 2 (some .byte) ({ frames := 0, cells := 0, slots := 0, locals := 0 } : Room) #[(.ref d), (.int n)] h0 [] (QCL h0 ys n) := by
  refine ctOf pn_java_lang_StringUTF16 hO hEL ?_
  intro p e s m below meth c s₁ S0 X0 hby hml hret hnm hsf
  refine Go.entry (ef_jdk_52_method_15_code m d n) ?_
  show Go _ _ _ _ (s₁.setTop (mkF m 0 #[.val (.ref d), .val (.int n)] []))
  refine blk X0 hby b14 (pc' := 2) (Ls' := #[.val (.ref d), .val (.int n)]) (st' := [(.ref d), (.int n)]) rfl ?_
  refine gLen X0 hby VD d_jdk_52_method_15_code_2 ?_
  show Go _ _ _ _ (s₁.setTop (mkF m 3 #[.val (.ref d), .val (.int n)] [(.int (Int32.ofNat ys.length)), (.int n)]))
  refine blk X0 hby b15 (pc' := 8) (Ls' := #[.val (.ref d), .val (.int n)]) (st' := [(.int (lo8 (XT.ushr (n - (Int32.ofNat ys.length)) (31 : Int32))))]) rfl ?_
  exact retI' X0 hby hret d_jdk_52_method_15_code_8 (XT.narrow_b _) (fun S' hS' => ⟨rfl, rfl⟩)
theorem pn_java_lang_String : plainName "java/lang/String" = true := by first | (simp [plainName, overriddenIn]; done) | decide +kernel
theorem ef_jdk_42_method_149_code (m : MethodId) (x0 : Addr) (x1 : Addr) (x2 : Int32) (x3 : Int32) : entryFrame m #[(.ref x0), (.ref x1), (.int x2), (.int x3), .null] 6 = mkF m 0 #[.val (.ref x0), .val (.ref x1), .val (.int x2), .val (.int x3), .val .null, .unset] [] := by first | (simp [entryFrame, mkF, argsToLocals, Value.category]; done) | rfl
theorem b16 : decs jdk_42_method_149_code 0 [.aload_n 0] = true := by decide +kernel
theorem d_jdk_42_method_149_code_1 : decode jdk_42_method_149_code 1 = .ok (.invokespecial 1, 3) := by decide +kernel
theorem b17 : decs jdk_42_method_149_code 4 [.iload_n 3] = true := by decide +kernel
theorem d_jdk_42_method_149_code_5 : decode jdk_42_method_149_code 5 = .ok (.ifCond .ne 22, 3) := by decide +kernel
theorem d_jdk_42_method_149_code_27 : decode jdk_42_method_149_code 27 = .ok (.getstatic 38, 3) := by decide +kernel
theorem d_jdk_42_method_149_code_30 : decode jdk_42_method_149_code 30 = .ok (.ifCond .eq 28, 3) := by decide +kernel
theorem b18 : decs jdk_42_method_149_code 33 [.aload_n 1, .iload_n 2, .iload_n 3] = true := by decide +kernel
theorem d_jdk_42_method_149_code_36 : decode jdk_42_method_149_code 36 = .ok (.invokestatic 177, 3) := by decide +kernel
theorem pd___CII__B : parseMethodDescriptor "([CII)[B" = some ⟨[(.array .char), .int, .int], (some (.array .byte))⟩ := by decide +kernel
theorem b19 : decs jdk_42_method_149_code 39 [.astore 5, .aload_n 0, .aload 5, .iload_n 3] = true := by decide +kernel
theorem d_jdk_42_method_149_code_45 : decode jdk_42_method_149_code 45 = .ok (.invokestatic 47, 3) := by decide +kernel
theorem pd___BI_B : parseMethodDescriptor "([BI)B" = some ⟨[(.array .byte), .int], (some .byte)⟩ := by decide +kernel
theorem d_jdk_42_method_149_code_48 : decode jdk_42_method_149_code 48 = .ok (.putfield 15, 3) := by decide +kernel
theorem b20 : decs jdk_42_method_149_code 51 [.aload_n 0, .aload 5] = true := by decide +kernel
theorem d_jdk_42_method_149_code_54 : decode jdk_42_method_149_code 54 = .ok (.putfield 9, 3) := by decide +kernel
theorem d_jdk_42_method_149_code_57 : decode jdk_42_method_149_code 57 = .ok (.return_, 1) := by decide +kernel
theorem b21 : decs jdk_42_method_149_code 8 [.aload_n 0] = true := by decide +kernel
theorem d_jdk_42_method_149_code_9 : decode jdk_42_method_149_code 9 = .ok (.ldc 7, 2) := by decide +kernel
theorem d_jdk_42_method_149_code_11 : decode jdk_42_method_149_code 11 = .ok (.getfield 9, 3) := by decide +kernel
theorem d_jdk_42_method_149_code_14 : decode jdk_42_method_149_code 14 = .ok (.putfield 9, 3) := by decide +kernel
theorem b22 : decs jdk_42_method_149_code 17 [.aload_n 0] = true := by decide +kernel
theorem d_jdk_42_method_149_code_18 : decode jdk_42_method_149_code 18 = .ok (.ldc 7, 2) := by decide +kernel
theorem d_jdk_42_method_149_code_20 : decode jdk_42_method_149_code 20 = .ok (.getfield 15, 3) := by decide +kernel
theorem d_jdk_42_method_149_code_23 : decode jdk_42_method_149_code 23 = .ok (.putfield 15, 3) := by decide +kernel
theorem d_jdk_42_method_149_code_26 : decode jdk_42_method_149_code 26 = .ok (.return_, 1) := by decide +kernel
def QS (Z : State) (h0 : Heap) (x : Addr) (cs : List Int32) (v : Option Value) (h : Heap) (S : Addr → Prop) : Prop := v = none ∧ Keep h0 h [x] ∧ ∃ b, Str Z h x b cs ∧ (h0.size ≤ b ∨ cs = [])
set_option maxRecDepth 65536 in
set_option maxHeartbeats 40000000 in
theorem ct_init4 {h0 : Heap} {x a : Addr} {cs : List Int32} {v0 c0 : Value} {zc : Int32} (hw : ∀ d ∈ tables_1, d.before a0 Z = true) (hEL : EW Z a0 EL) (hO : Old Z Z.heap.size h0) (E : Exa Z h0 x "java/lang/String") (FV : Fld Z h0 x "java/lang/String" "value" "[B" v0) (FC : Fld Z h0 x "java/lang/String" "coder" "B" c0) (VA : Ari Z h0 a .char cs) (gx : Z.heap.size ≤ x) (hcap : cs.length ≤ 3) (hCS : Sta Z Z.heap "java/lang/String" "COMPACT_STRINGS" "Z" (.int zc)) (hzc : ¬ zc = 0) (hlat : ∀ c ∈ cs, ¬ 255 < c) :
    Ct true true Z EL l (⟨"java/lang/String", "<init>", "([CIILjava/lang/Void;)V"⟩ : MethodName) jdk_42_method_149_code 6 none ({ frames := 2, cells := 4, slots := 8, locals := 35 } : Room) #[(.ref x), (.ref a), (.int (0 : Int32)), (.int (Int32.ofNat cs.length)), .null] h0 [x] (QS Z h0 x cs) := by
  refine ctOf pn_java_lang_String hO hEL ?_
  intro p e s m below meth c s₁ S0 X0 hby hml hret hnm hsf
  refine Go.entry (ef_jdk_42_method_149_code m x a (0 : Int32) (Int32.ofNat cs.length)) ?_
  show Go _ _ _ _ (s₁.setTop (mkF m 0 #[.val (.ref x), .val (.ref a), .val (.int (0 : Int32)), .val (.int (Int32.ofNat cs.length)), .val .null, .unset] []))
  refine blk X0 hby b16 (pc' := 1) (Ls' := #[.val (.ref x), .val (.ref a), .val (.int (0 : Int32)), .val (.int (Int32.ofNat cs.length)), .val .null, .unset]) (st' := [(.ref x)]) rfl ?_
  refine gInitO X0 hby (hw _ (List.mem_of_getElem? (i := 15) rfl)) (hw _ (List.mem_of_getElem? (i := 16) rfl)) (hw _ (List.mem_of_getElem? (i := 17) rfl)) (by rw [hml]; rfl) d_jdk_42_method_149_code_1 (by decide) (Nat.le_of_ble_eq_true rfl) (fun T1 X1 => ?_)
  show Go _ _ _ _ (T1.setTop (mkF m 4 #[.val (.ref x), .val (.ref a), .val (.int (0 : Int32)), .val (.int (Int32.ofNat cs.length)), .val .null, .unset] []))
  refine blk X1 hby b17 (pc' := 5) (Ls' := #[.val (.ref x), .val (.ref a), .val (.int (0 : Int32)), .val (.int (Int32.ofNat cs.length)), .val .null, .unset]) (st' := [(.int (Int32.ofNat cs.length))]) rfl ?_
  refine br0 X1 hby d_jdk_42_method_149_code_5 (pc1 := 27) (by decide) (fun hc => ?_) (fun hc => ?_)
  · replace hc := neT hc
    show Go _ _ _ _ (T1.setTop (mkF m 27 #[.val (.ref x), .val (.ref a), .val (.int (0 : Int32)), .val (.int (Int32.ofNat cs.length)), .val .null, .unset] []))
    refine gGetS X1 hby (hw _ (List.mem_of_getElem? (i := 105) rfl)) Via.refl hCS d_jdk_42_method_149_code_27 (fun T2 X2 => ?_)
    show Go _ _ _ _ (T2.setTop (mkF m 30 #[.val (.ref x), .val (.ref a), .val (.int (0 : Int32)), .val (.int (Int32.ofNat cs.length)), .val .null, .unset] [(.int zc)]))
    refine br0 X2 hby d_jdk_42_method_149_code_30 (pc1 := 58) (by decide) (fun hz => absurd (eqT hz) (hzc)) (fun hz => ?_)
    show Go _ _ _ _ (T2.setTop (mkF m 33 #[.val (.ref x), .val (.ref a), .val (.int (0 : Int32)), .val (.int (Int32.ofNat cs.length)), .val .null, .unset] []))
    refine blk X2 hby b18 (pc' := 36) (Ls' := #[.val (.ref x), .val (.ref a), .val (.int (0 : Int32)), .val (.int (Int32.ofNat cs.length)), .val .null, .unset]) (st' := [(.int (Int32.ofNat cs.length)), (.int (0 : Int32)), (.ref a)]) rfl ?_
    refine gStatic X2 hby (argsL := [(.ref a), (.int (0 : Int32)), (.int (Int32.ofNat cs.length))]) (st := []) (ct_cmp3 hw hEL X2.old VA hlat hcap) (hw _ (List.mem_of_getElem? (i := 106) rfl)) (hw _ (List.mem_of_getElem? (i := 107) rfl)) (hw _ (List.mem_of_getElem? (i := 108) rfl)) (hw _ (List.mem_of_getElem? (i := 109) rfl)) pd___CII__B rfl d_jdk_42_method_149_code_36 rfl (by rw [hml]; rfl) all0 (by decide) (Nat.le_of_ble_eq_true rfl) (by decide) (by decide) (fun v3 T3 h3 S3 X3 q3 sS3 sz3 => ?_)
    obtain ⟨rfl, q1, q2, q3⟩ := q3
    show Go _ _ _ _ (T3.setTop (mkF m 39 #[.val (.ref x), .val (.ref a), .val (.int (0 : Int32)), .val (.int (Int32.ofNat cs.length)), .val .null, .unset] [(.ref h0.size)]))
    refine blk X3 hby b19 (pc' := 45) (Ls' := #[.val (.ref x), .val (.ref a), .val (.int (0 : Int32)), .val (.int (Int32.ofNat cs.length)), .val .null, .val (.ref h0.size)]) (st' := [(.int (Int32.ofNat cs.length)), (.ref h0.size), (.ref x)]) rfl ?_
    refine gStatic X3 hby (argsL := [(.ref h0.size), (.int (Int32.ofNat cs.length))]) (st := [(.ref x)]) (ct_cfl hw hEL X3.old q2) (hw _ (List.mem_of_getElem? (i := 113) rfl)) (hw _ (List.mem_of_getElem? (i := 114) rfl)) (hw _ (List.mem_of_getElem? (i := 108) rfl)) (hw _ (List.mem_of_getElem? (i := 115) rfl)) pd___BI_B rfl d_jdk_42_method_149_code_45 rfl (by rw [hml]; rfl) all0 (by decide) (Nat.le_of_ble_eq_true rfl) (by decide) (by decide) (fun v4 T4 h4 S4 X4 q4 sS4 sz4 => ?_)
    obtain ⟨rfl, rfl⟩ := q4
    have cz : lo8 (XT.ushr (Int32.ofNat cs.length - Int32.ofNat (cs.map lo8).length) (31 : Int32)) = (0 : Int32) := by rw [List.length_map, Int32.sub_self]; decide
    show Go _ _ _ _ (T4.setTop (mkF m 48 #[.val (.ref x), .val (.ref a), .val (.int (0 : Int32)), .val (.int (Int32.ofNat cs.length)), .val .null, .val (.ref h0.size)] [(.int (lo8 (XT.ushr (Int32.ofNat cs.length - Int32.ofNat (cs.map lo8).length) (31 : Int32)))), (.ref x)]))
    rw [cz]
    show Go _ _ _ _ (T4.setTop (mkF m 48 #[.val (.ref x), .val (.ref a), .val (.int (0 : Int32)), .val (.int (Int32.ofNat cs.length)), .val .null, .val (.ref h0.size)] [(.int (0 : Int32)), (.ref x)]))
    have hxs : S4 x := sS4 x (Nat.lt_of_lt_of_le E.lt q1.1) (sS3 x E.lt (hsf x (by simp)))
    refine gPutF X4 hby (hw _ (List.mem_of_getElem? (i := 25) rfl)) Via.refl (FC.keep q1 nin0) (E.keep q1) (Or.inr ⟨(hw _ (List.mem_of_getElem? (i := 21) rfl)), rfl, hnm⟩) (hw _ (List.mem_of_getElem? (i := 5) rfl)) (ty := .byte) (by decide) rfl rfl gx hxs d_jdk_42_method_149_code_48 (fun T5 h5 S5 X5 W5 sS5 => ?_)
    show Go _ _ _ _ (T5.setTop (mkF m 51 #[.val (.ref x), .val (.ref a), .val (.int (0 : Int32)), .val (.int (Int32.ofNat cs.length)), .val .null, .val (.ref h0.size)] []))
    have nvc : Jvm.RoadKit.slotOf Z "java/lang/String" "value" "[B" ≠ Jvm.RoadKit.slotOf Z "java/lang/String" "coder" "B" := slot_ne (t := .array .byte) (t' := .byte) (Or.inr (hw _ (List.mem_of_getElem? (i := 20) rfl))) (Or.inr (hw _ (List.mem_of_getElem? (i := 21) rfl))) (by decide) (by decide) (by decide)
    refine blk X5 hby b20 (pc' := 54) (Ls' := #[.val (.ref x), .val (.ref a), .val (.int (0 : Int32)), .val (.int (Int32.ofNat cs.length)), .val .null, .val (.ref h0.size)]) (st' := [(.ref h0.size), (.ref x)]) rfl ?_
    refine gPutF X5 hby (hw _ (List.mem_of_getElem? (i := 24) rfl)) Via.refl ((FV.keep q1 nin0).other W5 (Or.inr nvc)) ((E.keep q1).wr W5) (Or.inr ⟨(hw _ (List.mem_of_getElem? (i := 20) rfl)), rfl, hnm⟩) (hw _ (List.mem_of_getElem? (i := 5) rfl)) (ty := (.array .byte)) (by decide) rfl rfl gx (sS5 x hxs) d_jdk_42_method_149_code_54 (fun T6 h6 S6 X6 W6 sS6 => ?_)
    show Go _ _ _ _ (T6.setTop (mkF m 57 #[.val (.ref x), .val (.ref a), .val (.int (0 : Int32)), .val (.int (Int32.ofNat cs.length)), .val .null, .val (.ref h0.size)] []))
    have nb : h0.size ≠ x := Nat.ne_of_gt E.lt
    exact retV' X6 hby hret d_jdk_42_method_149_code_57 (fun S' hS' => ⟨rfl, ((keep_more q1 : Keep h0 _ [x]).wr W5 (Or.inl (by simp))).wr W6 (Or.inl (by simp)), h0.size, ⟨((E.keep q1).wr W5).wr W6, ((FV.keep q1 nin0).other W5 (Or.inr nvc)).same W6, VA.chars, Or.inl ⟨((FC.keep q1 nin0).same W5).other W6 (Or.inr (Ne.symm nvc)), (q2.other W5 nb).other W6 nb, hlat⟩⟩, Or.inl (Nat.le_refl _)⟩)
  · replace hc := neF hc
    show Go _ _ _ _ (T1.setTop (mkF m 8 #[.val (.ref x), .val (.ref a), .val (.int (0 : Int32)), .val (.int (Int32.ofNat cs.length)), .val .null, .unset] []))
    have hcs : cs = [] := List.length_eq_zero_iff.mp ((eq32 VA.len (by omega)).mp hc)
    subst hcs
    show Go _ _ _ _ (T1.setTop (mkF m 8 #[.val (.ref x), .val (.ref a), .val (.int (0 : Int32)), .val (.int (Int32.ofNat ([] : List Int32).length)), .val .null, .unset] []))
    refine blk X1 hby b21 (pc' := 9) (Ls' := #[.val (.ref x), .val (.ref a), .val (.int (0 : Int32)), .val (.int (Int32.ofNat ([] : List Int32).length)), .val .null, .unset]) (st' := [(.ref x)]) rfl ?_
    refine gLdc X1 hby (hw _ (List.mem_of_getElem? (i := 18) rfl)) (fun d hd => hw d (strIn d hd)) (by decide) (xs := []) (by decide) (by decide) (by decide) d_jdk_42_method_149_code_9 (n := 0) (by decide) (by decide) (by decide) (by decide) (fun T2 h2 S2 c2 b2 X2 E2 A2 F2 G2 V2 sS2 sn2 => ?_)
    show Go _ _ _ _ (T2.setTop (mkF m 11 #[.val (.ref x), .val (.ref a), .val (.int (0 : Int32)), .val (.int (Int32.ofNat ([] : List Int32).length)), .val .null, .unset] [(.ref c2), (.ref x)]))
    have hx2 : S2 x := sS2 x E.lt (hsf x (by simp))
    refine gGetF X2 hby (hw _ (List.mem_of_getElem? (i := 24) rfl)) Via.refl G2 d_jdk_42_method_149_code_11 (fun T3 X3 => ?_)
    show Go _ _ _ _ (T3.setTop (mkF m 14 #[.val (.ref x), .val (.ref a), .val (.int (0 : Int32)), .val (.int (Int32.ofNat ([] : List Int32).length)), .val .null, .unset] [(.ref b2), (.ref x)]))
    refine gPutF X3 hby (hw _ (List.mem_of_getElem? (i := 24) rfl)) Via.refl (FV.ext E2) (E.ext E2) (Or.inr ⟨(hw _ (List.mem_of_getElem? (i := 20) rfl)), rfl, hnm⟩) (hw _ (List.mem_of_getElem? (i := 5) rfl)) (ty := (.array .byte)) (by decide) rfl rfl gx hx2 d_jdk_42_method_149_code_14 (fun T4 h4 S4 X4 W4 sS4 => ?_)
    show Go _ _ _ _ (T4.setTop (mkF m 17 #[.val (.ref x), .val (.ref a), .val (.int (0 : Int32)), .val (.int (Int32.ofNat ([] : List Int32).length)), .val .null, .unset] []))
    have nvc : Jvm.RoadKit.slotOf Z "java/lang/String" "value" "[B" ≠ Jvm.RoadKit.slotOf Z "java/lang/String" "coder" "B" := slot_ne (t := .array .byte) (t' := .byte) (Or.inr (hw _ (List.mem_of_getElem? (i := 20) rfl))) (Or.inr (hw _ (List.mem_of_getElem? (i := 21) rfl))) (by decide) (by decide) (by decide)
    have FV4 := (FV.ext E2).same W4
    have FC4 := (FC.ext E2).other W4 (Or.inr (Ne.symm nvc))
    have E4' := (E.ext E2).wr W4
    have V4' := V2.other W4 (Ne.symm (sn2 x hx2).2)
    refine blk X4 hby b22 (pc' := 18) (Ls' := #[.val (.ref x), .val (.ref a), .val (.int (0 : Int32)), .val (.int (Int32.ofNat ([] : List Int32).length)), .val .null, .unset]) (st' := [(.ref x)]) rfl ?_
    refine gLdc X4 hby (hw _ (List.mem_of_getElem? (i := 18) rfl)) (fun d hd => hw d (strIn d hd)) (by decide) (xs := []) (by decide) (by decide) (by decide) d_jdk_42_method_149_code_18 (n := 0) (by decide) (by decide) (by decide) (by decide) (fun T5 h5 S5 c5 b5 X5 E5 A5 F5 G5 V5 sS5 sn5 => ?_)
    show Go _ _ _ _ (T5.setTop (mkF m 20 #[.val (.ref x), .val (.ref a), .val (.int (0 : Int32)), .val (.int (Int32.ofNat ([] : List Int32).length)), .val .null, .unset] [(.ref c5), (.ref x)]))
    have hx5 : S5 x := sS5 x E4'.lt (sS4 x hx2)
    refine gGetF X5 hby (hw _ (List.mem_of_getElem? (i := 25) rfl)) Via.refl F5 d_jdk_42_method_149_code_20 (fun T6 X6 => ?_)
    show Go _ _ _ _ (T6.setTop (mkF m 23 #[.val (.ref x), .val (.ref a), .val (.int (0 : Int32)), .val (.int (Int32.ofNat ([] : List Int32).length)), .val .null, .unset] [(.int (0 : Int32)), (.ref x)]))
    refine gPutF X6 hby (hw _ (List.mem_of_getElem? (i := 25) rfl)) Via.refl (FC4.ext E5) (E4'.ext E5) (Or.inr ⟨(hw _ (List.mem_of_getElem? (i := 21) rfl)), rfl, hnm⟩) (hw _ (List.mem_of_getElem? (i := 5) rfl)) (ty := .byte) (by decide) rfl rfl gx hx5 d_jdk_42_method_149_code_23 (fun T7 h7 S7 X7 W7 sS7 => ?_)
    show Go _ _ _ _ (T7.setTop (mkF m 26 #[.val (.ref x), .val (.ref a), .val (.int (0 : Int32)), .val (.int (Int32.ofNat ([] : List Int32).length)), .val .null, .unset] []))
    exact retV' X7 hby hret d_jdk_42_method_149_code_26 (fun S' hS' => ⟨rfl, ((((Keep.refl h0 [x]).ext E2).wr W4 (Or.inl (by simp))).ext E5).wr W7 (Or.inl (by simp)), b2, ⟨(E4'.ext E5).wr W7, (FV4.ext E5).other W7 (Or.inr nvc), (fun c hc => nomatch hc), Or.inl ⟨(FC4.ext E5).same W7, (V4'.ext E5).other W7 (fun z => (sn2 x hx2).2 z.symm), (fun c hc => nomatch hc)⟩⟩, Or.inr rfl⟩)
theorem ef_jdk_42_method_3_code (m : MethodId) (x0 : Addr) (x1 : Addr) : entryFrame m #[(.ref x0), (.ref x1)] 2 = mkF m 0 #[.val (.ref x0), .val (.ref x1)] [] := by first | (simp [entryFrame, mkF, argsToLocals, Value.category]; done) | rfl
theorem b23 : decs jdk_42_method_3_code 0 [.aload_n 0, .aload_n 1, .iconst 0, .aload_n 1] = true := by decide +kernel
theorem d_jdk_42_method_3_code_4 : decode jdk_42_method_3_code 4 = .ok (.arraylength, 1) := by decide +kernel
theorem b24 : decs jdk_42_method_3_code 5 [.aconst_null] = true := by decide +kernel
theorem d_jdk_42_method_3_code_6 : decode jdk_42_method_3_code 6 = .ok (.invokespecial 27, 3) := by decide +kernel
theorem pd___CIILjava_lang_Void__V : parseMethodDescriptor "([CIILjava/lang/Void;)V" = some ⟨[(.array .char), .int, .int, (.object "java/lang/Void")], none⟩ := by decide +kernel
theorem d_jdk_42_method_3_code_9 : decode jdk_42_method_3_code 9 = .ok (.return_, 1) := by decide +kernel
set_option maxRecDepth 65536 in
set_option maxHeartbeats 40000000 in
theorem ct_init1 {h0 : Heap} {x a : Addr} {cs : List Int32} {v0 c0 : Value} {zc : Int32} (hw : ∀ d ∈ tables_1, d.before a0 Z = true) (hEL : EW Z a0 EL) (hO : Old Z Z.heap.size h0) (E : Exa Z h0 x "java/lang/String") (FV : Fld Z h0 x "java/lang/String" "value" "[B" v0) (FC : Fld Z h0 x "java/lang/String" "coder" "B" c0) (VA : Ari Z h0 a .char cs) (gx : Z.heap.size ≤ x) (hcap : cs.length ≤ 3) (hCS : Sta Z Z.heap "java/lang/String" "COMPACT_STRINGS" "Z" (.int zc)) (hzc : ¬ zc = 0) (hlat : ∀ c ∈ cs, ¬ 255 < c) :
    Ct true true Z EL l (⟨"java/lang/String", "<init>", "([C)V"⟩ : MethodName) jdk_42_method_3_code 2 none ({ frames := 3, cells := 4, slots := 8, locals := 52 } : Room) #[(.ref x), (.ref a)] h0 [x] (QS Z h0 x cs) := by
  refine ctOf pn_java_lang_String hO hEL ?_
  intro p e s m below meth c s₁ S0 X0 hby hml hret hnm hsf
  refine Go.entry (ef_jdk_42_method_3_code m x a) ?_
  show Go _ _ _ _ (s₁.setTop (mkF m 0 #[.val (.ref x), .val (.ref a)] []))
  refine blk X0 hby b23 (pc' := 4) (Ls' := #[.val (.ref x), .val (.ref a)]) (st' := [(.ref a), (.int (0 : Int32)), (.ref a), (.ref x)]) rfl ?_
  refine gLen X0 hby VA d_jdk_42_method_3_code_4 ?_
  show Go _ _ _ _ (s₁.setTop (mkF m 5 #[.val (.ref x), .val (.ref a)] [(.int (Int32.ofNat cs.length)), (.int (0 : Int32)), (.ref a), (.ref x)]))
  refine blk X0 hby b24 (pc' := 6) (Ls' := #[.val (.ref x), .val (.ref a)]) (st' := [.null, (.int (Int32.ofNat cs.length)), (.int (0 : Int32)), (.ref a), (.ref x)]) rfl ?_
  refine gInit X0 hby (argsL := [(.ref a), (.int (0 : Int32)), (.int (Int32.ofNat cs.length)), .null]) (st := []) (ct_init4 hw hEL X0.old E FV FC VA gx hcap hCS hzc hlat) rfl (hw _ (List.mem_of_getElem? (i := 11) rfl)) (hw _ (List.mem_of_getElem? (i := 12) rfl)) (hw _ (List.mem_of_getElem? (i := 6) rfl)) (hw _ (List.mem_of_getElem? (i := 14) rfl)) pd___CIILjava_lang_Void__V rfl d_jdk_42_method_3_code_6 rfl (by rw [hml]; rfl) hsf (by decide) (Nat.le_of_ble_eq_true rfl) (by decide) (by decide) (fun v1 T1 h1 S1 X1 q1 sS1 sz1 => ?_)
  obtain ⟨rfl, q1, q2⟩ := q1
  show Go _ _ _ _ (T1.setTop (mkF m 9 #[.val (.ref x), .val (.ref a)] []))
  exact retV' X1 hby hret d_jdk_42_method_3_code_9 (fun S' hS' => ⟨rfl, q1, q2⟩)
theorem ef_jdk_42_method_66_code (m : MethodId) (x0 : Addr) (x1 : Addr) : entryFrame m #[(.ref x0), (.ref x1)] 3 = mkF m 0 #[.val (.ref x0), .val (.ref x1), .unset] [] := by first | (simp [entryFrame, mkF, argsToLocals, Value.category]; done) | rfl
theorem b25 : decs jdk_42_method_66_code 0 [.aload_n 0, .aload_n 1] = true := by decide +kernel
theorem d_jdk_42_method_66_code_2 : decode jdk_42_method_66_code 2 = .ok (.if_acmp .ne 5, 3) := by decide +kernel
theorem b26 : decs jdk_42_method_66_code 5 [.iconst 1] = true := by decide +kernel
theorem d_jdk_42_method_66_code_6 : decode jdk_42_method_66_code 6 = .ok (.ireturn, 1) := by decide +kernel
def QE (h0 : Heap) (v : Option Value) (h : Heap) (S : Addr → Prop) : Prop := v = some (.int 1) ∧ h = h0
set_option maxRecDepth 65536 in
set_option maxHeartbeats 40000000 in
theorem ct_eqid {h0 : Heap} {x : Addr} (hw : ∀ d ∈ tables_1, d.before a0 Z = true) (hEL : EW Z a0 EL) (hO : Old Z Z.heap.size h0)  :
    Ct true true Z EL l (⟨"java/lang/String", "equals", "(Ljava/lang/Object;)Z"⟩ : MethodName) jdk_42_method_66_code 3 (some .boolean) ({ frames := 0, cells := 0, slots := 0, locals := 0 } : Room) #[(.ref x), (.ref x)] h0 [] (QE h0) := by
  refine ctOf pn_java_lang_String hO hEL ?_
  intro p e s m below meth c s₁ S0 X0 hby hml hret hnm hsf
  refine Go.entry (ef_jdk_42_method_66_code m x x) ?_
  show Go _ _ _ _ (s₁.setTop (mkF m 0 #[.val (.ref x), .val (.ref x), .unset] []))
  refine blk X0 hby b25 (pc' := 2) (Ls' := #[.val (.ref x), .val (.ref x), .unset]) (st' := [(.ref x), (.ref x)]) rfl ?_
  refine brA X0 hby d_jdk_42_method_66_code_2 rfl rfl (pc1 := 7) (by decide) (fun hc => absurd (aneT hc) (fun q => q rfl)) (fun hc => ?_)
  show Go _ _ _ _ (s₁.setTop (mkF m 5 #[.val (.ref x), .val (.ref x), .unset] []))
  refine blk X0 hby b26 (pc' := 6) (Ls' := #[.val (.ref x), .val (.ref x), .unset]) (st' := [(.int (1 : Int32))]) rfl ?_
  exact retI' X0 hby hret d_jdk_42_method_66_code_6 rfl (fun S' hS' => ⟨rfl, rfl⟩)
abbrev FEn : String := "com/example/fragsel/fragsel/FragselException"
theorem exW_in : ∀ d ∈ exW FEn, d ∈ tables_1 := by decide +kernel
theorem pn_java_lang_Throwable : plainName "java/lang/Throwable" = true := by first | (simp [plainName, overriddenIn]; done) | decide +kernel
theorem ef_jdk_78_method_2_code_n (m : MethodId) (x0 : Addr) : entryFrame m #[(.ref x0), .null] 2 = mkF m 0 #[.val (.ref x0), .val .null] [] := by first | (simp [entryFrame, mkF, argsToLocals, Value.category]; done) | rfl
theorem b27 : decs jdk_78_method_2_code 0 [.aload_n 0] = true := by decide +kernel
theorem d_jdk_78_method_2_code_1 : decode jdk_78_method_2_code 1 = .ok (.invokespecial 1, 3) := by decide +kernel
theorem b28 : decs jdk_78_method_2_code 4 [.aload_n 0, .aload_n 0] = true := by decide +kernel
theorem d_jdk_78_method_2_code_6 : decode jdk_78_method_2_code 6 = .ok (.putfield 7, 3) := by decide +kernel
theorem b29 : decs jdk_78_method_2_code 9 [.aload_n 0] = true := by decide +kernel
theorem d_jdk_78_method_2_code_10 : decode jdk_78_method_2_code 10 = .ok (.getstatic 13, 3) := by decide +kernel
theorem d_jdk_78_method_2_code_13 : decode jdk_78_method_2_code 13 = .ok (.putfield 17, 3) := by decide +kernel
theorem b30 : decs jdk_78_method_2_code 16 [.aload_n 0] = true := by decide +kernel
theorem d_jdk_78_method_2_code_17 : decode jdk_78_method_2_code 17 = .ok (.getstatic 20, 3) := by decide +kernel
theorem d_jdk_78_method_2_code_20 : decode jdk_78_method_2_code 20 = .ok (.putfield 24, 3) := by decide +kernel
theorem b31 : decs jdk_78_method_2_code 23 [.aload_n 0] = true := by decide +kernel
theorem d_jdk_78_method_2_code_24 : decode jdk_78_method_2_code 24 = .ok (.invokevirtual 27, 3) := by decide +kernel
theorem b32 : decs jdk_78_method_2_code 27 [.pop, .aload_n 0, .aload_n 1] = true := by decide +kernel
theorem d_jdk_78_method_2_code_30 : decode jdk_78_method_2_code 30 = .ok (.putfield 31, 3) := by decide +kernel
theorem d_jdk_78_method_2_code_33 : decode jdk_78_method_2_code 33 = .ok (.return_, 1) := by decide +kernel
def QT (Z : State) (h0 : Heap) (a : Addr) (msg : Value) (v : Option Value) (h : Heap) (S : Addr → Prop) : Prop := v = none ∧ Keep h0 h [a] ∧ Exa Z h a "com/example/fragsel/fragsel/FragselException" ∧ Unt h a ∧ Fld Z h a "java/lang/Throwable" "detailMessage" "Ljava/lang/String;" msg
set_option maxRecDepth 65536 in
set_option maxHeartbeats 40000000 in
theorem ct_tinit_n {h0 : Heap} {a : Addr} {us ss : Addr}  (hw : ∀ d ∈ tables_1, d.before a0 Z = true) (hEL : EW Z a0 EL) (hO : Old Z Z.heap.size h0) (hst : l.stackTraces = true) (hU : Sta Z Z.heap "java/lang/Throwable" "UNASSIGNED_STACK" "[Ljava/lang/StackTraceElement;" (.ref us)) (hS : Sta Z Z.heap "java/lang/Throwable" "SUPPRESSED_SENTINEL" "Ljava/util/List;" (.ref ss)) (E : Exa Z h0 a "com/example/fragsel/fragsel/FragselException") (N : Unt h0 a) (B : Fld Z h0 a "java/lang/Throwable" "backtrace" "Ljava/lang/Object;" .null) (ga : Z.heap.size ≤ a) :
    Ct true true Z EL l (⟨"java/lang/Throwable", "<init>", "(Ljava/lang/String;)V"⟩ : MethodName) jdk_78_method_2_code 2 none ({ frames := 3, cells := 1, slots := 2752, locals := 42 } : Room) #[(.ref a), .null] h0 [a] (QT Z h0 a .null) := by
  refine ctOf pn_java_lang_Throwable hO hEL ?_
  intro p e s m below meth c s₁ S0 X0 hby hml hret hnm hsf
  refine Go.entry (ef_jdk_78_method_2_code_n m a) ?_
  show Go _ _ _ _ (s₁.setTop (mkF m 0 #[.val (.ref a), .val .null] []))
  refine blk X0 hby b27 (pc' := 1) (Ls' := #[.val (.ref a), .val .null]) (st' := [(.ref a)]) rfl ?_
  refine gInitO X0 hby (hw _ (List.mem_of_getElem? (i := 49) rfl)) (hw _ (List.mem_of_getElem? (i := 16) rfl)) (hw _ (List.mem_of_getElem? (i := 17) rfl)) (by rw [hml]; rfl) d_jdk_78_method_2_code_1 (by decide) (Nat.le_of_ble_eq_true rfl) (fun T1 X1 => ?_)
  show Go _ _ _ _ (T1.setTop (mkF m 4 #[.val (.ref a), .val .null] []))
  refine blk X1 hby b28 (pc' := 6) (Ls' := #[.val (.ref a), .val .null]) (st' := [(.ref a), (.ref a)]) rfl ?_
  obtain ⟨_, F_cause⟩ := fld_laid E (N).known (hw _ (List.mem_of_getElem? (i := 31) rfl)) (O := "java/lang/Throwable") (n := "cause") (d := "Ljava/lang/Throwable;") (Or.inl (hw _ (List.mem_of_getElem? (i := 51) rfl)))
  refine gPutF X1 hby (hw _ (List.mem_of_getElem? (i := 50) rfl)) Via.refl F_cause E (Or.inl (hw _ (List.mem_of_getElem? (i := 51) rfl))) (hw _ (List.mem_of_getElem? (i := 31) rfl)) (ty := (.object "java/lang/Throwable")) (by decide) rfl rfl ga (hsf a (by simp)) d_jdk_78_method_2_code_6 (fun T2 h2 S2 X2 W2 sS2 => ?_)
  show Go _ _ _ _ (T2.setTop (mkF m 9 #[.val (.ref a), .val .null] []))
  have E1 := E.wr W2; have N1 := N.wr W2; have B1 := B.other W2 (Or.inr (slot_ne (t := (.object "java/lang/Object")) (t' := (.object "java/lang/Throwable")) (Or.inl (hw _ (List.mem_of_getElem? (i := 82) rfl))) (Or.inl (hw _ (List.mem_of_getElem? (i := 51) rfl))) (by decide) (by decide) (by decide))); have s1 := sS2 a (hsf a (by simp)); have K1 := (Keep.refl h0 [a]).wr W2 (Or.inl (by simp))
  refine blk X2 hby b29 (pc' := 10) (Ls' := #[.val (.ref a), .val .null]) (st' := [(.ref a)]) rfl ?_
  refine gGetS X2 hby (hw _ (List.mem_of_getElem? (i := 52) rfl)) Via.refl hU d_jdk_78_method_2_code_10 (fun T3 X3 => ?_)
  show Go _ _ _ _ (T3.setTop (mkF m 13 #[.val (.ref a), .val .null] [(.ref us), (.ref a)]))
  obtain ⟨_, F_stackTrace⟩ := fld_laid E1 (N1).known (hw _ (List.mem_of_getElem? (i := 31) rfl)) (O := "java/lang/Throwable") (n := "stackTrace") (d := "[Ljava/lang/StackTraceElement;") (Or.inl (hw _ (List.mem_of_getElem? (i := 54) rfl)))
  refine gPutF X3 hby (hw _ (List.mem_of_getElem? (i := 53) rfl)) Via.refl F_stackTrace E1 (Or.inl (hw _ (List.mem_of_getElem? (i := 54) rfl))) (hw _ (List.mem_of_getElem? (i := 31) rfl)) (ty := (.array (.object "java/lang/StackTraceElement"))) (by decide) rfl rfl ga s1 d_jdk_78_method_2_code_13 (fun T4 h4 S4 X4 W4 sS4 => ?_)
  show Go _ _ _ _ (T4.setTop (mkF m 16 #[.val (.ref a), .val .null] []))
  have E2 := E1.wr W4; have N2 := N1.wr W4; have B2 := B1.other W4 (Or.inr (slot_ne (t := (.object "java/lang/Object")) (t' := (.array (.object "java/lang/StackTraceElement"))) (Or.inl (hw _ (List.mem_of_getElem? (i := 82) rfl))) (Or.inl (hw _ (List.mem_of_getElem? (i := 54) rfl))) (by decide) (by decide) (by decide))); have s2 := sS4 a s1; have K2 := K1.wr W4 (Or.inl (by simp)); have G2 := F_stackTrace.same W4
  refine blk X4 hby b30 (pc' := 17) (Ls' := #[.val (.ref a), .val .null]) (st' := [(.ref a)]) rfl ?_
  refine gGetS X4 hby (hw _ (List.mem_of_getElem? (i := 55) rfl)) Via.refl hS d_jdk_78_method_2_code_17 (fun T5 X5 => ?_)
  show Go _ _ _ _ (T5.setTop (mkF m 20 #[.val (.ref a), .val .null] [(.ref ss), (.ref a)]))
  obtain ⟨_, F_suppressedExceptions⟩ := fld_laid E2 (N2).known (hw _ (List.mem_of_getElem? (i := 31) rfl)) (O := "java/lang/Throwable") (n := "suppressedExceptions") (d := "Ljava/util/List;") (Or.inl (hw _ (List.mem_of_getElem? (i := 57) rfl)))
  refine gPutF X5 hby (hw _ (List.mem_of_getElem? (i := 56) rfl)) Via.refl F_suppressedExceptions E2 (Or.inl (hw _ (List.mem_of_getElem? (i := 57) rfl))) (hw _ (List.mem_of_getElem? (i := 31) rfl)) (ty := (.object "java/util/List")) (by decide) rfl rfl ga s2 d_jdk_78_method_2_code_20 (fun T6 h6 S6 X6 W6 sS6 => ?_)
  show Go _ _ _ _ (T6.setTop (mkF m 23 #[.val (.ref a), .val .null] []))
  have E3 := E2.wr W6; have N3 := N2.wr W6; have B3 := B2.other W6 (Or.inr (slot_ne (t := (.object "java/lang/Object")) (t' := (.object "java/util/List")) (Or.inl (hw _ (List.mem_of_getElem? (i := 82) rfl))) (Or.inl (hw _ (List.mem_of_getElem? (i := 57) rfl))) (by decide) (by decide) (by decide))); have s3 := sS6 a s2; have K3 := K2.wr W6 (Or.inl (by simp)); have G3 := G2.other W6 (Or.inr (slot_ne (t := (.array (.object "java/lang/StackTraceElement"))) (t' := (.object "java/util/List")) (Or.inl (hw _ (List.mem_of_getElem? (i := 54) rfl))) (Or.inl (hw _ (List.mem_of_getElem? (i := 57) rfl))) (by decide) (by decide) (by decide)))
  refine blk X6 hby b31 (pc' := 24) (Ls' := #[.val (.ref a), .val .null]) (st' := [(.ref a)]) rfl ?_
  refine gFill X6 hby hst (rc := FEn) (fun d hd => hw d (exW_in d hd)) (hw _ (List.mem_of_getElem? (i := 31) rfl)) E3 N3 B3 G3 hU ga s3 d_jdk_78_method_2_code_24 (by rw [hml]; rfl) (by decide) (by decide) (by decide) (by decide) (fun T7 h7 S7 X7 KF NF sF => ?_)
  show Go _ _ _ _ (T7.setTop (mkF m 27 #[.val (.ref a), .val .null] [(.ref a)]))
  have E4 := E3.keep KF; have s4 := sF a s3; have K4 := K3.trans KF (fun x hx => Or.inl hx)
  obtain ⟨_, F_detailMessage⟩ := fld_laid E4 (NF).known (hw _ (List.mem_of_getElem? (i := 31) rfl)) (O := "java/lang/Throwable") (n := "detailMessage") (d := "Ljava/lang/String;") (Or.inl (hw _ (List.mem_of_getElem? (i := 81) rfl)))
  refine blk X7 hby b32 (pc' := 30) (Ls' := #[.val (.ref a), .val .null]) (st' := [.null, (.ref a)]) rfl ?_
  refine gPutF X7 hby (hw _ (List.mem_of_getElem? (i := 85) rfl)) Via.refl F_detailMessage E4 (Or.inl (hw _ (List.mem_of_getElem? (i := 81) rfl))) (hw _ (List.mem_of_getElem? (i := 31) rfl)) (ty := (.object "java/lang/String")) (by decide) rfl rfl ga s4 d_jdk_78_method_2_code_30 (fun T8 h8 S8 X8 W8 sS8 => ?_)
  show Go _ _ _ _ (T8.setTop (mkF m 33 #[.val (.ref a), .val .null] []))
  exact retV' X8 hby hret d_jdk_78_method_2_code_33 (fun S' hS' => ⟨rfl, K4.wr W8 (Or.inl (by simp)), E4.wr W8, NF.wr W8, F_detailMessage.same W8⟩)
theorem pn_java_lang_Exception : plainName "java/lang/Exception" = true := by first | (simp [plainName, overriddenIn]; done) | decide +kernel
theorem ef_jdk_59_method_2_code_n (m : MethodId) (x0 : Addr) : entryFrame m #[(.ref x0), .null] 2 = mkF m 0 #[.val (.ref x0), .val .null] [] := by first | (simp [entryFrame, mkF, argsToLocals, Value.category]; done) | rfl
theorem b33 : decs jdk_59_method_2_code 0 [.aload_n 0, .aload_n 1] = true := by decide +kernel
theorem d_jdk_59_method_2_code_2 : decode jdk_59_method_2_code 2 = .ok (.invokespecial 7, 3) := by decide +kernel
theorem pd__Ljava_lang_String__V : parseMethodDescriptor "(Ljava/lang/String;)V" = some ⟨[(.object "java/lang/String")], none⟩ := by decide +kernel
theorem d_jdk_59_method_2_code_5 : decode jdk_59_method_2_code 5 = .ok (.return_, 1) := by decide +kernel
set_option maxRecDepth 65536 in
set_option maxHeartbeats 40000000 in
theorem ct_einit_n {h0 : Heap} {a : Addr} {us ss : Addr}  (hw : ∀ d ∈ tables_1, d.before a0 Z = true) (hEL : EW Z a0 EL) (hO : Old Z Z.heap.size h0) (hst : l.stackTraces = true) (hU : Sta Z Z.heap "java/lang/Throwable" "UNASSIGNED_STACK" "[Ljava/lang/StackTraceElement;" (.ref us)) (hS : Sta Z Z.heap "java/lang/Throwable" "SUPPRESSED_SENTINEL" "Ljava/util/List;" (.ref ss)) (E : Exa Z h0 a "com/example/fragsel/fragsel/FragselException") (N : Unt h0 a) (B : Fld Z h0 a "java/lang/Throwable" "backtrace" "Ljava/lang/Object;" .null) (ga : Z.heap.size ≤ a) :
    Ct true true Z EL l (⟨"java/lang/Exception", "<init>", "(Ljava/lang/String;)V"⟩ : MethodName) jdk_59_method_2_code 2 none ({ frames := 4, cells := 1, slots := 2752, locals := 55 } : Room) #[(.ref a), .null] h0 [a] (QT Z h0 a .null) := by
  refine ctOf pn_java_lang_Exception hO hEL ?_
  intro p e s m below meth c s₁ S0 X0 hby hml hret hnm hsf
  refine Go.entry (ef_jdk_59_method_2_code_n m a) ?_
  show Go _ _ _ _ (s₁.setTop (mkF m 0 #[.val (.ref a), .val .null] []))
  refine blk X0 hby b33 (pc' := 2) (Ls' := #[.val (.ref a), .val .null]) (st' := [.null, (.ref a)]) rfl ?_
  refine gInit X0 hby (argsL := [.null]) (st := []) (ct_tinit_n hw hEL X0.old hst hU hS E N B ga) rfl (hw _ (List.mem_of_getElem? (i := 43) rfl)) (hw _ (List.mem_of_getElem? (i := 44) rfl)) (hw _ (List.mem_of_getElem? (i := 47) rfl)) (hw _ (List.mem_of_getElem? (i := 48) rfl)) pd__Ljava_lang_String__V rfl d_jdk_59_method_2_code_2 rfl (by rw [hml]; rfl) hsf (by decide) (Nat.le_of_ble_eq_true rfl) (by decide) (by decide) (fun v1 T1 h1 S1 X1 q1 sS1 sz1 => ?_)
  obtain ⟨rfl, q⟩ := q1
  show Go _ _ _ _ (T1.setTop (mkF m 5 #[.val (.ref a), .val .null] []))
  exact retV' X1 hby hret d_jdk_59_method_2_code_5 (fun S' hS' => ⟨rfl, q⟩)
theorem pn_com_example_fragsel_fragsel_FragselException : plainName "com/example/fragsel/fragsel/FragselException" = true := by first | (simp [plainName, overriddenIn]; done) | decide +kernel
theorem ef_prog_5_method_1_code_n (m : MethodId) (x0 : Addr) (x1 : Addr) : entryFrame m #[(.ref x0), (.ref x1), .null] 3 = mkF m 0 #[.val (.ref x0), .val (.ref x1), .val .null] [] := by first | (simp [entryFrame, mkF, argsToLocals, Value.category]; done) | rfl
theorem b34 : decs prog_5_method_1_code 0 [.aload_n 0, .aload_n 2] = true := by decide +kernel
theorem d_prog_5_method_1_code_2 : decode prog_5_method_1_code 2 = .ok (.invokespecial 1, 3) := by decide +kernel
theorem b35 : decs prog_5_method_1_code 5 [.aload_n 0, .aload_n 1] = true := by decide +kernel
theorem d_prog_5_method_1_code_7 : decode prog_5_method_1_code 7 = .ok (.putfield 7, 3) := by decide +kernel
theorem d_prog_5_method_1_code_10 : decode prog_5_method_1_code 10 = .ok (.return_, 1) := by decide +kernel
def QF (Z : State) (h0 : Heap) (a kd : Addr) (msg : Value) (v : Option Value) (h : Heap) (S : Addr → Prop) : Prop := v = none ∧ Keep h0 h [a] ∧ Exa Z h a "com/example/fragsel/fragsel/FragselException" ∧ Fld Z h a "java/lang/Throwable" "detailMessage" "Ljava/lang/String;" msg ∧ Fld Z h a "com/example/fragsel/fragsel/FragselException" "kind" "Lcom/example/fragsel/fragsel/FragselException$Kind;" (.ref kd)
set_option maxRecDepth 65536 in
set_option maxHeartbeats 40000000 in
theorem ct_finit_n {h0 : Heap} {a kd : Addr} {us ss : Addr}  (hw : ∀ d ∈ tables_1, d.before a0 Z = true) (hEL : EW Z a0 EL) (hO : Old Z Z.heap.size h0) (hst : l.stackTraces = true) (hU : Sta Z Z.heap "java/lang/Throwable" "UNASSIGNED_STACK" "[Ljava/lang/StackTraceElement;" (.ref us)) (hS : Sta Z Z.heap "java/lang/Throwable" "SUPPRESSED_SENTINEL" "Ljava/util/List;" (.ref ss)) (E : Exa Z h0 a "com/example/fragsel/fragsel/FragselException") (N : Unt h0 a) (B : Fld Z h0 a "java/lang/Throwable" "backtrace" "Ljava/lang/Object;" .null) (ga : Z.heap.size ≤ a) :
    Ct true true Z EL l (⟨"com/example/fragsel/fragsel/FragselException", "<init>", "(Lcom/example/fragsel/fragsel/FragselException$Kind;Ljava/lang/String;)V"⟩ : MethodName) prog_5_method_1_code 3 none ({ frames := 5, cells := 1, slots := 2752, locals := 70 } : Room) #[(.ref a), (.ref kd), .null] h0 [a] (QF Z h0 a kd .null) := by
  refine ctOf pn_com_example_fragsel_fragsel_FragselException hO hEL ?_
  intro p e s m below meth c s₁ S0 X0 hby hml hret hnm hsf
  refine Go.entry (ef_prog_5_method_1_code_n m a kd) ?_
  show Go _ _ _ _ (s₁.setTop (mkF m 0 #[.val (.ref a), .val (.ref kd), .val .null] []))
  refine blk X0 hby b34 (pc' := 2) (Ls' := #[.val (.ref a), .val (.ref kd), .val .null]) (st' := [.null, (.ref a)]) rfl ?_
  refine gInit X0 hby (argsL := [.null]) (st := []) (ct_einit_n hw hEL X0.old hst hU hS E N B ga) rfl (hw _ (List.mem_of_getElem? (i := 38) rfl)) (hw _ (List.mem_of_getElem? (i := 39) rfl)) (hw _ (List.mem_of_getElem? (i := 41) rfl)) (hw _ (List.mem_of_getElem? (i := 42) rfl)) pd__Ljava_lang_String__V rfl d_prog_5_method_1_code_2 rfl (by rw [hml]; rfl) hsf (by decide) (Nat.le_of_ble_eq_true rfl) (by decide) (by decide) (fun v1 T1 h1 S1 X1 q1 sS1 sz1 => ?_)
  obtain ⟨rfl, K1, E1, N1, F1⟩ := q1
  show Go _ _ _ _ (T1.setTop (mkF m 5 #[.val (.ref a), .val (.ref kd), .val .null] []))
  obtain ⟨_, FK⟩ := fld_laid E1 N1.known (hw _ (List.mem_of_getElem? (i := 31) rfl)) (O := "com/example/fragsel/fragsel/FragselException") (n := "kind") (d := "Lcom/example/fragsel/fragsel/FragselException$Kind;") (Or.inr (hw _ (List.mem_of_getElem? (i := 87) rfl)))
  refine blk X1 hby b35 (pc' := 7) (Ls' := #[.val (.ref a), .val (.ref kd), .val .null]) (st' := [(.ref kd), (.ref a)]) rfl ?_
  refine gPutF X1 hby (hw _ (List.mem_of_getElem? (i := 86) rfl)) Via.refl FK E1 (Or.inr ⟨(hw _ (List.mem_of_getElem? (i := 87) rfl)), rfl, hnm⟩) (hw _ (List.mem_of_getElem? (i := 31) rfl)) (ty := (.object "com/example/fragsel/fragsel/FragselException$Kind")) (by decide) rfl rfl ga (sS1 a E.lt (hsf a (by simp))) d_prog_5_method_1_code_7 (fun T2 h2 S2 X2 W2 sS2 => ?_)
  show Go _ _ _ _ (T2.setTop (mkF m 10 #[.val (.ref a), .val (.ref kd), .val .null] []))
  exact retV' X2 hby hret d_prog_5_method_1_code_10 (fun S' hS' => ⟨rfl, K1.wr W2 (Or.inl (by simp)), E1.wr W2, F1.other W2 (Or.inr (slot_ne (t := (.object "java/lang/String")) (t' := (.object "com/example/fragsel/fragsel/FragselException$Kind")) (Or.inl (hw _ (List.mem_of_getElem? (i := 81) rfl))) (Or.inr (hw _ (List.mem_of_getElem? (i := 87) rfl))) (by decide) (by decide) (by decide))), FK.same W2⟩)
theorem ef_prog_5_method_5_code_n (m : MethodId)  : entryFrame m #[.null] 1 = mkF m 0 #[.val .null] [] := by first | (simp [entryFrame, mkF, argsToLocals, Value.category]; done) | rfl
theorem d_prog_5_method_5_code_0 : decode prog_5_method_5_code 0 = .ok (.new 8, 3) := by decide +kernel
theorem b36 : decs prog_5_method_5_code 3 [.dup] = true := by decide +kernel
theorem d_prog_5_method_5_code_4 : decode prog_5_method_5_code 4 = .ok (.getstatic 28, 3) := by decide +kernel
theorem b37 : decs prog_5_method_5_code 7 [.aload_n 0] = true := by decide +kernel
theorem d_prog_5_method_5_code_8 : decode prog_5_method_5_code 8 = .ok (.invokespecial 17, 3) := by decide +kernel
theorem pd__Lcom_example_fragsel_fragsel_FragselException_Kind_Ljava_lang_String__V : parseMethodDescriptor "(Lcom/example/fragsel/fragsel/FragselException$Kind;Ljava/lang/String;)V" = some ⟨[(.object "com/example/fragsel/fragsel/FragselException$Kind"), (.object "java/lang/String")], none⟩ := by decide +kernel
theorem d_prog_5_method_5_code_11 : decode prog_5_method_5_code 11 = .ok (.areturn, 1) := by decide +kernel
def QM (Z : State) (h0 : Heap) (kd : Addr) (msg : Value) (v : Option Value) (h : Heap) (S : Addr → Prop) : Prop := v = some (.ref h0.size) ∧ Keep h0 h [] ∧ Exa Z h h0.size "com/example/fragsel/fragsel/FragselException" ∧ Fld Z h h0.size "java/lang/Throwable" "detailMessage" "Ljava/lang/String;" msg ∧ Fld Z h h0.size "com/example/fragsel/fragsel/FragselException" "kind" "Lcom/example/fragsel/fragsel/FragselException$Kind;" (.ref kd)
set_option maxRecDepth 65536 in
set_option maxHeartbeats 40000000 in
theorem ct_make_n {h0 : Heap} {kd : Addr} {us ss : Addr}  (hw : ∀ d ∈ tables_1, d.before a0 Z = true) (hEL : EW Z a0 EL) (hO : Old Z Z.heap.size h0) (hst : l.stackTraces = true) (hU : Sta Z Z.heap "java/lang/Throwable" "UNASSIGNED_STACK" "[Ljava/lang/StackTraceElement;" (.ref us)) (hS : Sta Z Z.heap "java/lang/Throwable" "SUPPRESSED_SENTINEL" "Ljava/util/List;" (.ref ss)) (hK : Sta Z Z.heap "com/example/fragsel/fragsel/FragselException$Kind" "ENDPOINT" "Lcom/example/fragsel/fragsel/FragselException$Kind;" (.ref kd)) :
    Ct true true Z EL l (⟨"com/example/fragsel/fragsel/FragselException", "endpoint", "(Ljava/lang/String;)Lcom/example/fragsel/fragsel/FragselException;"⟩ : MethodName) prog_5_method_5_code 1 (some (.object "com/example/fragsel/fragsel/FragselException")) ({ frames := 6, cells := 2, slots := 2759, locals := 85 } : Room) #[.null] h0 [] (QM Z h0 kd .null) := by
  refine ctOf pn_com_example_fragsel_fragsel_FragselException hO hEL ?_
  intro p e s m below meth c s₁ S0 X0 hby hml hret hnm hsf
  refine Go.entry (ef_prog_5_method_5_code_n m ) ?_
  show Go _ _ _ _ (s₁.setTop (mkF m 0 #[.val .null] []))
  refine gNew X0 hby (hw _ (List.mem_of_getElem? (i := 30) rfl)) (hw _ (List.mem_of_getElem? (i := 31) rfl)) (hw _ (List.mem_of_getElem? (i := 28) rfl)) d_prog_5_method_5_code_0 (by decide) (by decide) (fun T1 h1 S1 X1 E1 A1 D1 M1 sS1 sn1 => ?_)
  show Go _ _ _ _ (T1.setTop (mkF m 3 #[.val .null] [(.ref h0.size)]))
  refine blk X1 hby b36 (pc' := 4) (Ls' := #[.val .null]) (st' := [(.ref h0.size), (.ref h0.size)]) rfl ?_
  refine gGetS X1 hby (hw _ (List.mem_of_getElem? (i := 32) rfl)) Via.refl hK d_prog_5_method_5_code_4 (fun T2 X2 => ?_)
  show Go _ _ _ _ (T2.setTop (mkF m 7 #[.val .null] [(.ref kd), (.ref h0.size), (.ref h0.size)]))
  refine blk X2 hby b37 (pc' := 8) (Ls' := #[.val .null]) (st' := [.null, (.ref kd), (.ref h0.size), (.ref h0.size)]) rfl ?_
  refine gInit X2 hby (argsL := [(.ref kd), .null]) (st := [(.ref h0.size)]) (ct_finit_n hw hEL X2.old hst hU hS A1 M1 (D1 (O := "java/lang/Throwable") (nm := "backtrace") (d := "Ljava/lang/Object;") (Or.inl (hw _ (List.mem_of_getElem? (i := 82) rfl))) (ty := (.object "java/lang/Object")) (by decide)) hO.2.1) rfl (hw _ (List.mem_of_getElem? (i := 35) rfl)) (hw _ (List.mem_of_getElem? (i := 36) rfl)) (hw _ (List.mem_of_getElem? (i := 28) rfl)) (hw _ (List.mem_of_getElem? (i := 37) rfl)) pd__Lcom_example_fragsel_fragsel_FragselException_Kind_Ljava_lang_String__V rfl d_prog_5_method_5_code_8 rfl (by rw [hml]; rfl) (allS sn1 all0) (by decide) (Nat.le_of_ble_eq_true rfl) (by decide) (by decide) (fun v3 T3 h3 S3 X3 q3 sS3 sz3 => ?_)
  obtain ⟨rfl, q1, q2, q3, q4⟩ := q3
  show Go _ _ _ _ (T3.setTop (mkF m 11 #[.val .null] [(.ref h0.size)]))
  exact retA' X3 hby hret d_prog_5_method_5_code_11 rfl (fun S' hS' => ⟨rfl, ((Keep.refl h0 []).ext E1).trans q1 (fun x hx => Or.inr (by cases List.mem_singleton.mp hx; exact Nat.le_refl _)), q2, q3, q4⟩)
theorem ef_jdk_78_method_6_code (m : MethodId) (x0 : Addr) : entryFrame m #[(.ref x0)] 1 = mkF m 0 #[.val (.ref x0)] [] := by first | (simp [entryFrame, mkF, argsToLocals, Value.category]; done) | rfl
theorem b38 : decs jdk_78_method_6_code 0 [.aload_n 0] = true := by decide +kernel
theorem d_jdk_78_method_6_code_1 : decode jdk_78_method_6_code 1 = .ok (.getfield 31, 3) := by decide +kernel
theorem d_jdk_78_method_6_code_4 : decode jdk_78_method_6_code 4 = .ok (.areturn, 1) := by decide +kernel
def QP (h0 : Heap) (r : Value) (v : Option Value) (h : Heap) (S : Addr → Prop) : Prop := v = some r ∧ h = h0
set_option maxRecDepth 65536 in
set_option maxHeartbeats 40000000 in
theorem ct_msg_n {h0 : Heap} {a : Addr}  (hw : ∀ d ∈ tables_1, d.before a0 Z = true) (hEL : EW Z a0 EL) (hO : Old Z Z.heap.size h0) (F : Fld Z h0 a "java/lang/Throwable" "detailMessage" "Ljava/lang/String;" .null) :
    Ct true true Z EL l (⟨"java/lang/Throwable", "getMessage", "()Ljava/lang/String;"⟩ : MethodName) jdk_78_method_6_code 1 (some (.object "java/lang/String")) ({ frames := 0, cells := 0, slots := 0, locals := 0 } : Room) #[(.ref a)] h0 [] (QP h0 .null) := by
  refine ctOf pn_java_lang_Throwable hO hEL ?_
  intro p e s m below meth c s₁ S0 X0 hby hml hret hnm hsf
  refine Go.entry (ef_jdk_78_method_6_code m a) ?_
  show Go _ _ _ _ (s₁.setTop (mkF m 0 #[.val (.ref a)] []))
  refine blk X0 hby b38 (pc' := 1) (Ls' := #[.val (.ref a)]) (st' := [(.ref a)]) rfl ?_
  refine gGetF X0 hby (hw _ (List.mem_of_getElem? (i := 85) rfl)) Via.refl F d_jdk_78_method_6_code_1 (fun T1 X1 => ?_)
  show Go _ _ _ _ (T1.setTop (mkF m 4 #[.val (.ref a)] [.null]))
  exact retA' X1 hby hret d_jdk_78_method_6_code_4 rfl (fun S' hS' => ⟨rfl, rfl⟩)
theorem ef_jdk_78_method_2_code_r (m : MethodId) (x0 : Addr) (x1 : Addr) : entryFrame m #[(.ref x0), (.ref x1)] 2 = mkF m 0 #[.val (.ref x0), .val (.ref x1)] [] := by first | (simp [entryFrame, mkF, argsToLocals, Value.category]; done) | rfl
theorem b39 : decs jdk_78_method_2_code 0 [.aload_n 0] = true := by decide +kernel
theorem b40 : decs jdk_78_method_2_code 4 [.aload_n 0, .aload_n 0] = true := by decide +kernel
theorem b41 : decs jdk_78_method_2_code 9 [.aload_n 0] = true := by decide +kernel
theorem b42 : decs jdk_78_method_2_code 16 [.aload_n 0] = true := by decide +kernel
theorem b43 : decs jdk_78_method_2_code 23 [.aload_n 0] = true := by decide +kernel
theorem b44 : decs jdk_78_method_2_code 27 [.pop, .aload_n 0, .aload_n 1] = true := by decide +kernel
set_option maxRecDepth 65536 in
set_option maxHeartbeats 40000000 in
theorem ct_tinit_r {h0 : Heap} {a : Addr} {us ss : Addr} {y : Addr} (hw : ∀ d ∈ tables_1, d.before a0 Z = true) (hEL : EW Z a0 EL) (hO : Old Z Z.heap.size h0) (hst : l.stackTraces = true) (hU : Sta Z Z.heap "java/lang/Throwable" "UNASSIGNED_STACK" "[Ljava/lang/StackTraceElement;" (.ref us)) (hS : Sta Z Z.heap "java/lang/Throwable" "SUPPRESSED_SENTINEL" "Ljava/util/List;" (.ref ss)) (E : Exa Z h0 a "com/example/fragsel/fragsel/FragselException") (N : Unt h0 a) (B : Fld Z h0 a "java/lang/Throwable" "backtrace" "Ljava/lang/Object;" .null) (ga : Z.heap.size ≤ a) :
    Ct true true Z EL l (⟨"java/lang/Throwable", "<init>", "(Ljava/lang/String;)V"⟩ : MethodName) jdk_78_method_2_code 2 none ({ frames := 3, cells := 1, slots := 2752, locals := 42 } : Room) #[(.ref a), (.ref y)] h0 [a] (QT Z h0 a (.ref y)) := by
  refine ctOf pn_java_lang_Throwable hO hEL ?_
  intro p e s m below meth c s₁ S0 X0 hby hml hret hnm hsf
  refine Go.entry (ef_jdk_78_method_2_code_r m a y) ?_
  show Go _ _ _ _ (s₁.setTop (mkF m 0 #[.val (.ref a), .val (.ref y)] []))
  refine blk X0 hby b39 (pc' := 1) (Ls' := #[.val (.ref a), .val (.ref y)]) (st' := [(.ref a)]) rfl ?_
  refine gInitO X0 hby (hw _ (List.mem_of_getElem? (i := 49) rfl)) (hw _ (List.mem_of_getElem? (i := 16) rfl)) (hw _ (List.mem_of_getElem? (i := 17) rfl)) (by rw [hml]; rfl) d_jdk_78_method_2_code_1 (by decide) (Nat.le_of_ble_eq_true rfl) (fun T1 X1 => ?_)
  show Go _ _ _ _ (T1.setTop (mkF m 4 #[.val (.ref a), .val (.ref y)] []))
  refine blk X1 hby b40 (pc' := 6) (Ls' := #[.val (.ref a), .val (.ref y)]) (st' := [(.ref a), (.ref a)]) rfl ?_
  obtain ⟨_, F_cause⟩ := fld_laid E (N).known (hw _ (List.mem_of_getElem? (i := 31) rfl)) (O := "java/lang/Throwable") (n := "cause") (d := "Ljava/lang/Throwable;") (Or.inl (hw _ (List.mem_of_getElem? (i := 51) rfl)))
  refine gPutF X1 hby (hw _ (List.mem_of_getElem? (i := 50) rfl)) Via.refl F_cause E (Or.inl (hw _ (List.mem_of_getElem? (i := 51) rfl))) (hw _ (List.mem_of_getElem? (i := 31) rfl)) (ty := (.object "java/lang/Throwable")) (by decide) rfl rfl ga (hsf a (by simp)) d_jdk_78_method_2_code_6 (fun T2 h2 S2 X2 W2 sS2 => ?_)
  show Go _ _ _ _ (T2.setTop (mkF m 9 #[.val (.ref a), .val (.ref y)] []))
  have E1 := E.wr W2; have N1 := N.wr W2; have B1 := B.other W2 (Or.inr (slot_ne (t := (.object "java/lang/Object")) (t' := (.object "java/lang/Throwable")) (Or.inl (hw _ (List.mem_of_getElem? (i := 82) rfl))) (Or.inl (hw _ (List.mem_of_getElem? (i := 51) rfl))) (by decide) (by decide) (by decide))); have s1 := sS2 a (hsf a (by simp)); have K1 := (Keep.refl h0 [a]).wr W2 (Or.inl (by simp))
  refine blk X2 hby b41 (pc' := 10) (Ls' := #[.val (.ref a), .val (.ref y)]) (st' := [(.ref a)]) rfl ?_
  refine gGetS X2 hby (hw _ (List.mem_of_getElem? (i := 52) rfl)) Via.refl hU d_jdk_78_method_2_code_10 (fun T3 X3 => ?_)
  show Go _ _ _ _ (T3.setTop (mkF m 13 #[.val (.ref a), .val (.ref y)] [(.ref us), (.ref a)]))
  obtain ⟨_, F_stackTrace⟩ := fld_laid E1 (N1).known (hw _ (List.mem_of_getElem? (i := 31) rfl)) (O := "java/lang/Throwable") (n := "stackTrace") (d := "[Ljava/lang/StackTraceElement;") (Or.inl (hw _ (List.mem_of_getElem? (i := 54) rfl)))
  refine gPutF X3 hby (hw _ (List.mem_of_getElem? (i := 53) rfl)) Via.refl F_stackTrace E1 (Or.inl (hw _ (List.mem_of_getElem? (i := 54) rfl))) (hw _ (List.mem_of_getElem? (i := 31) rfl)) (ty := (.array (.object "java/lang/StackTraceElement"))) (by decide) rfl rfl ga s1 d_jdk_78_method_2_code_13 (fun T4 h4 S4 X4 W4 sS4 => ?_)
  show Go _ _ _ _ (T4.setTop (mkF m 16 #[.val (.ref a), .val (.ref y)] []))
  have E2 := E1.wr W4; have N2 := N1.wr W4; have B2 := B1.other W4 (Or.inr (slot_ne (t := (.object "java/lang/Object")) (t' := (.array (.object "java/lang/StackTraceElement"))) (Or.inl (hw _ (List.mem_of_getElem? (i := 82) rfl))) (Or.inl (hw _ (List.mem_of_getElem? (i := 54) rfl))) (by decide) (by decide) (by decide))); have s2 := sS4 a s1; have K2 := K1.wr W4 (Or.inl (by simp)); have G2 := F_stackTrace.same W4
  refine blk X4 hby b42 (pc' := 17) (Ls' := #[.val (.ref a), .val (.ref y)]) (st' := [(.ref a)]) rfl ?_
  refine gGetS X4 hby (hw _ (List.mem_of_getElem? (i := 55) rfl)) Via.refl hS d_jdk_78_method_2_code_17 (fun T5 X5 => ?_)
  show Go _ _ _ _ (T5.setTop (mkF m 20 #[.val (.ref a), .val (.ref y)] [(.ref ss), (.ref a)]))
  obtain ⟨_, F_suppressedExceptions⟩ := fld_laid E2 (N2).known (hw _ (List.mem_of_getElem? (i := 31) rfl)) (O := "java/lang/Throwable") (n := "suppressedExceptions") (d := "Ljava/util/List;") (Or.inl (hw _ (List.mem_of_getElem? (i := 57) rfl)))
  refine gPutF X5 hby (hw _ (List.mem_of_getElem? (i := 56) rfl)) Via.refl F_suppressedExceptions E2 (Or.inl (hw _ (List.mem_of_getElem? (i := 57) rfl))) (hw _ (List.mem_of_getElem? (i := 31) rfl)) (ty := (.object "java/util/List")) (by decide) rfl rfl ga s2 d_jdk_78_method_2_code_20 (fun T6 h6 S6 X6 W6 sS6 => ?_)
  show Go _ _ _ _ (T6.setTop (mkF m 23 #[.val (.ref a), .val (.ref y)] []))
  have E3 := E2.wr W6; have N3 := N2.wr W6; have B3 := B2.other W6 (Or.inr (slot_ne (t := (.object "java/lang/Object")) (t' := (.object "java/util/List")) (Or.inl (hw _ (List.mem_of_getElem? (i := 82) rfl))) (Or.inl (hw _ (List.mem_of_getElem? (i := 57) rfl))) (by decide) (by decide) (by decide))); have s3 := sS6 a s2; have K3 := K2.wr W6 (Or.inl (by simp)); have G3 := G2.other W6 (Or.inr (slot_ne (t := (.array (.object "java/lang/StackTraceElement"))) (t' := (.object "java/util/List")) (Or.inl (hw _ (List.mem_of_getElem? (i := 54) rfl))) (Or.inl (hw _ (List.mem_of_getElem? (i := 57) rfl))) (by decide) (by decide) (by decide)))
  refine blk X6 hby b43 (pc' := 24) (Ls' := #[.val (.ref a), .val (.ref y)]) (st' := [(.ref a)]) rfl ?_
  refine gFill X6 hby hst (rc := FEn) (fun d hd => hw d (exW_in d hd)) (hw _ (List.mem_of_getElem? (i := 31) rfl)) E3 N3 B3 G3 hU ga s3 d_jdk_78_method_2_code_24 (by rw [hml]; rfl) (by decide) (by decide) (by decide) (by decide) (fun T7 h7 S7 X7 KF NF sF => ?_)
  show Go _ _ _ _ (T7.setTop (mkF m 27 #[.val (.ref a), .val (.ref y)] [(.ref a)]))
  have E4 := E3.keep KF; have s4 := sF a s3; have K4 := K3.trans KF (fun x hx => Or.inl hx)
  obtain ⟨_, F_detailMessage⟩ := fld_laid E4 (NF).known (hw _ (List.mem_of_getElem? (i := 31) rfl)) (O := "java/lang/Throwable") (n := "detailMessage") (d := "Ljava/lang/String;") (Or.inl (hw _ (List.mem_of_getElem? (i := 81) rfl)))
  refine blk X7 hby b44 (pc' := 30) (Ls' := #[.val (.ref a), .val (.ref y)]) (st' := [(.ref y), (.ref a)]) rfl ?_
  refine gPutF X7 hby (hw _ (List.mem_of_getElem? (i := 85) rfl)) Via.refl F_detailMessage E4 (Or.inl (hw _ (List.mem_of_getElem? (i := 81) rfl))) (hw _ (List.mem_of_getElem? (i := 31) rfl)) (ty := (.object "java/lang/String")) (by decide) rfl rfl ga s4 d_jdk_78_method_2_code_30 (fun T8 h8 S8 X8 W8 sS8 => ?_)
  show Go _ _ _ _ (T8.setTop (mkF m 33 #[.val (.ref a), .val (.ref y)] []))
  exact retV' X8 hby hret d_jdk_78_method_2_code_33 (fun S' hS' => ⟨rfl, K4.wr W8 (Or.inl (by simp)), E4.wr W8, NF.wr W8, F_detailMessage.same W8⟩)
theorem ef_jdk_59_method_2_code_r (m : MethodId) (x0 : Addr) (x1 : Addr) : entryFrame m #[(.ref x0), (.ref x1)] 2 = mkF m 0 #[.val (.ref x0), .val (.ref x1)] [] := by first | (simp [entryFrame, mkF, argsToLocals, Value.category]; done) | rfl
theorem b45 : decs jdk_59_method_2_code 0 [.aload_n 0, .aload_n 1] = true := by decide +kernel
set_option maxRecDepth 65536 in
set_option maxHeartbeats 40000000 in
theorem ct_einit_r {h0 : Heap} {a : Addr} {us ss : Addr} {y : Addr} (hw : ∀ d ∈ tables_1, d.before a0 Z = true) (hEL : EW Z a0 EL) (hO : Old Z Z.heap.size h0) (hst : l.stackTraces = true) (hU : Sta Z Z.heap "java/lang/Throwable" "UNASSIGNED_STACK" "[Ljava/lang/StackTraceElement;" (.ref us)) (hS : Sta Z Z.heap "java/lang/Throwable" "SUPPRESSED_SENTINEL" "Ljava/util/List;" (.ref ss)) (E : Exa Z h0 a "com/example/fragsel/fragsel/FragselException") (N : Unt h0 a) (B : Fld Z h0 a "java/lang/Throwable" "backtrace" "Ljava/lang/Object;" .null) (ga : Z.heap.size ≤ a) :
    Ct true true Z EL l (⟨"java/lang/Exception", "<init>", "(Ljava/lang/String;)V"⟩ : MethodName) jdk_59_method_2_code 2 none ({ frames := 4, cells := 1, slots := 2752, locals := 55 } : Room) #[(.ref a), (.ref y)] h0 [a] (QT Z h0 a (.ref y)) := by
  refine ctOf pn_java_lang_Exception hO hEL ?_
  intro p e s m below meth c s₁ S0 X0 hby hml hret hnm hsf
  refine Go.entry (ef_jdk_59_method_2_code_r m a y) ?_
  show Go _ _ _ _ (s₁.setTop (mkF m 0 #[.val (.ref a), .val (.ref y)] []))
  refine blk X0 hby b45 (pc' := 2) (Ls' := #[.val (.ref a), .val (.ref y)]) (st' := [(.ref y), (.ref a)]) rfl ?_
  refine gInit X0 hby (argsL := [(.ref y)]) (st := []) (ct_tinit_r hw hEL X0.old hst hU hS E N B ga) rfl (hw _ (List.mem_of_getElem? (i := 43) rfl)) (hw _ (List.mem_of_getElem? (i := 44) rfl)) (hw _ (List.mem_of_getElem? (i := 47) rfl)) (hw _ (List.mem_of_getElem? (i := 48) rfl)) pd__Ljava_lang_String__V rfl d_jdk_59_method_2_code_2 rfl (by rw [hml]; rfl) hsf (by decide) (Nat.le_of_ble_eq_true rfl) (by decide) (by decide) (fun v1 T1 h1 S1 X1 q1 sS1 sz1 => ?_)
  obtain ⟨rfl, q⟩ := q1
  show Go _ _ _ _ (T1.setTop (mkF m 5 #[.val (.ref a), .val (.ref y)] []))
  exact retV' X1 hby hret d_jdk_59_method_2_code_5 (fun S' hS' => ⟨rfl, q⟩)
theorem ef_prog_5_method_1_code_r (m : MethodId) (x0 : Addr) (x1 : Addr) (x2 : Addr) : entryFrame m #[(.ref x0), (.ref x1), (.ref x2)] 3 = mkF m 0 #[.val (.ref x0), .val (.ref x1), .val (.ref x2)] [] := by first | (simp [entryFrame, mkF, argsToLocals, Value.category]; done) | rfl
theorem b46 : decs prog_5_method_1_code 0 [.aload_n 0, .aload_n 2] = true := by decide +kernel
theorem b47 : decs prog_5_method_1_code 5 [.aload_n 0, .aload_n 1] = true := by decide +kernel
set_option maxRecDepth 65536 in
set_option maxHeartbeats 40000000 in
theorem ct_finit_r {h0 : Heap} {a kd : Addr} {us ss : Addr} {y : Addr} (hw : ∀ d ∈ tables_1, d.before a0 Z = true) (hEL : EW Z a0 EL) (hO : Old Z Z.heap.size h0) (hst : l.stackTraces = true) (hU : Sta Z Z.heap "java/lang/Throwable" "UNASSIGNED_STACK" "[Ljava/lang/StackTraceElement;" (.ref us)) (hS : Sta Z Z.heap "java/lang/Throwable" "SUPPRESSED_SENTINEL" "Ljava/util/List;" (.ref ss)) (E : Exa Z h0 a "com/example/fragsel/fragsel/FragselException") (N : Unt h0 a) (B : Fld Z h0 a "java/lang/Throwable" "backtrace" "Ljava/lang/Object;" .null) (ga : Z.heap.size ≤ a) :
    Ct true true Z EL l (⟨"com/example/fragsel/fragsel/FragselException", "<init>", "(Lcom/example/fragsel/fragsel/FragselException$Kind;Ljava/lang/String;)V"⟩ : MethodName) prog_5_method_1_code 3 none ({ frames := 5, cells := 1, slots := 2752, locals := 70 } : Room) #[(.ref a), (.ref kd), (.ref y)] h0 [a] (QF Z h0 a kd (.ref y)) := by
  refine ctOf pn_com_example_fragsel_fragsel_FragselException hO hEL ?_
  intro p e s m below meth c s₁ S0 X0 hby hml hret hnm hsf
  refine Go.entry (ef_prog_5_method_1_code_r m a kd y) ?_
  show Go _ _ _ _ (s₁.setTop (mkF m 0 #[.val (.ref a), .val (.ref kd), .val (.ref y)] []))
  refine blk X0 hby b46 (pc' := 2) (Ls' := #[.val (.ref a), .val (.ref kd), .val (.ref y)]) (st' := [(.ref y), (.ref a)]) rfl ?_
  refine gInit X0 hby (argsL := [(.ref y)]) (st := []) (ct_einit_r hw hEL X0.old hst hU hS E N B ga) rfl (hw _ (List.mem_of_getElem? (i := 38) rfl)) (hw _ (List.mem_of_getElem? (i := 39) rfl)) (hw _ (List.mem_of_getElem? (i := 41) rfl)) (hw _ (List.mem_of_getElem? (i := 42) rfl)) pd__Ljava_lang_String__V rfl d_prog_5_method_1_code_2 rfl (by rw [hml]; rfl) hsf (by decide) (Nat.le_of_ble_eq_true rfl) (by decide) (by decide) (fun v1 T1 h1 S1 X1 q1 sS1 sz1 => ?_)
  obtain ⟨rfl, K1, E1, N1, F1⟩ := q1
  show Go _ _ _ _ (T1.setTop (mkF m 5 #[.val (.ref a), .val (.ref kd), .val (.ref y)] []))
  obtain ⟨_, FK⟩ := fld_laid E1 N1.known (hw _ (List.mem_of_getElem? (i := 31) rfl)) (O := "com/example/fragsel/fragsel/FragselException") (n := "kind") (d := "Lcom/example/fragsel/fragsel/FragselException$Kind;") (Or.inr (hw _ (List.mem_of_getElem? (i := 87) rfl)))
  refine blk X1 hby b47 (pc' := 7) (Ls' := #[.val (.ref a), .val (.ref kd), .val (.ref y)]) (st' := [(.ref kd), (.ref a)]) rfl ?_
  refine gPutF X1 hby (hw _ (List.mem_of_getElem? (i := 86) rfl)) Via.refl FK E1 (Or.inr ⟨(hw _ (List.mem_of_getElem? (i := 87) rfl)), rfl, hnm⟩) (hw _ (List.mem_of_getElem? (i := 31) rfl)) (ty := (.object "com/example/fragsel/fragsel/FragselException$Kind")) (by decide) rfl rfl ga (sS1 a E.lt (hsf a (by simp))) d_prog_5_method_1_code_7 (fun T2 h2 S2 X2 W2 sS2 => ?_)
  show Go _ _ _ _ (T2.setTop (mkF m 10 #[.val (.ref a), .val (.ref kd), .val (.ref y)] []))
  exact retV' X2 hby hret d_prog_5_method_1_code_10 (fun S' hS' => ⟨rfl, K1.wr W2 (Or.inl (by simp)), E1.wr W2, F1.other W2 (Or.inr (slot_ne (t := (.object "java/lang/String")) (t' := (.object "com/example/fragsel/fragsel/FragselException$Kind")) (Or.inl (hw _ (List.mem_of_getElem? (i := 81) rfl))) (Or.inr (hw _ (List.mem_of_getElem? (i := 87) rfl))) (by decide) (by decide) (by decide))), FK.same W2⟩)
theorem ef_prog_5_method_5_code_r (m : MethodId) (x0 : Addr) : entryFrame m #[(.ref x0)] 1 = mkF m 0 #[.val (.ref x0)] [] := by first | (simp [entryFrame, mkF, argsToLocals, Value.category]; done) | rfl
theorem b48 : decs prog_5_method_5_code 3 [.dup] = true := by decide +kernel
theorem b49 : decs prog_5_method_5_code 7 [.aload_n 0] = true := by decide +kernel
set_option maxRecDepth 65536 in
set_option maxHeartbeats 40000000 in
theorem ct_make_r {h0 : Heap} {kd : Addr} {us ss : Addr} {y : Addr} (hw : ∀ d ∈ tables_1, d.before a0 Z = true) (hEL : EW Z a0 EL) (hO : Old Z Z.heap.size h0) (hst : l.stackTraces = true) (hU : Sta Z Z.heap "java/lang/Throwable" "UNASSIGNED_STACK" "[Ljava/lang/StackTraceElement;" (.ref us)) (hS : Sta Z Z.heap "java/lang/Throwable" "SUPPRESSED_SENTINEL" "Ljava/util/List;" (.ref ss)) (hK : Sta Z Z.heap "com/example/fragsel/fragsel/FragselException$Kind" "ENDPOINT" "Lcom/example/fragsel/fragsel/FragselException$Kind;" (.ref kd)) :
    Ct true true Z EL l (⟨"com/example/fragsel/fragsel/FragselException", "endpoint", "(Ljava/lang/String;)Lcom/example/fragsel/fragsel/FragselException;"⟩ : MethodName) prog_5_method_5_code 1 (some (.object "com/example/fragsel/fragsel/FragselException")) ({ frames := 6, cells := 2, slots := 2759, locals := 85 } : Room) #[(.ref y)] h0 [] (QM Z h0 kd (.ref y)) := by
  refine ctOf pn_com_example_fragsel_fragsel_FragselException hO hEL ?_
  intro p e s m below meth c s₁ S0 X0 hby hml hret hnm hsf
  refine Go.entry (ef_prog_5_method_5_code_r m y) ?_
  show Go _ _ _ _ (s₁.setTop (mkF m 0 #[.val (.ref y)] []))
  refine gNew X0 hby (hw _ (List.mem_of_getElem? (i := 30) rfl)) (hw _ (List.mem_of_getElem? (i := 31) rfl)) (hw _ (List.mem_of_getElem? (i := 28) rfl)) d_prog_5_method_5_code_0 (by decide) (by decide) (fun T1 h1 S1 X1 E1 A1 D1 M1 sS1 sn1 => ?_)
  show Go _ _ _ _ (T1.setTop (mkF m 3 #[.val (.ref y)] [(.ref h0.size)]))
  refine blk X1 hby b48 (pc' := 4) (Ls' := #[.val (.ref y)]) (st' := [(.ref h0.size), (.ref h0.size)]) rfl ?_
  refine gGetS X1 hby (hw _ (List.mem_of_getElem? (i := 32) rfl)) Via.refl hK d_prog_5_method_5_code_4 (fun T2 X2 => ?_)
  show Go _ _ _ _ (T2.setTop (mkF m 7 #[.val (.ref y)] [(.ref kd), (.ref h0.size), (.ref h0.size)]))
  refine blk X2 hby b49 (pc' := 8) (Ls' := #[.val (.ref y)]) (st' := [(.ref y), (.ref kd), (.ref h0.size), (.ref h0.size)]) rfl ?_
  refine gInit X2 hby (argsL := [(.ref kd), (.ref y)]) (st := [(.ref h0.size)]) (ct_finit_r hw hEL X2.old hst hU hS A1 M1 (D1 (O := "java/lang/Throwable") (nm := "backtrace") (d := "Ljava/lang/Object;") (Or.inl (hw _ (List.mem_of_getElem? (i := 82) rfl))) (ty := (.object "java/lang/Object")) (by decide)) hO.2.1) rfl (hw _ (List.mem_of_getElem? (i := 35) rfl)) (hw _ (List.mem_of_getElem? (i := 36) rfl)) (hw _ (List.mem_of_getElem? (i := 28) rfl)) (hw _ (List.mem_of_getElem? (i := 37) rfl)) pd__Lcom_example_fragsel_fragsel_FragselException_Kind_Ljava_lang_String__V rfl d_prog_5_method_5_code_8 rfl (by rw [hml]; rfl) (allS sn1 all0) (by decide) (Nat.le_of_ble_eq_true rfl) (by decide) (by decide) (fun v3 T3 h3 S3 X3 q3 sS3 sz3 => ?_)
  obtain ⟨rfl, q1, q2, q3, q4⟩ := q3
  show Go _ _ _ _ (T3.setTop (mkF m 11 #[.val (.ref y)] [(.ref h0.size)]))
  exact retA' X3 hby hret d_prog_5_method_5_code_11 rfl (fun S' hS' => ⟨rfl, ((Keep.refl h0 []).ext E1).trans q1 (fun x hx => Or.inr (by cases List.mem_singleton.mp hx; exact Nat.le_refl _)), q2, q3, q4⟩)
theorem b50 : decs jdk_78_method_6_code 0 [.aload_n 0] = true := by decide +kernel
set_option maxRecDepth 65536 in
set_option maxHeartbeats 40000000 in
theorem ct_msg_r {h0 : Heap} {a : Addr} {y : Addr} (hw : ∀ d ∈ tables_1, d.before a0 Z = true) (hEL : EW Z a0 EL) (hO : Old Z Z.heap.size h0) (F : Fld Z h0 a "java/lang/Throwable" "detailMessage" "Ljava/lang/String;" (.ref y)) :
    Ct true true Z EL l (⟨"java/lang/Throwable", "getMessage", "()Ljava/lang/String;"⟩ : MethodName) jdk_78_method_6_code 1 (some (.object "java/lang/String")) ({ frames := 0, cells := 0, slots := 0, locals := 0 } : Room) #[(.ref a)] h0 [] (QP h0 (.ref y)) := by
  refine ctOf pn_java_lang_Throwable hO hEL ?_
  intro p e s m below meth c s₁ S0 X0 hby hml hret hnm hsf
  refine Go.entry (ef_jdk_78_method_6_code m a) ?_
  show Go _ _ _ _ (s₁.setTop (mkF m 0 #[.val (.ref a)] []))
  refine blk X0 hby b50 (pc' := 1) (Ls' := #[.val (.ref a)]) (st' := [(.ref a)]) rfl ?_
  refine gGetF X0 hby (hw _ (List.mem_of_getElem? (i := 85) rfl)) Via.refl F d_jdk_78_method_6_code_1 (fun T1 X1 => ?_)
  show Go _ _ _ _ (T1.setTop (mkF m 4 #[.val (.ref a)] [(.ref y)]))
  exact retA' X1 hby hret d_jdk_78_method_6_code_4 rfl (fun S' hS' => ⟨rfl, rfl⟩)
theorem ef_prog_5_method_7_code (m : MethodId) (x0 : Addr) : entryFrame m #[(.ref x0)] 1 = mkF m 0 #[.val (.ref x0)] [] := by first | (simp [entryFrame, mkF, argsToLocals, Value.category]; done) | rfl
theorem b51 : decs prog_5_method_7_code 0 [.aload_n 0] = true := by decide +kernel
theorem d_prog_5_method_7_code_1 : decode prog_5_method_7_code 1 = .ok (.getfield 7, 3) := by decide +kernel
theorem d_prog_5_method_7_code_4 : decode prog_5_method_7_code 4 = .ok (.areturn, 1) := by decide +kernel
set_option maxRecDepth 65536 in
set_option maxHeartbeats 40000000 in
theorem ct_kind {h0 : Heap} {a kd : Addr} (hw : ∀ d ∈ tables_1, d.before a0 Z = true) (hEL : EW Z a0 EL) (hO : Old Z Z.heap.size h0) (F : Fld Z h0 a "com/example/fragsel/fragsel/FragselException" "kind" "Lcom/example/fragsel/fragsel/FragselException$Kind;" (.ref kd)) :
    Ct true true Z EL l (⟨"com/example/fragsel/fragsel/FragselException", "kind", "()Lcom/example/fragsel/fragsel/FragselException$Kind;"⟩ : MethodName) prog_5_method_7_code 1 (some (.object "com/example/fragsel/fragsel/FragselException$Kind")) ({ frames := 0, cells := 0, slots := 0, locals := 0 } : Room) #[(.ref a)] h0 [] (QP h0 (.ref kd)) := by
  refine ctOf pn_com_example_fragsel_fragsel_FragselException hO hEL ?_
  intro p e s m below meth c s₁ S0 X0 hby hml hret hnm hsf
  refine Go.entry (ef_prog_5_method_7_code m a) ?_
  show Go _ _ _ _ (s₁.setTop (mkF m 0 #[.val (.ref a)] []))
  refine blk X0 hby b51 (pc' := 1) (Ls' := #[.val (.ref a)]) (st' := [(.ref a)]) rfl ?_
  refine gGetF X0 hby (hw _ (List.mem_of_getElem? (i := 86) rfl)) Via.refl F d_prog_5_method_7_code_1 (fun T1 X1 => ?_)
  show Go _ _ _ _ (T1.setTop (mkF m 4 #[.val (.ref a)] [(.ref kd)]))
  exact retA' X1 hby hret d_prog_5_method_7_code_4 rfl (fun S' hS' => ⟨rfl, rfl⟩)
theorem pn_com_example_fragsel_fragsel_FragselExceptionEndpointPinLaw : plainName "com/example/fragsel/fragsel/FragselExceptionEndpointPinLaw" = true := by first | (simp [plainName, overriddenIn]; done) | decide +kernel
theorem ef_method_2_code (m : MethodId) (x0 : Int32) (x1 : Int32) (x2 : Int32) (x3 : Int32) : entryFrame m #[(.int x0), (.int x1), (.int x2), (.int x3)] 7 = mkF m 0 #[.val (.int x0), .val (.int x1), .val (.int x2), .val (.int x3), .unset, .unset, .unset] [] := by first | (simp [entryFrame, mkF, argsToLocals, Value.category]; done) | rfl
theorem b52 : decs method_2_code 0 [.iload_n 0, .sipush 255, .iand, .i2c, .istore 4, .iload_n 1, .sipush 255, .iand, .i2c, .istore 5, .iload_n 2, .sipush 255, .iand, .i2c, .istore 6, .iload_n 3] = true := by decide +kernel
theorem d_method_2_code_25 : decode method_2_code 25 = .ok (.ifCond .ne 14, 3) := by decide +kernel
theorem b53 : decs method_2_code 39 [.iload_n 3, .iconst 1] = true := by decide +kernel
theorem d_method_2_code_41 : decode method_2_code 41 = .ok (.if_icmp .ne 19, 3) := by decide +kernel
theorem b54 : decs method_2_code 60 [.iload_n 3, .iconst 2] = true := by decide +kernel
theorem d_method_2_code_62 : decode method_2_code 62 = .ok (.if_icmp .ne 24, 3) := by decide +kernel
theorem d_method_2_code_86 : decode method_2_code 86 = .ok (.new 7, 3) := by decide +kernel
theorem b55 : decs method_2_code 89 [.dup, .iconst 3] = true := by decide +kernel
theorem d_method_2_code_91 : decode method_2_code 91 = .ok (.newarray .char, 2) := by decide +kernel
theorem b56 : decs method_2_code 93 [.dup, .iconst 0, .iload 4] = true := by decide +kernel
theorem d_method_2_code_97 : decode method_2_code 97 = .ok (.castore, 1) := by decide +kernel
theorem b57 : decs method_2_code 98 [.dup, .iconst 1, .iload 5] = true := by decide +kernel
theorem d_method_2_code_102 : decode method_2_code 102 = .ok (.castore, 1) := by decide +kernel
theorem b58 : decs method_2_code 103 [.dup, .iconst 2, .iload 6] = true := by decide +kernel
theorem d_method_2_code_107 : decode method_2_code 107 = .ok (.castore, 1) := by decide +kernel
theorem d_method_2_code_108 : decode method_2_code 108 = .ok (.invokespecial 9, 3) := by decide +kernel
theorem pd___C_V : parseMethodDescriptor "([C)V" = some ⟨[(.array .char)], none⟩ := by decide +kernel
theorem d_method_2_code_111 : decode method_2_code 111 = .ok (.areturn, 1) := by decide +kernel
theorem d_method_2_code_65 : decode method_2_code 65 = .ok (.new 7, 3) := by decide +kernel
theorem b59 : decs method_2_code 68 [.dup, .iconst 2] = true := by decide +kernel
theorem d_method_2_code_70 : decode method_2_code 70 = .ok (.newarray .char, 2) := by decide +kernel
theorem b60 : decs method_2_code 72 [.dup, .iconst 0, .iload 4] = true := by decide +kernel
theorem d_method_2_code_76 : decode method_2_code 76 = .ok (.castore, 1) := by decide +kernel
theorem b61 : decs method_2_code 77 [.dup, .iconst 1, .iload 5] = true := by decide +kernel
theorem d_method_2_code_81 : decode method_2_code 81 = .ok (.castore, 1) := by decide +kernel
theorem d_method_2_code_82 : decode method_2_code 82 = .ok (.invokespecial 9, 3) := by decide +kernel
theorem d_method_2_code_85 : decode method_2_code 85 = .ok (.areturn, 1) := by decide +kernel
theorem d_method_2_code_44 : decode method_2_code 44 = .ok (.new 7, 3) := by decide +kernel
theorem b62 : decs method_2_code 47 [.dup, .iconst 1] = true := by decide +kernel
theorem d_method_2_code_49 : decode method_2_code 49 = .ok (.newarray .char, 2) := by decide +kernel
theorem b63 : decs method_2_code 51 [.dup, .iconst 0, .iload 4] = true := by decide +kernel
theorem d_method_2_code_55 : decode method_2_code 55 = .ok (.castore, 1) := by decide +kernel
theorem d_method_2_code_56 : decode method_2_code 56 = .ok (.invokespecial 9, 3) := by decide +kernel
theorem d_method_2_code_59 : decode method_2_code 59 = .ok (.areturn, 1) := by decide +kernel
theorem d_method_2_code_28 : decode method_2_code 28 = .ok (.new 7, 3) := by decide +kernel
theorem b64 : decs method_2_code 31 [.dup, .iconst 0] = true := by decide +kernel
theorem d_method_2_code_33 : decode method_2_code 33 = .ok (.newarray .char, 2) := by decide +kernel
theorem d_method_2_code_35 : decode method_2_code 35 = .ok (.invokespecial 9, 3) := by decide +kernel
theorem d_method_2_code_38 : decode method_2_code 38 = .ok (.areturn, 1) := by decide +kernel
def QD (Z : State) (h0 : Heap) (v : Option Value) (h : Heap) (S : Addr → Prop) : Prop := ∃ x, v = some (.ref x) ∧ Keep h0 h [] ∧ Exa Z h x "java/lang/String"
set_option maxRecDepth 65536 in
set_option maxHeartbeats 40000000 in
theorem ct_draw {h0 : Heap} {p1 p2 p3 p4 zc : Int32} (hw : ∀ d ∈ tables_1, d.before a0 Z = true) (hEL : EW Z a0 EL) (hO : Old Z Z.heap.size h0) (hCS : Sta Z Z.heap "java/lang/String" "COMPACT_STRINGS" "Z" (.int zc)) (hzc : ¬ zc = 0) :
    Ct true true Z EL l (⟨"com/example/fragsel/fragsel/FragselExceptionEndpointPinLaw", "draw", "(IIII)Ljava/lang/String;"⟩ : MethodName) method_2_code 7 (some (.object "java/lang/String")) ({ frames := 4, cells := 6, slots := 15, locals := 66 } : Room) #[(.int p1), (.int p2), (.int p3), (.int p4)] h0 [] (QD Z h0) := by
  refine ctOf pn_com_example_fragsel_fragsel_FragselExceptionEndpointPinLaw hO hEL ?_
  intro p e s m below meth c s₁ S0 X0 hby hml hret hnm hsf
  refine Go.entry (ef_method_2_code m p1 p2 p3 p4) ?_
  show Go _ _ _ _ (s₁.setTop (mkF m 0 #[.val (.int p1), .val (.int p2), .val (.int p3), .val (.int p4), .unset, .unset, .unset] []))
  refine blk X0 hby b52 (pc' := 25) (Ls' := #[.val (.int p1), .val (.int p2), .val (.int p3), .val (.int p4), .val (.int (chr16 (p1 &&& (255 : Int32)))), .val (.int (chr16 (p2 &&& (255 : Int32)))), .val (.int (chr16 (p3 &&& (255 : Int32))))]) (st' := [(.int p4)]) rfl ?_
  refine br0 X0 hby d_method_2_code_25 (pc1 := 39) (by decide) (fun hc => ?_) (fun hc => ?_)
  · replace hc := neT hc
    show Go _ _ _ _ (s₁.setTop (mkF m 39 #[.val (.int p1), .val (.int p2), .val (.int p3), .val (.int p4), .val (.int (chr16 (p1 &&& (255 : Int32)))), .val (.int (chr16 (p2 &&& (255 : Int32)))), .val (.int (chr16 (p3 &&& (255 : Int32))))] []))
    refine blk X0 hby b53 (pc' := 41) (Ls' := #[.val (.int p1), .val (.int p2), .val (.int p3), .val (.int p4), .val (.int (chr16 (p1 &&& (255 : Int32)))), .val (.int (chr16 (p2 &&& (255 : Int32)))), .val (.int (chr16 (p3 &&& (255 : Int32))))]) (st' := [(.int (1 : Int32)), (.int p4)]) rfl ?_
    refine brI X0 hby d_method_2_code_41 (pc1 := 60) (by decide) (fun hc1 => ?_) (fun hc1 => ?_)
    · replace hc1 := neT hc1
      show Go _ _ _ _ (s₁.setTop (mkF m 60 #[.val (.int p1), .val (.int p2), .val (.int p3), .val (.int p4), .val (.int (chr16 (p1 &&& (255 : Int32)))), .val (.int (chr16 (p2 &&& (255 : Int32)))), .val (.int (chr16 (p3 &&& (255 : Int32))))] []))
      refine blk X0 hby b54 (pc' := 62) (Ls' := #[.val (.int p1), .val (.int p2), .val (.int p3), .val (.int p4), .val (.int (chr16 (p1 &&& (255 : Int32)))), .val (.int (chr16 (p2 &&& (255 : Int32)))), .val (.int (chr16 (p3 &&& (255 : Int32))))]) (st' := [(.int (2 : Int32)), (.int p4)]) rfl ?_
      refine brI X0 hby d_method_2_code_62 (pc1 := 86) (by decide) (fun hc2 => ?_) (fun hc2 => ?_)
      · replace hc2 := neT hc2
        show Go _ _ _ _ (s₁.setTop (mkF m 86 #[.val (.int p1), .val (.int p2), .val (.int p3), .val (.int p4), .val (.int (chr16 (p1 &&& (255 : Int32)))), .val (.int (chr16 (p2 &&& (255 : Int32)))), .val (.int (chr16 (p3 &&& (255 : Int32))))] []))
        refine gNew X0 hby (hw _ (List.mem_of_getElem? (i := 4) rfl)) (hw _ (List.mem_of_getElem? (i := 5) rfl)) (hw _ (List.mem_of_getElem? (i := 6) rfl)) d_method_2_code_86 (by decide) (by decide) (fun T1 h1 S1 X1 E1 A1 D1 M1 sS1 sn1 => ?_)
        show Go _ _ _ _ (T1.setTop (mkF m 89 #[.val (.int p1), .val (.int p2), .val (.int p3), .val (.int p4), .val (.int (chr16 (p1 &&& (255 : Int32)))), .val (.int (chr16 (p2 &&& (255 : Int32)))), .val (.int (chr16 (p3 &&& (255 : Int32))))] [(.ref h0.size)]))
        refine blk X1 hby b55 (pc' := 91) (Ls' := #[.val (.int p1), .val (.int p2), .val (.int p3), .val (.int p4), .val (.int (chr16 (p1 &&& (255 : Int32)))), .val (.int (chr16 (p2 &&& (255 : Int32)))), .val (.int (chr16 (p3 &&& (255 : Int32))))]) (st' := [(.int (3 : Int32)), (.ref h0.size), (.ref h0.size)]) rfl ?_
        refine gNewA X1 hby (aty := .char) (hw _ (List.mem_of_getElem? (i := 7) rfl)) d_method_2_code_91 rfl (N := 3) (cap := 3) rfl (by decide) (by decide) (by decide) (by decide) (fun T2 h2 S2 X2 E2 V2 sS2 sn2 => ?_)
        show Go _ _ _ _ (T2.setTop (mkF m 93 #[.val (.int p1), .val (.int p2), .val (.int p3), .val (.int p4), .val (.int (chr16 (p1 &&& (255 : Int32)))), .val (.int (chr16 (p2 &&& (255 : Int32)))), .val (.int (chr16 (p3 &&& (255 : Int32))))] [(.ref h1.size), (.ref h0.size), (.ref h0.size)]))
        have hA : Exa Z h2 h0.size "java/lang/String" := A1.ext E2
        have hF : Fld Z h2 h0.size "java/lang/String" "value" "[B" .null := (D1 (O := "java/lang/String") (nm := "value") (d := "[B") (Or.inr (hw _ (List.mem_of_getElem? (i := 20) rfl))) (ty := .array .byte) (by decide)).ext E2
        have hG : Fld Z h2 h0.size "java/lang/String" "coder" "B" (.int 0) := (D1 (O := "java/lang/String") (nm := "coder") (d := "B") (Or.inr (hw _ (List.mem_of_getElem? (i := 21) rfl))) (ty := .byte) (by decide)).ext E2
        have hK : Keep h0 h2 [] := ((Keep.refl h0 []).ext E1).ext E2
        have hs : S2 h0.size := sS2 _ sn1
        have ga : Z.heap.size ≤ h1.size := Nat.le_trans hO.2.1 E1.1
        have na : h0.size ≠ h1.size := Nat.ne_of_lt A1.lt
        have hV : Ari Z h2 h1.size .char (List.replicate 3 0) := V2
        have hsa : S2 h1.size := sn2
        refine blk X2 hby b56 (pc' := 97) (Ls' := #[.val (.int p1), .val (.int p2), .val (.int p3), .val (.int p4), .val (.int (chr16 (p1 &&& (255 : Int32)))), .val (.int (chr16 (p2 &&& (255 : Int32)))), .val (.int (chr16 (p3 &&& (255 : Int32))))]) (st' := [(.int (chr16 (p1 &&& (255 : Int32)))), (.int (0 : Int32)), (.ref h1.size), (.ref h1.size), (.ref h0.size), (.ref h0.size)]) rfl ?_
        refine gSt X2 hby hV (Or.inr (Or.inl ⟨rfl, rfl⟩)) d_method_2_code_97 (i := 0) rfl (Nat.le_of_ble_eq_true rfl) (fits_nar_char _) ga hsa (fun T3 h3 S3 X3 W3 V3 sS3 => ?_)
        show Go _ _ _ _ (T3.setTop (mkF m 98 #[.val (.int p1), .val (.int p2), .val (.int p3), .val (.int p4), .val (.int (chr16 (p1 &&& (255 : Int32)))), .val (.int (chr16 (p2 &&& (255 : Int32)))), .val (.int (chr16 (p3 &&& (255 : Int32))))] [(.ref h1.size), (.ref h0.size), (.ref h0.size)]))
        rw [nar_chr] at V3
        replace hV := V3; replace hA := hA.wr W3; replace hF := hF.other W3 (Or.inl na); replace hG := hG.other W3 (Or.inl na); replace hK := hK.wr W3 (Or.inr (Nat.le_of_lt A1.lt)); replace hs := sS3 _ hs; replace hsa := sS3 _ hsa
        refine blk X3 hby b57 (pc' := 102) (Ls' := #[.val (.int p1), .val (.int p2), .val (.int p3), .val (.int p4), .val (.int (chr16 (p1 &&& (255 : Int32)))), .val (.int (chr16 (p2 &&& (255 : Int32)))), .val (.int (chr16 (p3 &&& (255 : Int32))))]) (st' := [(.int (chr16 (p2 &&& (255 : Int32)))), (.int (1 : Int32)), (.ref h1.size), (.ref h1.size), (.ref h0.size), (.ref h0.size)]) rfl ?_
        refine gSt X3 hby hV (Or.inr (Or.inl ⟨rfl, rfl⟩)) d_method_2_code_102 (i := 1) rfl (Nat.le_of_ble_eq_true rfl) (fits_nar_char _) ga hsa (fun T4 h4 S4 X4 W4 V4 sS4 => ?_)
        show Go _ _ _ _ (T4.setTop (mkF m 103 #[.val (.int p1), .val (.int p2), .val (.int p3), .val (.int p4), .val (.int (chr16 (p1 &&& (255 : Int32)))), .val (.int (chr16 (p2 &&& (255 : Int32)))), .val (.int (chr16 (p3 &&& (255 : Int32))))] [(.ref h1.size), (.ref h0.size), (.ref h0.size)]))
        rw [nar_chr] at V4
        replace hV := V4; replace hA := hA.wr W4; replace hF := hF.other W4 (Or.inl na); replace hG := hG.other W4 (Or.inl na); replace hK := hK.wr W4 (Or.inr (Nat.le_of_lt A1.lt)); replace hs := sS4 _ hs; replace hsa := sS4 _ hsa
        refine blk X4 hby b58 (pc' := 107) (Ls' := #[.val (.int p1), .val (.int p2), .val (.int p3), .val (.int p4), .val (.int (chr16 (p1 &&& (255 : Int32)))), .val (.int (chr16 (p2 &&& (255 : Int32)))), .val (.int (chr16 (p3 &&& (255 : Int32))))]) (st' := [(.int (chr16 (p3 &&& (255 : Int32)))), (.int (2 : Int32)), (.ref h1.size), (.ref h1.size), (.ref h0.size), (.ref h0.size)]) rfl ?_
        refine gSt X4 hby hV (Or.inr (Or.inl ⟨rfl, rfl⟩)) d_method_2_code_107 (i := 2) rfl (Nat.le_of_ble_eq_true rfl) (fits_nar_char _) ga hsa (fun T5 h5 S5 X5 W5 V5 sS5 => ?_)
        show Go _ _ _ _ (T5.setTop (mkF m 108 #[.val (.int p1), .val (.int p2), .val (.int p3), .val (.int p4), .val (.int (chr16 (p1 &&& (255 : Int32)))), .val (.int (chr16 (p2 &&& (255 : Int32)))), .val (.int (chr16 (p3 &&& (255 : Int32))))] [(.ref h1.size), (.ref h0.size), (.ref h0.size)]))
        rw [nar_chr] at V5
        replace hV := V5; replace hA := hA.wr W5; replace hF := hF.other W5 (Or.inl na); replace hG := hG.other W5 (Or.inl na); replace hK := hK.wr W5 (Or.inr (Nat.le_of_lt A1.lt)); replace hs := sS5 _ hs; replace hsa := sS5 _ hsa
        replace hV : Ari Z h5 h1.size .char [chr16 (p1 &&& (255 : Int32)), chr16 (p2 &&& (255 : Int32)), chr16 (p3 &&& (255 : Int32))] := hV
        refine gInit X5 hby (argsL := [(.ref h1.size)]) (st := [(.ref h0.size)]) (ct_init1 hw hEL X5.old hA hF hG hV hO.2.1 (Nat.le_of_ble_eq_true rfl) hCS hzc (by intro c hc; simp only [List.mem_cons, List.not_mem_nil, or_false] at hc; rcases hc with rfl | rfl | rfl <;> exact lat_mask _)) rfl (hw _ (List.mem_of_getElem? (i := 8) rfl)) (hw _ (List.mem_of_getElem? (i := 9) rfl)) (hw _ (List.mem_of_getElem? (i := 6) rfl)) (hw _ (List.mem_of_getElem? (i := 10) rfl)) pd___C_V rfl d_method_2_code_108 rfl (by rw [hml]; rfl) (allS hs all0) (by decide) (Nat.le_of_ble_eq_true rfl) (by decide) (by decide) (fun v6 T6 h6 S6 X6 q6 sS6 sz6 => ?_)
        obtain ⟨rfl, q1, b, q2, -⟩ := q6
        show Go _ _ _ _ (T6.setTop (mkF m 111 #[.val (.int p1), .val (.int p2), .val (.int p3), .val (.int p4), .val (.int (chr16 (p1 &&& (255 : Int32)))), .val (.int (chr16 (p2 &&& (255 : Int32)))), .val (.int (chr16 (p3 &&& (255 : Int32))))] [(.ref h0.size)]))
        exact retA' X6 hby hret d_method_2_code_111 rfl (fun S' hS' => ⟨_, rfl, hK.trans q1 (fun x hx => Or.inr (by cases List.mem_singleton.mp hx; exact Nat.le_refl _)), q2.1⟩)
      · replace hc2 := neF hc2
        show Go _ _ _ _ (s₁.setTop (mkF m 65 #[.val (.int p1), .val (.int p2), .val (.int p3), .val (.int p4), .val (.int (chr16 (p1 &&& (255 : Int32)))), .val (.int (chr16 (p2 &&& (255 : Int32)))), .val (.int (chr16 (p3 &&& (255 : Int32))))] []))
        refine gNew X0 hby (hw _ (List.mem_of_getElem? (i := 4) rfl)) (hw _ (List.mem_of_getElem? (i := 5) rfl)) (hw _ (List.mem_of_getElem? (i := 6) rfl)) d_method_2_code_65 (by decide) (by decide) (fun T1 h1 S1 X1 E1 A1 D1 M1 sS1 sn1 => ?_)
        show Go _ _ _ _ (T1.setTop (mkF m 68 #[.val (.int p1), .val (.int p2), .val (.int p3), .val (.int p4), .val (.int (chr16 (p1 &&& (255 : Int32)))), .val (.int (chr16 (p2 &&& (255 : Int32)))), .val (.int (chr16 (p3 &&& (255 : Int32))))] [(.ref h0.size)]))
        refine blk X1 hby b59 (pc' := 70) (Ls' := #[.val (.int p1), .val (.int p2), .val (.int p3), .val (.int p4), .val (.int (chr16 (p1 &&& (255 : Int32)))), .val (.int (chr16 (p2 &&& (255 : Int32)))), .val (.int (chr16 (p3 &&& (255 : Int32))))]) (st' := [(.int (2 : Int32)), (.ref h0.size), (.ref h0.size)]) rfl ?_
        refine gNewA X1 hby (aty := .char) (hw _ (List.mem_of_getElem? (i := 7) rfl)) d_method_2_code_70 rfl (N := 2) (cap := 2) rfl (by decide) (by decide) (by decide) (by decide) (fun T2 h2 S2 X2 E2 V2 sS2 sn2 => ?_)
        show Go _ _ _ _ (T2.setTop (mkF m 72 #[.val (.int p1), .val (.int p2), .val (.int p3), .val (.int p4), .val (.int (chr16 (p1 &&& (255 : Int32)))), .val (.int (chr16 (p2 &&& (255 : Int32)))), .val (.int (chr16 (p3 &&& (255 : Int32))))] [(.ref h1.size), (.ref h0.size), (.ref h0.size)]))
        have hA : Exa Z h2 h0.size "java/lang/String" := A1.ext E2
        have hF : Fld Z h2 h0.size "java/lang/String" "value" "[B" .null := (D1 (O := "java/lang/String") (nm := "value") (d := "[B") (Or.inr (hw _ (List.mem_of_getElem? (i := 20) rfl))) (ty := .array .byte) (by decide)).ext E2
        have hG : Fld Z h2 h0.size "java/lang/String" "coder" "B" (.int 0) := (D1 (O := "java/lang/String") (nm := "coder") (d := "B") (Or.inr (hw _ (List.mem_of_getElem? (i := 21) rfl))) (ty := .byte) (by decide)).ext E2
        have hK : Keep h0 h2 [] := ((Keep.refl h0 []).ext E1).ext E2
        have hs : S2 h0.size := sS2 _ sn1
        have ga : Z.heap.size ≤ h1.size := Nat.le_trans hO.2.1 E1.1
        have na : h0.size ≠ h1.size := Nat.ne_of_lt A1.lt
        have hV : Ari Z h2 h1.size .char (List.replicate 2 0) := V2
        have hsa : S2 h1.size := sn2
        refine blk X2 hby b60 (pc' := 76) (Ls' := #[.val (.int p1), .val (.int p2), .val (.int p3), .val (.int p4), .val (.int (chr16 (p1 &&& (255 : Int32)))), .val (.int (chr16 (p2 &&& (255 : Int32)))), .val (.int (chr16 (p3 &&& (255 : Int32))))]) (st' := [(.int (chr16 (p1 &&& (255 : Int32)))), (.int (0 : Int32)), (.ref h1.size), (.ref h1.size), (.ref h0.size), (.ref h0.size)]) rfl ?_
        refine gSt X2 hby hV (Or.inr (Or.inl ⟨rfl, rfl⟩)) d_method_2_code_76 (i := 0) rfl (Nat.le_of_ble_eq_true rfl) (fits_nar_char _) ga hsa (fun T3 h3 S3 X3 W3 V3 sS3 => ?_)
        show Go _ _ _ _ (T3.setTop (mkF m 77 #[.val (.int p1), .val (.int p2), .val (.int p3), .val (.int p4), .val (.int (chr16 (p1 &&& (255 : Int32)))), .val (.int (chr16 (p2 &&& (255 : Int32)))), .val (.int (chr16 (p3 &&& (255 : Int32))))] [(.ref h1.size), (.ref h0.size), (.ref h0.size)]))
        rw [nar_chr] at V3
        replace hV := V3; replace hA := hA.wr W3; replace hF := hF.other W3 (Or.inl na); replace hG := hG.other W3 (Or.inl na); replace hK := hK.wr W3 (Or.inr (Nat.le_of_lt A1.lt)); replace hs := sS3 _ hs; replace hsa := sS3 _ hsa
        refine blk X3 hby b61 (pc' := 81) (Ls' := #[.val (.int p1), .val (.int p2), .val (.int p3), .val (.int p4), .val (.int (chr16 (p1 &&& (255 : Int32)))), .val (.int (chr16 (p2 &&& (255 : Int32)))), .val (.int (chr16 (p3 &&& (255 : Int32))))]) (st' := [(.int (chr16 (p2 &&& (255 : Int32)))), (.int (1 : Int32)), (.ref h1.size), (.ref h1.size), (.ref h0.size), (.ref h0.size)]) rfl ?_
        refine gSt X3 hby hV (Or.inr (Or.inl ⟨rfl, rfl⟩)) d_method_2_code_81 (i := 1) rfl (Nat.le_of_ble_eq_true rfl) (fits_nar_char _) ga hsa (fun T4 h4 S4 X4 W4 V4 sS4 => ?_)
        show Go _ _ _ _ (T4.setTop (mkF m 82 #[.val (.int p1), .val (.int p2), .val (.int p3), .val (.int p4), .val (.int (chr16 (p1 &&& (255 : Int32)))), .val (.int (chr16 (p2 &&& (255 : Int32)))), .val (.int (chr16 (p3 &&& (255 : Int32))))] [(.ref h1.size), (.ref h0.size), (.ref h0.size)]))
        rw [nar_chr] at V4
        replace hV := V4; replace hA := hA.wr W4; replace hF := hF.other W4 (Or.inl na); replace hG := hG.other W4 (Or.inl na); replace hK := hK.wr W4 (Or.inr (Nat.le_of_lt A1.lt)); replace hs := sS4 _ hs; replace hsa := sS4 _ hsa
        replace hV : Ari Z h4 h1.size .char [chr16 (p1 &&& (255 : Int32)), chr16 (p2 &&& (255 : Int32))] := hV
        refine gInit X4 hby (argsL := [(.ref h1.size)]) (st := [(.ref h0.size)]) (ct_init1 hw hEL X4.old hA hF hG hV hO.2.1 (Nat.le_of_ble_eq_true rfl) hCS hzc (by intro c hc; simp only [List.mem_cons, List.not_mem_nil, or_false] at hc; rcases hc with rfl | rfl <;> exact lat_mask _)) rfl (hw _ (List.mem_of_getElem? (i := 8) rfl)) (hw _ (List.mem_of_getElem? (i := 9) rfl)) (hw _ (List.mem_of_getElem? (i := 6) rfl)) (hw _ (List.mem_of_getElem? (i := 10) rfl)) pd___C_V rfl d_method_2_code_82 rfl (by rw [hml]; rfl) (allS hs all0) (by decide) (Nat.le_of_ble_eq_true rfl) (by decide) (by decide) (fun v5 T5 h5 S5 X5 q5 sS5 sz5 => ?_)
        obtain ⟨rfl, q1, b, q2, -⟩ := q5
        show Go _ _ _ _ (T5.setTop (mkF m 85 #[.val (.int p1), .val (.int p2), .val (.int p3), .val (.int p4), .val (.int (chr16 (p1 &&& (255 : Int32)))), .val (.int (chr16 (p2 &&& (255 : Int32)))), .val (.int (chr16 (p3 &&& (255 : Int32))))] [(.ref h0.size)]))
        exact retA' X5 hby hret d_method_2_code_85 rfl (fun S' hS' => ⟨_, rfl, hK.trans q1 (fun x hx => Or.inr (by cases List.mem_singleton.mp hx; exact Nat.le_refl _)), q2.1⟩)
    · replace hc1 := neF hc1
      show Go _ _ _ _ (s₁.setTop (mkF m 44 #[.val (.int p1), .val (.int p2), .val (.int p3), .val (.int p4), .val (.int (chr16 (p1 &&& (255 : Int32)))), .val (.int (chr16 (p2 &&& (255 : Int32)))), .val (.int (chr16 (p3 &&& (255 : Int32))))] []))
      refine gNew X0 hby (hw _ (List.mem_of_getElem? (i := 4) rfl)) (hw _ (List.mem_of_getElem? (i := 5) rfl)) (hw _ (List.mem_of_getElem? (i := 6) rfl)) d_method_2_code_44 (by decide) (by decide) (fun T1 h1 S1 X1 E1 A1 D1 M1 sS1 sn1 => ?_)
      show Go _ _ _ _ (T1.setTop (mkF m 47 #[.val (.int p1), .val (.int p2), .val (.int p3), .val (.int p4), .val (.int (chr16 (p1 &&& (255 : Int32)))), .val (.int (chr16 (p2 &&& (255 : Int32)))), .val (.int (chr16 (p3 &&& (255 : Int32))))] [(.ref h0.size)]))
      refine blk X1 hby b62 (pc' := 49) (Ls' := #[.val (.int p1), .val (.int p2), .val (.int p3), .val (.int p4), .val (.int (chr16 (p1 &&& (255 : Int32)))), .val (.int (chr16 (p2 &&& (255 : Int32)))), .val (.int (chr16 (p3 &&& (255 : Int32))))]) (st' := [(.int (1 : Int32)), (.ref h0.size), (.ref h0.size)]) rfl ?_
      refine gNewA X1 hby (aty := .char) (hw _ (List.mem_of_getElem? (i := 7) rfl)) d_method_2_code_49 rfl (N := 1) (cap := 1) rfl (by decide) (by decide) (by decide) (by decide) (fun T2 h2 S2 X2 E2 V2 sS2 sn2 => ?_)
      show Go _ _ _ _ (T2.setTop (mkF m 51 #[.val (.int p1), .val (.int p2), .val (.int p3), .val (.int p4), .val (.int (chr16 (p1 &&& (255 : Int32)))), .val (.int (chr16 (p2 &&& (255 : Int32)))), .val (.int (chr16 (p3 &&& (255 : Int32))))] [(.ref h1.size), (.ref h0.size), (.ref h0.size)]))
      have hA : Exa Z h2 h0.size "java/lang/String" := A1.ext E2
      have hF : Fld Z h2 h0.size "java/lang/String" "value" "[B" .null := (D1 (O := "java/lang/String") (nm := "value") (d := "[B") (Or.inr (hw _ (List.mem_of_getElem? (i := 20) rfl))) (ty := .array .byte) (by decide)).ext E2
      have hG : Fld Z h2 h0.size "java/lang/String" "coder" "B" (.int 0) := (D1 (O := "java/lang/String") (nm := "coder") (d := "B") (Or.inr (hw _ (List.mem_of_getElem? (i := 21) rfl))) (ty := .byte) (by decide)).ext E2
      have hK : Keep h0 h2 [] := ((Keep.refl h0 []).ext E1).ext E2
      have hs : S2 h0.size := sS2 _ sn1
      have ga : Z.heap.size ≤ h1.size := Nat.le_trans hO.2.1 E1.1
      have na : h0.size ≠ h1.size := Nat.ne_of_lt A1.lt
      have hV : Ari Z h2 h1.size .char (List.replicate 1 0) := V2
      have hsa : S2 h1.size := sn2
      refine blk X2 hby b63 (pc' := 55) (Ls' := #[.val (.int p1), .val (.int p2), .val (.int p3), .val (.int p4), .val (.int (chr16 (p1 &&& (255 : Int32)))), .val (.int (chr16 (p2 &&& (255 : Int32)))), .val (.int (chr16 (p3 &&& (255 : Int32))))]) (st' := [(.int (chr16 (p1 &&& (255 : Int32)))), (.int (0 : Int32)), (.ref h1.size), (.ref h1.size), (.ref h0.size), (.ref h0.size)]) rfl ?_
      refine gSt X2 hby hV (Or.inr (Or.inl ⟨rfl, rfl⟩)) d_method_2_code_55 (i := 0) rfl (Nat.le_of_ble_eq_true rfl) (fits_nar_char _) ga hsa (fun T3 h3 S3 X3 W3 V3 sS3 => ?_)
      show Go _ _ _ _ (T3.setTop (mkF m 56 #[.val (.int p1), .val (.int p2), .val (.int p3), .val (.int p4), .val (.int (chr16 (p1 &&& (255 : Int32)))), .val (.int (chr16 (p2 &&& (255 : Int32)))), .val (.int (chr16 (p3 &&& (255 : Int32))))] [(.ref h1.size), (.ref h0.size), (.ref h0.size)]))
      rw [nar_chr] at V3
      replace hV := V3; replace hA := hA.wr W3; replace hF := hF.other W3 (Or.inl na); replace hG := hG.other W3 (Or.inl na); replace hK := hK.wr W3 (Or.inr (Nat.le_of_lt A1.lt)); replace hs := sS3 _ hs; replace hsa := sS3 _ hsa
      replace hV : Ari Z h3 h1.size .char [chr16 (p1 &&& (255 : Int32))] := hV
      refine gInit X3 hby (argsL := [(.ref h1.size)]) (st := [(.ref h0.size)]) (ct_init1 hw hEL X3.old hA hF hG hV hO.2.1 (Nat.le_of_ble_eq_true rfl) hCS hzc (by intro c hc; simp only [List.mem_cons, List.not_mem_nil, or_false] at hc; rcases hc with rfl <;> exact lat_mask _)) rfl (hw _ (List.mem_of_getElem? (i := 8) rfl)) (hw _ (List.mem_of_getElem? (i := 9) rfl)) (hw _ (List.mem_of_getElem? (i := 6) rfl)) (hw _ (List.mem_of_getElem? (i := 10) rfl)) pd___C_V rfl d_method_2_code_56 rfl (by rw [hml]; rfl) (allS hs all0) (by decide) (Nat.le_of_ble_eq_true rfl) (by decide) (by decide) (fun v4 T4 h4 S4 X4 q4 sS4 sz4 => ?_)
      obtain ⟨rfl, q1, b, q2, -⟩ := q4
      show Go _ _ _ _ (T4.setTop (mkF m 59 #[.val (.int p1), .val (.int p2), .val (.int p3), .val (.int p4), .val (.int (chr16 (p1 &&& (255 : Int32)))), .val (.int (chr16 (p2 &&& (255 : Int32)))), .val (.int (chr16 (p3 &&& (255 : Int32))))] [(.ref h0.size)]))
      exact retA' X4 hby hret d_method_2_code_59 rfl (fun S' hS' => ⟨_, rfl, hK.trans q1 (fun x hx => Or.inr (by cases List.mem_singleton.mp hx; exact Nat.le_refl _)), q2.1⟩)
  · replace hc := neF hc
    show Go _ _ _ _ (s₁.setTop (mkF m 28 #[.val (.int p1), .val (.int p2), .val (.int p3), .val (.int p4), .val (.int (chr16 (p1 &&& (255 : Int32)))), .val (.int (chr16 (p2 &&& (255 : Int32)))), .val (.int (chr16 (p3 &&& (255 : Int32))))] []))
    refine gNew X0 hby (hw _ (List.mem_of_getElem? (i := 4) rfl)) (hw _ (List.mem_of_getElem? (i := 5) rfl)) (hw _ (List.mem_of_getElem? (i := 6) rfl)) d_method_2_code_28 (by decide) (by decide) (fun T1 h1 S1 X1 E1 A1 D1 M1 sS1 sn1 => ?_)
    show Go _ _ _ _ (T1.setTop (mkF m 31 #[.val (.int p1), .val (.int p2), .val (.int p3), .val (.int p4), .val (.int (chr16 (p1 &&& (255 : Int32)))), .val (.int (chr16 (p2 &&& (255 : Int32)))), .val (.int (chr16 (p3 &&& (255 : Int32))))] [(.ref h0.size)]))
    refine blk X1 hby b64 (pc' := 33) (Ls' := #[.val (.int p1), .val (.int p2), .val (.int p3), .val (.int p4), .val (.int (chr16 (p1 &&& (255 : Int32)))), .val (.int (chr16 (p2 &&& (255 : Int32)))), .val (.int (chr16 (p3 &&& (255 : Int32))))]) (st' := [(.int (0 : Int32)), (.ref h0.size), (.ref h0.size)]) rfl ?_
    refine gNewA X1 hby (aty := .char) (hw _ (List.mem_of_getElem? (i := 7) rfl)) d_method_2_code_33 rfl (N := 0) (cap := 0) rfl (by decide) (by decide) (by decide) (by decide) (fun T2 h2 S2 X2 E2 V2 sS2 sn2 => ?_)
    show Go _ _ _ _ (T2.setTop (mkF m 35 #[.val (.int p1), .val (.int p2), .val (.int p3), .val (.int p4), .val (.int (chr16 (p1 &&& (255 : Int32)))), .val (.int (chr16 (p2 &&& (255 : Int32)))), .val (.int (chr16 (p3 &&& (255 : Int32))))] [(.ref h1.size), (.ref h0.size), (.ref h0.size)]))
    have hA : Exa Z h2 h0.size "java/lang/String" := A1.ext E2
    have hF : Fld Z h2 h0.size "java/lang/String" "value" "[B" .null := (D1 (O := "java/lang/String") (nm := "value") (d := "[B") (Or.inr (hw _ (List.mem_of_getElem? (i := 20) rfl))) (ty := .array .byte) (by decide)).ext E2
    have hG : Fld Z h2 h0.size "java/lang/String" "coder" "B" (.int 0) := (D1 (O := "java/lang/String") (nm := "coder") (d := "B") (Or.inr (hw _ (List.mem_of_getElem? (i := 21) rfl))) (ty := .byte) (by decide)).ext E2
    have hK : Keep h0 h2 [] := ((Keep.refl h0 []).ext E1).ext E2
    have hs : S2 h0.size := sS2 _ sn1
    have ga : Z.heap.size ≤ h1.size := Nat.le_trans hO.2.1 E1.1
    have na : h0.size ≠ h1.size := Nat.ne_of_lt A1.lt
    have hV : Ari Z h2 h1.size .char (List.replicate 0 0) := V2
    have hsa : S2 h1.size := sn2
    replace hV : Ari Z h2 h1.size .char [] := hV
    refine gInit X2 hby (argsL := [(.ref h1.size)]) (st := [(.ref h0.size)]) (ct_init1 hw hEL X2.old hA hF hG hV hO.2.1 (Nat.le_of_ble_eq_true rfl) hCS hzc (by intro c hc; cases hc)) rfl (hw _ (List.mem_of_getElem? (i := 8) rfl)) (hw _ (List.mem_of_getElem? (i := 9) rfl)) (hw _ (List.mem_of_getElem? (i := 6) rfl)) (hw _ (List.mem_of_getElem? (i := 10) rfl)) pd___C_V rfl d_method_2_code_35 rfl (by rw [hml]; rfl) (allS hs all0) (by decide) (Nat.le_of_ble_eq_true rfl) (by decide) (by decide) (fun v3 T3 h3 S3 X3 q3 sS3 sz3 => ?_)
    obtain ⟨rfl, q1, b, q2, -⟩ := q3
    show Go _ _ _ _ (T3.setTop (mkF m 38 #[.val (.int p1), .val (.int p2), .val (.int p3), .val (.int p4), .val (.int (chr16 (p1 &&& (255 : Int32)))), .val (.int (chr16 (p2 &&& (255 : Int32)))), .val (.int (chr16 (p3 &&& (255 : Int32))))] [(.ref h0.size)]))
    exact retA' X3 hby hret d_method_2_code_38 rfl (fun S' hS' => ⟨_, rfl, hK.trans q1 (fun x hx => Or.inr (by cases List.mem_singleton.mp hx; exact Nat.le_refl _)), q2.1⟩)
theorem ef_code (m : MethodId) (x0 : Int32) (x1 : Int32) (x2 : Int32) (x3 : Int32) : entryFrame m #[(.int x0), (.int x1), (.int x2), (.int x3)] maxLocals = mkF m 0 #[.val (.int x0), .val (.int x1), .val (.int x2), .val (.int x3), .unset, .unset, .unset] [] := by first | (simp [entryFrame, mkF, argsToLocals, Value.category, maxLocals]; done) | rfl
theorem b65 : decs code 0 [.iload_n 0, .iconst 1, .iand] = true := by decide +kernel
theorem d_code_3 : decode code 3 = .ok (.ifCond .eq 7, 3) := by decide +kernel
theorem b66 : decs code 10 [.iload_n 1, .iload_n 2, .iload_n 3, .iload_n 0, .iconst 1, .iushr, .iconst 3, .iand] = true := by decide +kernel
theorem d_code_18 : decode code 18 = .ok (.invokestatic 12, 3) := by decide +kernel
theorem pd__IIII_Ljava_lang_String_ : parseMethodDescriptor "(IIII)Ljava/lang/String;" = some ⟨[.int, .int, .int, .int], (some (.object "java/lang/String"))⟩ := by decide +kernel
theorem b67 : decs code 21 [.astore 4, .aload 4] = true := by decide +kernel
theorem d_code_25 : decode code 25 = .ok (.invokestatic 18, 3) := by decide +kernel
theorem pd__Ljava_lang_String__Lcom_example_fragsel_fragsel_FragselException_ : parseMethodDescriptor "(Ljava/lang/String;)Lcom/example/fragsel/fragsel/FragselException;" = some ⟨[(.object "java/lang/String")], (some (.object "com/example/fragsel/fragsel/FragselException"))⟩ := by decide +kernel
theorem b68 : decs code 28 [.astore 5, .aload 5] = true := by decide +kernel
theorem d_code_32 : decode code 32 = .ok (.ifnonnull 5, 3) := by decide +kernel
theorem b69 : decs code 37 [.aload 5] = true := by decide +kernel
theorem d_code_39 : decode code 39 = .ok (.invokevirtual 24, 3) := by decide +kernel
theorem pd___Lcom_example_fragsel_fragsel_FragselException_Kind_ : parseMethodDescriptor "()Lcom/example/fragsel/fragsel/FragselException$Kind;" = some ⟨[], (some (.object "com/example/fragsel/fragsel/FragselException$Kind"))⟩ := by decide +kernel
theorem d_code_42 : decode code 42 = .ok (.getstatic 28, 3) := by decide +kernel
theorem d_code_45 : decode code 45 = .ok (.if_acmp .eq 5, 3) := by decide +kernel
theorem b70 : decs code 50 [.aload 5] = true := by decide +kernel
theorem d_code_52 : decode code 52 = .ok (.invokevirtual 34, 3) := by decide +kernel
theorem pd___Ljava_lang_String_ : parseMethodDescriptor "()Ljava/lang/String;" = some ⟨[], (some (.object "java/lang/String"))⟩ := by decide +kernel
theorem b71 : decs code 55 [.astore 6, .aload 4] = true := by decide +kernel
theorem d_code_59 : decode code 59 = .ok (.ifnonnull 14, 3) := by decide +kernel
theorem b72 : decs code 73 [.aload 6] = true := by decide +kernel
theorem d_code_75 : decode code 75 = .ok (.ifnull 17, 3) := by decide +kernel
theorem b73 : decs code 78 [.aload 6, .aload 4] = true := by decide +kernel
theorem d_code_82 : decode code 82 = .ok (.invokevirtual 38, 3) := by decide +kernel
theorem pd__Ljava_lang_Object__Z : parseMethodDescriptor "(Ljava/lang/Object;)Z" = some ⟨[(.object "java/lang/Object")], (some .boolean)⟩ := by decide +kernel
theorem d_code_85 : decode code 85 = .ok (.ifCond .eq 7, 3) := by decide +kernel
theorem b74 : decs code 88 [.iconst 1, .goto 4] = true := by decide +kernel
theorem d_code_93 : decode code 93 = .ok (.ireturn, 1) := by decide +kernel
theorem b75 : decs code 6 [.aconst_null, .goto 14, .astore 4, .aload 4] = true := by decide +kernel
theorem b76 : decs code 28 [.astore 5, .aload 5] = true := by decide +kernel
theorem b77 : decs code 37 [.aload 5] = true := by decide +kernel
theorem b78 : decs code 50 [.aload 5] = true := by decide +kernel
theorem b79 : decs code 55 [.astore 6, .aload 4] = true := by decide +kernel
theorem b80 : decs code 62 [.aload 6] = true := by decide +kernel
theorem d_code_64 : decode code 64 = .ok (.ifnonnull 7, 3) := by decide +kernel
theorem b81 : decs code 67 [.iconst 1, .goto 4] = true := by decide +kernel
theorem d_code_72 : decode code 72 = .ok (.ireturn, 1) := by decide +kernel
def QL (v : Option Value) (h : Heap) (S : Addr → Prop) : Prop := v = some (.int 1)
set_option maxRecDepth 65536 in
set_option maxHeartbeats 40000000 in
theorem ct_law {h0 : Heap} {p1 p2 p3 p4 zc : Int32} {kd us ss : Addr} (hw : ∀ d ∈ tables_1, d.before a0 Z = true) (hEL : EW Z a0 EL) (hO : Old Z Z.heap.size h0) (hst : l.stackTraces = true) (hU : Sta Z Z.heap "java/lang/Throwable" "UNASSIGNED_STACK" "[Ljava/lang/StackTraceElement;" (.ref us)) (hS : Sta Z Z.heap "java/lang/Throwable" "SUPPRESSED_SENTINEL" "Ljava/util/List;" (.ref ss)) (hK : Sta Z Z.heap "com/example/fragsel/fragsel/FragselException$Kind" "ENDPOINT" "Lcom/example/fragsel/fragsel/FragselException$Kind;" (.ref kd)) (hCS : Sta Z Z.heap "java/lang/String" "COMPACT_STRINGS" "Z" (.int zc)) (hzc : ¬ zc = 0) :
    Ct true true Z EL l x code maxLocals ret room_1 #[(.int p1), (.int p2), (.int p3), (.int p4)] h0 [] (QL) tables_1 := by
  refine ctOf pn_com_example_fragsel_fragsel_FragselExceptionEndpointPinLaw hO hEL ?_
  intro p e s m below meth c s₁ S0 X0 hby hml hret hnm hsf
  refine Go.entry (ef_code m p1 p2 p3 p4) ?_
  show Go _ _ _ _ (s₁.setTop (mkF m 0 #[.val (.int p1), .val (.int p2), .val (.int p3), .val (.int p4), .unset, .unset, .unset] []))
  refine blk X0 hby b65 (pc' := 3) (Ls' := #[.val (.int p1), .val (.int p2), .val (.int p3), .val (.int p4), .unset, .unset, .unset]) (st' := [(.int (p1 &&& (1 : Int32)))]) rfl ?_
  refine br0 X0 hby d_code_3 (pc1 := 10) (by decide) (fun hc => ?_) (fun hc => ?_)
  · replace hc := eqT hc
    show Go _ _ _ _ (s₁.setTop (mkF m 10 #[.val (.int p1), .val (.int p2), .val (.int p3), .val (.int p4), .unset, .unset, .unset] []))
    refine blk X0 hby b66 (pc' := 18) (Ls' := #[.val (.int p1), .val (.int p2), .val (.int p3), .val (.int p4), .unset, .unset, .unset]) (st' := [(.int ((XT.ushr p1 (1 : Int32)) &&& (3 : Int32))), (.int p4), (.int p3), (.int p2)]) rfl ?_
    refine gStatic X0 hby (argsL := [(.int p2), (.int p3), (.int p4), (.int ((XT.ushr p1 (1 : Int32)) &&& (3 : Int32)))]) (st := []) (ct_draw hw hEL X0.old hCS hzc) (hw _ (List.mem_of_getElem? (i := 0) rfl)) (hw _ (List.mem_of_getElem? (i := 1) rfl)) (hw _ (List.mem_of_getElem? (i := 2) rfl)) (hw _ (List.mem_of_getElem? (i := 3) rfl)) pd__IIII_Ljava_lang_String_ rfl d_code_18 rfl (by rw [hml]; rfl) all0 (by decide) (Nat.le_of_ble_eq_true rfl) (by decide) (by decide) (fun v1 T1 h1 S1 X1 q1 sS1 sz1 => ?_)
    obtain ⟨x, rfl, hk1, hxs⟩ := q1
    show Go _ _ _ _ (T1.setTop (mkF m 21 #[.val (.int p1), .val (.int p2), .val (.int p3), .val (.int p4), .unset, .unset, .unset] [(.ref x)]))
    refine blk X1 hby b67 (pc' := 25) (Ls' := #[.val (.int p1), .val (.int p2), .val (.int p3), .val (.int p4), .val (.ref x), .unset, .unset]) (st' := [(.ref x)]) rfl ?_
    refine gStatic X1 hby (argsL := [(.ref x)]) (st := []) (ct_make_r hw hEL X1.old hst hU hS hK) (hw _ (List.mem_of_getElem? (i := 26) rfl)) (hw _ (List.mem_of_getElem? (i := 27) rfl)) (hw _ (List.mem_of_getElem? (i := 28) rfl)) (hw _ (List.mem_of_getElem? (i := 29) rfl)) pd__Ljava_lang_String__Lcom_example_fragsel_fragsel_FragselException_ rfl d_code_25 rfl (by rw [hml]; rfl) all0 (by decide) (Nat.le_of_ble_eq_true rfl) (by decide) (by decide) (fun v2 T2 h2 S2 X2 q2 sS2 sz2 => ?_)
    obtain ⟨rfl, q1, q2, q3, q4⟩ := q2
    show Go _ _ _ _ (T2.setTop (mkF m 28 #[.val (.int p1), .val (.int p2), .val (.int p3), .val (.int p4), .val (.ref x), .unset, .unset] [(.ref h1.size)]))
    refine blk X2 hby b68 (pc' := 32) (Ls' := #[.val (.int p1), .val (.int p2), .val (.int p3), .val (.int p4), .val (.ref x), .val (.ref h1.size), .unset]) (st' := [(.ref h1.size)]) rfl ?_
    refine nnR X2 hby d_code_32 (pc1 := 37) (by decide) ?_
    show Go _ _ _ _ (T2.setTop (mkF m 37 #[.val (.int p1), .val (.int p2), .val (.int p3), .val (.int p4), .val (.ref x), .val (.ref h1.size), .unset] []))
    refine blk X2 hby b69 (pc' := 39) (Ls' := #[.val (.int p1), .val (.int p2), .val (.int p3), .val (.int p4), .val (.ref x), .val (.ref h1.size), .unset]) (st' := [(.ref h1.size)]) rfl ?_
    refine gVirt X2 hby (argsL := []) (st := []) (ct_kind hw hEL X2.old q4) q2 (hw _ (List.mem_of_getElem? (i := 88) rfl)) (hw _ (List.mem_of_getElem? (i := 89) rfl)) (hw _ (List.mem_of_getElem? (i := 91) rfl)) (hw _ (List.mem_of_getElem? (i := 90) rfl)) (hw _ (List.mem_of_getElem? (i := 28) rfl)) (hw _ (List.mem_of_getElem? (i := 92) rfl)) pd___Lcom_example_fragsel_fragsel_FragselException_Kind_ rfl d_code_39 rfl (by rw [hml]; rfl) all0 (by decide) (Nat.le_of_ble_eq_true rfl) (by decide) (by decide) (fun v3 T3 h3 S3 X3 q3 sS3 sz3 => ?_)
    obtain ⟨rfl, rfl⟩ := q3
    show Go _ _ _ _ (T3.setTop (mkF m 42 #[.val (.int p1), .val (.int p2), .val (.int p3), .val (.int p4), .val (.ref x), .val (.ref h1.size), .unset] [(.ref kd)]))
    refine gGetS X3 hby (hw _ (List.mem_of_getElem? (i := 93) rfl)) Via.refl hK d_code_42 (fun T4 X4 => ?_)
    show Go _ _ _ _ (T4.setTop (mkF m 45 #[.val (.int p1), .val (.int p2), .val (.int p3), .val (.int p4), .val (.ref x), .val (.ref h1.size), .unset] [(.ref kd), (.ref kd)]))
    refine brA X4 hby d_code_45 rfl rfl (pc1 := 50) (by decide) (fun hq => ?_) (fun hq => absurd (aeqF hq) (fun q => q rfl))
    show Go _ _ _ _ (T4.setTop (mkF m 50 #[.val (.int p1), .val (.int p2), .val (.int p3), .val (.int p4), .val (.ref x), .val (.ref h1.size), .unset] []))
    refine blk X4 hby b70 (pc' := 52) (Ls' := #[.val (.int p1), .val (.int p2), .val (.int p3), .val (.int p4), .val (.ref x), .val (.ref h1.size), .unset]) (st' := [(.ref h1.size)]) rfl ?_
    refine gVirtUp X4 hby (argsL := []) (st := []) (ct_msg_r hw hEL X4.old q3) q2 (hw _ (List.mem_of_getElem? (i := 94) rfl)) (hw _ (List.mem_of_getElem? (i := 95) rfl)) (hw _ (List.mem_of_getElem? (i := 96) rfl)) (hw _ (List.mem_of_getElem? (i := 98) rfl)) (hw _ (List.mem_of_getElem? (i := 97) rfl)) (hw _ (List.mem_of_getElem? (i := 47) rfl)) (hw _ (List.mem_of_getElem? (i := 99) rfl)) pd___Ljava_lang_String_ rfl d_code_52 rfl (by rw [hml]; rfl) all0 (by decide) (Nat.le_of_ble_eq_true rfl) (by decide) (by decide) (fun v5 T5 h5 S5 X5 q5 sS5 sz5 => ?_)
    obtain ⟨rfl, rfl⟩ := q5
    show Go _ _ _ _ (T5.setTop (mkF m 55 #[.val (.int p1), .val (.int p2), .val (.int p3), .val (.int p4), .val (.ref x), .val (.ref h1.size), .unset] [(.ref x)]))
    refine blk X5 hby b71 (pc' := 59) (Ls' := #[.val (.int p1), .val (.int p2), .val (.int p3), .val (.int p4), .val (.ref x), .val (.ref h1.size), .val (.ref x)]) (st' := [(.ref x)]) rfl ?_
    refine nnR X5 hby d_code_59 (pc1 := 73) (by decide) ?_
    show Go _ _ _ _ (T5.setTop (mkF m 73 #[.val (.int p1), .val (.int p2), .val (.int p3), .val (.int p4), .val (.ref x), .val (.ref h1.size), .val (.ref x)] []))
    refine blk X5 hby b72 (pc' := 75) (Ls' := #[.val (.int p1), .val (.int p2), .val (.int p3), .val (.int p4), .val (.ref x), .val (.ref h1.size), .val (.ref x)]) (st' := [(.ref x)]) rfl ?_
    refine nuR X5 hby d_code_75 ?_
    show Go _ _ _ _ (T5.setTop (mkF m 78 #[.val (.int p1), .val (.int p2), .val (.int p3), .val (.int p4), .val (.ref x), .val (.ref h1.size), .val (.ref x)] []))
    refine blk X5 hby b73 (pc' := 82) (Ls' := #[.val (.int p1), .val (.int p2), .val (.int p3), .val (.int p4), .val (.ref x), .val (.ref h1.size), .val (.ref x)]) (st' := [(.ref x), (.ref x)]) rfl ?_
    refine gVirt X5 hby (argsL := [(.ref x)]) (st := []) (ct_eqid hw hEL X5.old) (hxs.keep q1) (hw _ (List.mem_of_getElem? (i := 100) rfl)) (hw _ (List.mem_of_getElem? (i := 101) rfl)) (hw _ (List.mem_of_getElem? (i := 103) rfl)) (hw _ (List.mem_of_getElem? (i := 102) rfl)) (hw _ (List.mem_of_getElem? (i := 6) rfl)) (hw _ (List.mem_of_getElem? (i := 104) rfl)) pd__Ljava_lang_Object__Z rfl d_code_82 rfl (by rw [hml]; rfl) all0 (by decide) (Nat.le_of_ble_eq_true rfl) (by decide) (by decide) (fun v6 T6 h6 S6 X6 q6 sS6 sz6 => ?_)
    obtain ⟨rfl, rfl⟩ := q6
    show Go _ _ _ _ (T6.setTop (mkF m 85 #[.val (.int p1), .val (.int p2), .val (.int p3), .val (.int p4), .val (.ref x), .val (.ref h1.size), .val (.ref x)] [(.int (1 : Int32))]))
    refine br0 X6 hby d_code_85 (pc1 := 92) (by decide) (fun hz => absurd (eqT hz) (by decide)) (fun hz => ?_)
    show Go _ _ _ _ (T6.setTop (mkF m 88 #[.val (.int p1), .val (.int p2), .val (.int p3), .val (.int p4), .val (.ref x), .val (.ref h1.size), .val (.ref x)] []))
    refine blk X6 hby b74 (pc' := 93) (Ls' := #[.val (.int p1), .val (.int p2), .val (.int p3), .val (.int p4), .val (.ref x), .val (.ref h1.size), .val (.ref x)]) (st' := [(.int (1 : Int32))]) rfl ?_
    exact retI' X6 hby hret d_code_93 rfl (fun S' hS' => rfl)
  · replace hc := eqF hc
    show Go _ _ _ _ (s₁.setTop (mkF m 6 #[.val (.int p1), .val (.int p2), .val (.int p3), .val (.int p4), .unset, .unset, .unset] []))
    refine blk X0 hby b75 (pc' := 25) (Ls' := #[.val (.int p1), .val (.int p2), .val (.int p3), .val (.int p4), .val .null, .unset, .unset]) (st' := [.null]) rfl ?_
    refine gStatic X0 hby (argsL := [.null]) (st := []) (ct_make_n hw hEL X0.old hst hU hS hK) (hw _ (List.mem_of_getElem? (i := 26) rfl)) (hw _ (List.mem_of_getElem? (i := 27) rfl)) (hw _ (List.mem_of_getElem? (i := 28) rfl)) (hw _ (List.mem_of_getElem? (i := 29) rfl)) pd__Ljava_lang_String__Lcom_example_fragsel_fragsel_FragselException_ rfl d_code_25 rfl (by rw [hml]; rfl) all0 (by decide) (Nat.le_of_ble_eq_true rfl) (by decide) (by decide) (fun v1 T1 h1 S1 X1 q1 sS1 sz1 => ?_)
    obtain ⟨rfl, q1, q2, q3, q4⟩ := q1
    show Go _ _ _ _ (T1.setTop (mkF m 28 #[.val (.int p1), .val (.int p2), .val (.int p3), .val (.int p4), .val .null, .unset, .unset] [(.ref h0.size)]))
    refine blk X1 hby b76 (pc' := 32) (Ls' := #[.val (.int p1), .val (.int p2), .val (.int p3), .val (.int p4), .val .null, .val (.ref h0.size), .unset]) (st' := [(.ref h0.size)]) rfl ?_
    refine nnR X1 hby d_code_32 (pc1 := 37) (by decide) ?_
    show Go _ _ _ _ (T1.setTop (mkF m 37 #[.val (.int p1), .val (.int p2), .val (.int p3), .val (.int p4), .val .null, .val (.ref h0.size), .unset] []))
    refine blk X1 hby b77 (pc' := 39) (Ls' := #[.val (.int p1), .val (.int p2), .val (.int p3), .val (.int p4), .val .null, .val (.ref h0.size), .unset]) (st' := [(.ref h0.size)]) rfl ?_
    refine gVirt X1 hby (argsL := []) (st := []) (ct_kind hw hEL X1.old q4) q2 (hw _ (List.mem_of_getElem? (i := 88) rfl)) (hw _ (List.mem_of_getElem? (i := 89) rfl)) (hw _ (List.mem_of_getElem? (i := 91) rfl)) (hw _ (List.mem_of_getElem? (i := 90) rfl)) (hw _ (List.mem_of_getElem? (i := 28) rfl)) (hw _ (List.mem_of_getElem? (i := 92) rfl)) pd___Lcom_example_fragsel_fragsel_FragselException_Kind_ rfl d_code_39 rfl (by rw [hml]; rfl) all0 (by decide) (Nat.le_of_ble_eq_true rfl) (by decide) (by decide) (fun v2 T2 h2 S2 X2 q2 sS2 sz2 => ?_)
    obtain ⟨rfl, rfl⟩ := q2
    show Go _ _ _ _ (T2.setTop (mkF m 42 #[.val (.int p1), .val (.int p2), .val (.int p3), .val (.int p4), .val .null, .val (.ref h0.size), .unset] [(.ref kd)]))
    refine gGetS X2 hby (hw _ (List.mem_of_getElem? (i := 93) rfl)) Via.refl hK d_code_42 (fun T3 X3 => ?_)
    show Go _ _ _ _ (T3.setTop (mkF m 45 #[.val (.int p1), .val (.int p2), .val (.int p3), .val (.int p4), .val .null, .val (.ref h0.size), .unset] [(.ref kd), (.ref kd)]))
    refine brA X3 hby d_code_45 rfl rfl (pc1 := 50) (by decide) (fun hq => ?_) (fun hq => absurd (aeqF hq) (fun q => q rfl))
    show Go _ _ _ _ (T3.setTop (mkF m 50 #[.val (.int p1), .val (.int p2), .val (.int p3), .val (.int p4), .val .null, .val (.ref h0.size), .unset] []))
    refine blk X3 hby b78 (pc' := 52) (Ls' := #[.val (.int p1), .val (.int p2), .val (.int p3), .val (.int p4), .val .null, .val (.ref h0.size), .unset]) (st' := [(.ref h0.size)]) rfl ?_
    refine gVirtUp X3 hby (argsL := []) (st := []) (ct_msg_n hw hEL X3.old q3) q2 (hw _ (List.mem_of_getElem? (i := 94) rfl)) (hw _ (List.mem_of_getElem? (i := 95) rfl)) (hw _ (List.mem_of_getElem? (i := 96) rfl)) (hw _ (List.mem_of_getElem? (i := 98) rfl)) (hw _ (List.mem_of_getElem? (i := 97) rfl)) (hw _ (List.mem_of_getElem? (i := 47) rfl)) (hw _ (List.mem_of_getElem? (i := 99) rfl)) pd___Ljava_lang_String_ rfl d_code_52 rfl (by rw [hml]; rfl) all0 (by decide) (Nat.le_of_ble_eq_true rfl) (by decide) (by decide) (fun v4 T4 h4 S4 X4 q4 sS4 sz4 => ?_)
    obtain ⟨rfl, rfl⟩ := q4
    show Go _ _ _ _ (T4.setTop (mkF m 55 #[.val (.int p1), .val (.int p2), .val (.int p3), .val (.int p4), .val .null, .val (.ref h0.size), .unset] [.null]))
    refine blk X4 hby b79 (pc' := 59) (Ls' := #[.val (.int p1), .val (.int p2), .val (.int p3), .val (.int p4), .val .null, .val (.ref h0.size), .val .null]) (st' := [.null]) rfl ?_
    refine nnN X4 hby d_code_59 ?_
    show Go _ _ _ _ (T4.setTop (mkF m 62 #[.val (.int p1), .val (.int p2), .val (.int p3), .val (.int p4), .val .null, .val (.ref h0.size), .val .null] []))
    refine blk X4 hby b80 (pc' := 64) (Ls' := #[.val (.int p1), .val (.int p2), .val (.int p3), .val (.int p4), .val .null, .val (.ref h0.size), .val .null]) (st' := [.null]) rfl ?_
    refine nnN X4 hby d_code_64 ?_
    show Go _ _ _ _ (T4.setTop (mkF m 67 #[.val (.int p1), .val (.int p2), .val (.int p3), .val (.int p4), .val .null, .val (.ref h0.size), .val .null] []))
    refine blk X4 hby b81 (pc' := 72) (Ls' := #[.val (.int p1), .val (.int p2), .val (.int p3), .val (.int p4), .val .null, .val (.ref h0.size), .val .null]) (st' := [(.int (1 : Int32))]) rfl ?_
    exact retI' X4 hby hret d_code_72 rfl (fun S' hS' => rfl)
set_option maxRecDepth 65536 in
set_option maxHeartbeats 40000000 in
theorem comes_1 {Post : Tables → Env → Array Value → State → Outcome → State → Prop} (hpost : ∀ tb e args s v u, (limb_1_1.after args s (.returned v) u = true ∧ limb_1_2.after args s (.returned v) u = true ∧ True) → FramedW s (.returned v) u (Jvm.fieldLocs frame_1_writes args s ++ Jvm.arrayLocs frame_1_arrays args s ++ Jvm.staticLocs frame_1_statics s) 24 6656 → Post tb e args s (.returned v) u) :
    ArmFor flags0 classFile x code maxLocals ret World_1 tables_1 room_1 Calls_1 rest_1 Pre_1 Post := by
  intro l hfl _ _ p e ha hc hk s m args below hf hA hF happ hP
  obtain ⟨⟨hfk, htk, hck, -⟩, hrest, hpre⟩ := hP
  obtain ⟨-, -, -, hnamed, -, -, -, hat⟩ := (Spec.applies_iff hf).mp happ
  obtain ⟨hg, hn⟩ := and_e (Cond.before_iff.mp (show (Jvm.Cond.and given_1 narrow_1).before args s = true from hpre))
  obtain ⟨h1, h2⟩ := and_e hg
  obtain ⟨h3, h2⟩ := and_e h2
  obtain ⟨h4, h2⟩ := and_e h2
  obtain ⟨h5, h6⟩ := and_e h2
  obtain ⟨w0, w1, w2, w3, rfl⟩ : ∃ w0 w1 w2 w3 : Value, args = #[w0, w1, w2, w3] := by
    have hs : args.size = 4 := by simpa [Cond.value, given_1] using h1
    obtain ⟨L⟩ := args
    match L, hs with
    | [w0, w1, w2, w3], _ => exact ⟨w0, w1, w2, w3, rfl⟩
  have hw := fun d (hd : d ∈ tables_1) => atoms_spec (ws := Jvm.Cond.code x code maxLocals ret :: tables_1) hat d (List.mem_cons_of_mem _ hd)
  have hfit : Fit s := fun {y c} hc i hi => by
    obtain ⟨ha, rfl⟩ := Array.getElem?_eq_some_iff.mp hc
    have q := List.all_eq_true.mp ((Array.all_eq_true_iff_forall_mem.mp hF) _ (Array.getElem_mem ha)) i (List.mem_range.mpr hi)
    simpa [Array.getElem?_eq_getElem hi] using q
  obtain ⟨i0, e0⟩ := is_v h3
  obtain rfl : w0 = (.int i0) := Option.some.inj e0
  obtain ⟨i1, e1⟩ := is_v h4
  obtain rfl : w1 = (.int i1) := Option.some.inj e1
  obtain ⟨i2, e2⟩ := is_v h5
  obtain rfl : w2 = (.int i2) := Option.some.inj e2
  obtain ⟨i3, e3⟩ := is_v h6
  obtain rfl : w3 = (.int i3) := Option.some.inj e3
  obtain ⟨hsets, -⟩ := atoms_of _ (rest_1_c_eq ▸ (show rest_1_c.before _ s = true from hrest))
  obtain ⟨kd, ekd⟩ := exa_v hn
  have hK := Sta.start (v := .ref kd) ekd (Or.inr ⟨(hw _ (List.mem_of_getElem? (i := 33) rfl)), (hw _ (List.mem_of_getElem? (i := 34) rfl))⟩)
  have hIF := hsets _ (List.mem_of_getElem? (i := 20) rfl)
  obtain ⟨zc, ezc⟩ := is_v (Cond.before_iff.mp (hsets _ (List.mem_of_getElem? (i := 21) rfl)))
  have hCS := Sta.start ezc (Or.inl hIF)
  have hzc : ¬ zc = 0 := fun q => by
    have r := not_v (Cond.before_iff.mp (hsets _ (List.mem_of_getElem? (i := 22) rfl)))
    exact gotF (Cond.eq_ints ezc (Term.int_eval (0))) r q
  have hEL : EW s _ EL := EW.cons (hw _ (List.mem_of_getElem? (i := 18) rfl)) (by decide) EW.nil
  have hch : CHv s EL s.vm s.heap := CHv.start hEL hck (hsets _ (List.mem_of_getElem? (i := 22) rfl)) (hw _ (List.mem_of_getElem? (i := 19) rfl)) (hw _ (List.mem_of_getElem? (i := 5) rfl))
  obtain ⟨us, eus⟩ := arr_v (Cond.before_iff.mp (hsets _ (List.mem_of_getElem? (i := 8) rfl)))
  have hU := Sta.start eus (Or.inl (hsets _ (List.mem_of_getElem? (i := 6) rfl)))
  obtain ⟨ss, ess⟩ := exa_v (Cond.before_iff.mp (hsets _ (List.mem_of_getElem? (i := 13) rfl)))
  have hS := Sta.start ess (Or.inl (hsets _ (List.mem_of_getElem? (i := 11) rfl)))
  have hl : l.stackTraces = true := by unfold Launch.stackTraces; rw [hfl]; decide
  have hKn : Kn true s.vm below := ⟨MethodsKnown_of_tablesKnown htk, FramesKnown_of_framesKnown hfk hf⟩
  obtain ⟨n, o, r1, r2, r3, v, L, rfl, rfl, N, -, -, hE⟩ := ct_law (Z := s) (l := l) (h0 := s.heap) hw hEL (Old.start s) hl hU hS hK hCS hzc p e ha hc hk s m _ below hf ((Spec.applies_iff_loose hf).mp happ).1 ⟨rfl, State.Warmed39.refl s, rfl, hch, fun x hx => nomatch hx⟩ hKn
  refine ⟨n, _, r1, r2, r3, hpost _ _ _ _ _ _ ⟨Cond.after_iff.mpr rfl, Cond.after_iff.mpr (eq_i res_at (Term.int_eval (1)) rfl), trivial⟩ ⟨hE.1, hE.2.1, hE.2.2.1, (hE.2.2.2.sift fun y hy => Or.inr (N y hy)).mono (by decide) (by decide)⟩⟩
theorem main_1_1 : Claimed_1_1 := comes_1 fun _ _ _ _ _ _ h hF => ⟨h.1, hF⟩
theorem main_1_2 : Claimed_1_2 := comes_1 fun _ _ _ _ _ _ h hF => ⟨h.2.1, hF⟩
end Jvm.Pilot.@@N@@
namespace Jvm.Pilot.@@N@@
open Jvm Jvm.ClassFile Sem Op Lib Jvm.Free Jvm.Stand Jvm.Pilot.@@N@@.Jvm.D
/-! MADE BY PROGRAM (witnessworld.py) out of the Statement's table words and the real class files: 37 classes; the members and pool entries that the words name. The judged class is class 1, her method 2. -/
namespace start1
open Jvm.ClassFile
def u (s : String) : CpInfo := .utf8 (stringToUtf16 s)
/-- a pool by its gaps: so many unusable entries, then the entry; so many at the end -/
def gap : Nat → List CpInfo → List CpInfo
  | 0, r => r
  | n + 1, r => .unusable :: gap n r
def poolList (es : List (Nat × CpInfo)) (last : Nat) : List CpInfo := es.foldr (fun e r => gap e.1 (e.2 :: r)) (gap last [])
def pool (es : List (Nat × CpInfo)) (last : Nat) : Array CpInfo := ⟨poolList es last⟩
def fileOf (pool : Array CpInfo) (this : Nat) (attrs : Array Attribute := #[]) (ms : Array MethodInfo := #[]) (fl : Nat := 33) (sup : Nat := 0) (ifs : Array Nat := #[]) (fds : Array FieldInfo := #[]) : ClassFile where
  minorVersion := 0
  majorVersion := 65
  constantPool := pool
  accessFlags := fl
  thisClass := this
  superClass := sup
  interfaces := ifs
  fields := fds
  methods := ms
  attributes := attrs
def plain (name : String) (sup : Option ClassId) : Class where
  name := name
  kind := .ordinary
  loader := none
  accessFlags := 33
  super := sup
  interfaces := #[]
  cf := none
  fields := #[]
  methods := #[]
  instanceTypes := #[]
  staticTypes := #[]
  resolved := #[]
  callSites := []
  init := .initialized
  statics := none
  mirror := none

def pool0 : Array CpInfo := pool [(5, u "<init>"), (0, u "()V"), (1, .class_ 10), (1, u "java/lang/Object")] 113

def k0c0 : Code := { maxStack := 0, maxLocals := 1, code := object_method_1_code, exceptionTable := #[], attributes := #[] }
def k0m0 : Method := { name := "<init>", desc := "()V", sig := { parameters := [], returnType := none }, accessFlags := 1, code := some k0c0 }
/-- java/lang/Object -/
def k0 : Class := { plain "java/lang/Object" none with
  accessFlags := 33
  interfaces := #[]
  cf := some (fileOf pool0 8 #[] #[{ accessFlags := 1, nameIndex := 5, descriptorIndex := 6, attributes := #[] }] 33 0 #[] #[])
  fields := #[]
  methods := #[k0m0]
  instanceTypes := #[]
  staticTypes := #[]
  resolved := Array.replicate 124 none
  statics := none }

def pool1 : Array CpInfo := pool [(2, .class_ 4), (1, u "java/lang/Object"), (0, u "<init>"), (0, u "()V"), (0, .class_ 8), (0, u "java/lang/String"), (0, .methodref 7 10), (0, .nameAndType 5 11), (0, u "([C)V"), (0, .methodref 13 14), (0, .class_ 15), (0, .nameAndType 16 17), (0, u "com/example/fragsel/fragsel/FragselExceptionEndpointPinLaw"), (0, u "draw"), (0, u "(IIII)Ljava/lang/String;"), (0, .methodref 19 20), (0, .class_ 21), (0, .nameAndType 22 23), (0, u "com/example/fragsel/fragsel/FragselException"), (0, u "endpoint"), (0, u "(Ljava/lang/String;)Lcom/example/fragsel/fragsel/FragselException;"), (0, .methodref 19 25), (0, .nameAndType 26 27), (0, u "kind"), (0, u "()Lcom/example/fragsel/fragsel/FragselException$Kind;"), (0, .fieldref 29 30), (0, .class_ 31), (0, .nameAndType 32 33), (0, u "com/example/fragsel/fragsel/FragselException$Kind"), (0, u "ENDPOINT"), (0, u "Lcom/example/fragsel/fragsel/FragselException$Kind;"), (0, .methodref 19 35), (0, .nameAndType 36 37), (0, u "getMessage"), (0, u "()Ljava/lang/String;"), (0, .methodref 7 39), (0, .nameAndType 40 41), (0, u "equals"), (0, u "(Ljava/lang/Object;)Z"), (3, u "law"), (0, u "(IIII)Z")] 4

def k1m0 : Method := { name := "<init>", desc := "()V", sig := { parameters := [], returnType := none }, accessFlags := 1, code := none }
def k1c1 : Code := { maxStack := 6, maxLocals := 7, code := method_2_code, exceptionTable := #[], attributes := #[] }
def k1m1 : Method := { name := "draw", desc := "(IIII)Ljava/lang/String;", sig := { parameters := [.int, .int, .int, .int], returnType := some (.object "java/lang/String") }, accessFlags := 10, code := some k1c1 }
def k1c2 : Code := { maxStack := 5, maxLocals := 7, code := code, exceptionTable := #[], attributes := #[] }
def k1m2 : Method := { name := "law", desc := "(IIII)Z", sig := { parameters := [.int, .int, .int, .int], returnType := some .boolean }, accessFlags := 9, code := some k1c2 }
/-- com/example/fragsel/fragsel/FragselExceptionEndpointPinLaw -/
def k1 : Class := { plain "com/example/fragsel/fragsel/FragselExceptionEndpointPinLaw" (some 0) with
  accessFlags := 49
  interfaces := #[]
  cf := some (fileOf pool1 13 #[] #[{ accessFlags := 1, nameIndex := 5, descriptorIndex := 6, attributes := #[] }, { accessFlags := 10, nameIndex := 16, descriptorIndex := 17, attributes := #[] }, { accessFlags := 9, nameIndex := 45, descriptorIndex := 46, attributes := #[] }] 49 2 #[] #[])
  fields := #[]
  methods := #[k1m0, k1m1, k1m2]
  instanceTypes := #[]
  staticTypes := #[]
  resolved := Array.replicate 51 none
  statics := none }

def pool2 : Array CpInfo := pool [(1, .class_ 2), (0, u "java/io/Serializable"), (0, .class_ 4), (0, u "java/lang/Object")] 2

/-- java/io/Serializable -/
def k2 : Class := { plain "java/io/Serializable" (some 0) with
  accessFlags := 1537
  interfaces := #[]
  cf := some (fileOf pool2 1 #[] #[] 1537 3 #[] #[])
  fields := #[]
  methods := #[]
  instanceTypes := #[]
  staticTypes := #[]
  resolved := Array.replicate 7 none
  statics := none }

def pool3 : Array CpInfo := pool [(1, .class_ 2), (0, u "java/lang/Comparable"), (0, .class_ 4), (0, u "java/lang/Object")] 7

/-- java/lang/Comparable -/
def k3 : Class := { plain "java/lang/Comparable" (some 0) with
  accessFlags := 1537
  interfaces := #[]
  cf := some (fileOf pool3 1 #[] #[] 1537 3 #[] #[])
  fields := #[]
  methods := #[]
  instanceTypes := #[]
  staticTypes := #[]
  resolved := Array.replicate 12 none
  statics := none }

def pool4 : Array CpInfo := pool [(2, .class_ 4), (1, u "java/lang/CharSequence"), (42, .class_ 48), (0, u "java/lang/CharSequence$1CodePointIterator"), (10, .class_ 60), (0, u "java/lang/CharSequence$1CharIterator"), (5, .class_ 67), (0, u "java/lang/Object")] 63

/-- java/lang/CharSequence -/
def k4 : Class := { plain "java/lang/CharSequence" (some 0) with
  accessFlags := 1537
  interfaces := #[]
  cf := some (fileOf pool4 2 #[.nestMembers #[47, 59]] #[] 1537 66 #[] #[])
  fields := #[]
  methods := #[]
  instanceTypes := #[]
  staticTypes := #[]
  resolved := Array.replicate 131 none
  statics := none }

def pool5 : Array CpInfo := pool [(1, .class_ 2), (0, u "java/lang/constant/Constable"), (0, .class_ 4), (0, u "java/lang/Object")] 6

/-- java/lang/constant/Constable -/
def k5 : Class := { plain "java/lang/constant/Constable" (some 0) with
  accessFlags := 1537
  interfaces := #[]
  cf := some (fileOf pool5 1 #[] #[] 1537 3 #[] #[])
  fields := #[]
  methods := #[]
  instanceTypes := #[]
  staticTypes := #[]
  resolved := Array.replicate 11 none
  statics := none }

def pool6 : Array CpInfo := pool [(1, .class_ 2), (0, u "java/lang/constant/ConstantDesc"), (0, .class_ 4), (0, u "java/lang/Object")] 32

/-- java/lang/constant/ConstantDesc -/
def k6 : Class := { plain "java/lang/constant/ConstantDesc" (some 0) with
  accessFlags := 1537
  interfaces := #[]
  cf := some (fileOf pool6 1 #[] #[] 1537 3 #[] #[])
  fields := #[]
  methods := #[]
  instanceTypes := #[]
  staticTypes := #[]
  resolved := Array.replicate 37 none
  statics := none }

def pool7 : Array CpInfo := pool [(1, .methodref 2 3), (0, .class_ 4), (0, .nameAndType 5 6), (0, u "java/lang/Object"), (0, u "<init>"), (0, u "()V"), (0, .string 8), (0, u ""), (0, .fieldref 10 11), (0, .class_ 12), (0, .nameAndType 13 14), (0, u "java/lang/String"), (0, u "value"), (0, u "[B"), (0, .fieldref 10 16), (0, .nameAndType 17 18), (0, u "coder"), (0, u "B"), (2, u "hash"), (0, u "I"), (2, u "hashIsZero"), (0, u "Z"), (0, .methodref 10 28), (0, .nameAndType 5 29), (0, u "([CIILjava/lang/Void;)V"), (8, .fieldref 10 39), (0, .nameAndType 40 26), (0, u "COMPACT_STRINGS"), (1, .class_ 44), (1, u "java/lang/StringUTF16"), (0, u "compress"), (1, .methodref 42 48), (0, .nameAndType 49 50), (0, u "coderFromArrayLen"), (0, u "([BI)B"), (126, .methodref 42 178), (0, .nameAndType 45 179), (0, u "([CII)[B"), (363, u "equals"), (29, u "(Ljava/lang/Object;)Z"), (1, .class_ 576), (0, u "java/lang/CharSequence"), (22, u "CASE_INSENSITIVE_ORDER"), (0, u "Ljava/util/Comparator;"), (409, u "([C)V"), (90, u "serialPersistentFields"), (0, u "[Ljava/io/ObjectStreamField;"), (0, .class_ 1104), (0, u "java/lang/String$CaseInsensitiveComparator"), (1, .class_ 1107), (0, u "java/io/Serializable"), (0, .class_ 1109), (0, u "java/lang/Comparable"), (0, .class_ 1111), (0, u "java/lang/constant/Constable"), (0, .class_ 1113), (0, u "java/lang/constant/ConstantDesc"), (2, u "serialVersionUID"), (0, u "J"), (3, u "REPL"), (0, u "C"), (2, u "LATIN1"), (1, u "UTF16")] 323

def k7m0 : Method := { name := "<init>", desc := "()V", sig := { parameters := [], returnType := none }, accessFlags := 1, code := none }
def k7c1 : Code := { maxStack := 5, maxLocals := 2, code := jdk_42_method_3_code, exceptionTable := #[], attributes := #[] }
def k7m1 : Method := { name := "<init>", desc := "([C)V", sig := { parameters := [(.array .char)], returnType := none }, accessFlags := 1, code := some k7c1 }
def k7c2 : Code := { maxStack := 2, maxLocals := 3, code := jdk_42_method_66_code, exceptionTable := #[], attributes := #[] }
def k7m2 : Method := { name := "equals", desc := "(Ljava/lang/Object;)Z", sig := { parameters := [(.object "java/lang/Object")], returnType := some .boolean }, accessFlags := 1, code := some k7c2 }
def k7c3 : Code := { maxStack := 4, maxLocals := 6, code := jdk_42_method_149_code, exceptionTable := #[], attributes := #[] }
def k7m3 : Method := { name := "<init>", desc := "([CIILjava/lang/Void;)V", sig := { parameters := [(.array .char), .int, .int, (.object "java/lang/Void")], returnType := none }, accessFlags := 2, code := some k7c3 }
/-- java/lang/String -/
def k7 : Class := { plain "java/lang/String" (some 0) with
  accessFlags := 49
  interfaces := #[2, 3, 4, 5, 6]
  cf := some (fileOf pool7 10 #[.nestMembers #[1103]] #[{ accessFlags := 1, nameIndex := 5, descriptorIndex := 6, attributes := #[] }, { accessFlags := 1, nameIndex := 5, descriptorIndex := 1010, attributes := #[] }, { accessFlags := 1, nameIndex := 543, descriptorIndex := 573, attributes := #[] }, { accessFlags := 2, nameIndex := 5, descriptorIndex := 29, attributes := #[] }] 49 2 #[1106, 1108, 575, 1110, 1112] #[{ accessFlags := 18, nameIndex := 13, descriptorIndex := 14, attributes := #[] }, { accessFlags := 18, nameIndex := 17, descriptorIndex := 18, attributes := #[] }, { accessFlags := 2, nameIndex := 21, descriptorIndex := 22, attributes := #[] }, { accessFlags := 2, nameIndex := 25, descriptorIndex := 26, attributes := #[] }, { accessFlags := 26, nameIndex := 1116, descriptorIndex := 1117, attributes := #[] }, { accessFlags := 24, nameIndex := 40, descriptorIndex := 26, attributes := #[] }, { accessFlags := 26, nameIndex := 1101, descriptorIndex := 1102, attributes := #[] }, { accessFlags := 26, nameIndex := 1121, descriptorIndex := 1122, attributes := #[] }, { accessFlags := 25, nameIndex := 599, descriptorIndex := 600, attributes := #[] }, { accessFlags := 24, nameIndex := 1125, descriptorIndex := 18, attributes := #[] }, { accessFlags := 24, nameIndex := 1127, descriptorIndex := 18, attributes := #[] }])
  fields := #[{ name := "value", type := (.array .byte), accessFlags := 18, slot := 0, constantValue := 0 }, { name := "coder", type := .byte, accessFlags := 18, slot := 1, constantValue := 0 }, { name := "hash", type := .int, accessFlags := 2, slot := 2, constantValue := 0 }, { name := "hashIsZero", type := .boolean, accessFlags := 2, slot := 3, constantValue := 0 }, { name := "serialVersionUID", type := .long, accessFlags := 26, slot := 0, constantValue := 0 }, { name := "COMPACT_STRINGS", type := .boolean, accessFlags := 24, slot := 1, constantValue := 0 }, { name := "serialPersistentFields", type := (.array (.object "java/io/ObjectStreamField")), accessFlags := 26, slot := 2, constantValue := 0 }, { name := "REPL", type := .char, accessFlags := 26, slot := 3, constantValue := 0 }, { name := "CASE_INSENSITIVE_ORDER", type := (.object "java/util/Comparator"), accessFlags := 25, slot := 4, constantValue := 0 }, { name := "LATIN1", type := .byte, accessFlags := 24, slot := 5, constantValue := 0 }, { name := "UTF16", type := .byte, accessFlags := 24, slot := 6, constantValue := 0 }]
  methods := #[k7m0, k7m1, k7m2, k7m3]
  instanceTypes := #[(.array .byte), .byte, .int, .boolean]
  staticTypes := #[.long, .boolean, (.array (.object "java/io/ObjectStreamField")), .char, (.object "java/util/Comparator"), .byte, .byte]
  resolved := Array.replicate 1451 none
  statics := some 0 }

def pool8 : Array CpInfo := pool [(1, .methodref 2 3), (0, .class_ 4), (0, .nameAndType 5 6), (0, u "java/lang/Object"), (0, u "<init>"), (0, u "()V"), (0, .fieldref 8 9), (0, .class_ 10), (0, .nameAndType 11 12), (0, u "java/lang/Throwable"), (0, u "cause"), (0, u "Ljava/lang/Throwable;"), (0, .fieldref 8 14), (0, .nameAndType 15 16), (0, u "UNASSIGNED_STACK"), (0, u "[Ljava/lang/StackTraceElement;"), (0, .fieldref 8 18), (0, .nameAndType 19 16), (0, u "stackTrace"), (0, .fieldref 8 21), (0, .nameAndType 22 23), (0, u "SUPPRESSED_SENTINEL"), (0, u "Ljava/util/List;"), (0, .fieldref 8 25), (0, .nameAndType 26 23), (0, u "suppressedExceptions"), (0, .methodref 8 28), (0, .nameAndType 29 30), (0, u "fillInStackTrace"), (0, u "()Ljava/lang/Throwable;"), (0, .fieldref 8 32), (0, .nameAndType 33 34), (0, u "detailMessage"), (0, u "Ljava/lang/String;"), (3, u "()Ljava/lang/String;"), (2, u "getMessage"), (51, .class_ 94), (0, u "java/lang/Throwable$WrappedPrintStream"), (6, .class_ 103), (1, u "java/lang/Throwable$PrintStreamOrWriter"), (61, u "$assertionsDisabled"), (0, u "Z"), (26, .class_ 194), (0, u "java/lang/Throwable$WrappedPrintWriter"), (3, .fieldref 8 199), (0, .nameAndType 200 201), (0, u "backtrace"), (0, u "Ljava/lang/Object;"), (0, .methodref 8 203), (0, .nameAndType 29 204), (0, u "(I)Ljava/lang/Throwable;"), (6, u "depth"), (0, u "I"), (10, u "(Ljava/lang/String;)V"), (45, .class_ 271), (1, u "java/lang/Throwable$SentinelHolder"), (32, u "EMPTY_THROWABLE_ARRAY"), (0, u "[Ljava/lang/Throwable;"), (12, .class_ 319), (0, u "java/io/Serializable"), (0, u "serialVersionUID"), (0, u "J"), (5, u "NULL_CAUSE_MESSAGE"), (0, u "SELF_SUPPRESSION_MESSAGE"), (0, u "CAUSE_CAPTION"), (0, u "SUPPRESSED_CAPTION")] 73

def k8c0 : Code := { maxStack := 2, maxLocals := 1, code := jdk_78_method_1_code, exceptionTable := #[], attributes := #[] }
def k8m0 : Method := { name := "<init>", desc := "()V", sig := { parameters := [], returnType := none }, accessFlags := 1, code := some k8c0 }
def k8c1 : Code := { maxStack := 2, maxLocals := 2, code := jdk_78_method_2_code, exceptionTable := #[], attributes := #[] }
def k8m1 : Method := { name := "<init>", desc := "(Ljava/lang/String;)V", sig := { parameters := [(.object "java/lang/String")], returnType := none }, accessFlags := 1, code := some k8c1 }
def k8c2 : Code := { maxStack := 1, maxLocals := 1, code := jdk_78_method_6_code, exceptionTable := #[], attributes := #[] }
def k8m2 : Method := { name := "getMessage", desc := "()Ljava/lang/String;", sig := { parameters := [], returnType := some (.object "java/lang/String") }, accessFlags := 1, code := some k8c2 }
def k8c3 : Code := { maxStack := 2, maxLocals := 1, code := ⟨#[0x2a, 0xb4, 0x00, 0x11, 0xc7, 0x00, 0x0a, 0x2a, 0xb4, 0x00, 0xc6, 0xc6, 0x00, 0x10, 0x2a, 0x03, 0xb6, 0x00, 0xca, 0x57, 0x2a, 0xb2, 0x00, 0x0d, 0xb5, 0x00, 0x11, 0x2a, 0xb0]⟩, exceptionTable := #[], attributes := #[] }
def k8m3 : Method := { name := "fillInStackTrace", desc := "()Ljava/lang/Throwable;", sig := { parameters := [], returnType := some (.object "java/lang/Throwable") }, accessFlags := 33, code := some k8c3 }
def k8m4 : Method := { name := "fillInStackTrace", desc := "(I)Ljava/lang/Throwable;", sig := { parameters := [.int], returnType := some (.object "java/lang/Throwable") }, accessFlags := 258, code := none }
/-- java/lang/Throwable -/
def k8 : Class := { plain "java/lang/Throwable" (some 0) with
  accessFlags := 33
  interfaces := #[2]
  cf := some (fileOf pool8 8 #[.nestMembers #[193, 93, 101, 269]] #[{ accessFlags := 1, nameIndex := 5, descriptorIndex := 6, attributes := #[] }, { accessFlags := 1, nameIndex := 5, descriptorIndex := 223, attributes := #[] }, { accessFlags := 1, nameIndex := 41, descriptorIndex := 38, attributes := #[] }, { accessFlags := 33, nameIndex := 29, descriptorIndex := 30, attributes := #[] }, { accessFlags := 258, nameIndex := 29, descriptorIndex := 204, attributes := #[] }] 33 2 #[318] #[{ accessFlags := 26, nameIndex := 320, descriptorIndex := 321, attributes := #[] }, { accessFlags := 130, nameIndex := 200, descriptorIndex := 201, attributes := #[] }, { accessFlags := 2, nameIndex := 33, descriptorIndex := 34, attributes := #[] }, { accessFlags := 26, nameIndex := 15, descriptorIndex := 16, attributes := #[] }, { accessFlags := 2, nameIndex := 11, descriptorIndex := 12, attributes := #[] }, { accessFlags := 2, nameIndex := 19, descriptorIndex := 16, attributes := #[] }, { accessFlags := 130, nameIndex := 211, descriptorIndex := 212, attributes := #[] }, { accessFlags := 26, nameIndex := 22, descriptorIndex := 23, attributes := #[] }, { accessFlags := 2, nameIndex := 26, descriptorIndex := 23, attributes := #[] }, { accessFlags := 26, nameIndex := 327, descriptorIndex := 34, attributes := #[] }, { accessFlags := 26, nameIndex := 328, descriptorIndex := 34, attributes := #[] }, { accessFlags := 26, nameIndex := 329, descriptorIndex := 34, attributes := #[] }, { accessFlags := 26, nameIndex := 330, descriptorIndex := 34, attributes := #[] }, { accessFlags := 26, nameIndex := 304, descriptorIndex := 305, attributes := #[] }, { accessFlags := 4120, nameIndex := 165, descriptorIndex := 166, attributes := #[] }])
  fields := #[{ name := "serialVersionUID", type := .long, accessFlags := 26, slot := 0, constantValue := 0 }, { name := "backtrace", type := (.object "java/lang/Object"), accessFlags := 130, slot := 0, constantValue := 0 }, { name := "detailMessage", type := (.object "java/lang/String"), accessFlags := 2, slot := 1, constantValue := 0 }, { name := "UNASSIGNED_STACK", type := (.array (.object "java/lang/StackTraceElement")), accessFlags := 26, slot := 1, constantValue := 0 }, { name := "cause", type := (.object "java/lang/Throwable"), accessFlags := 2, slot := 2, constantValue := 0 }, { name := "stackTrace", type := (.array (.object "java/lang/StackTraceElement")), accessFlags := 2, slot := 3, constantValue := 0 }, { name := "depth", type := .int, accessFlags := 130, slot := 4, constantValue := 0 }, { name := "SUPPRESSED_SENTINEL", type := (.object "java/util/List"), accessFlags := 26, slot := 2, constantValue := 0 }, { name := "suppressedExceptions", type := (.object "java/util/List"), accessFlags := 2, slot := 5, constantValue := 0 }, { name := "NULL_CAUSE_MESSAGE", type := (.object "java/lang/String"), accessFlags := 26, slot := 3, constantValue := 0 }, { name := "SELF_SUPPRESSION_MESSAGE", type := (.object "java/lang/String"), accessFlags := 26, slot := 4, constantValue := 0 }, { name := "CAUSE_CAPTION", type := (.object "java/lang/String"), accessFlags := 26, slot := 5, constantValue := 0 }, { name := "SUPPRESSED_CAPTION", type := (.object "java/lang/String"), accessFlags := 26, slot := 6, constantValue := 0 }, { name := "EMPTY_THROWABLE_ARRAY", type := (.array (.object "java/lang/Throwable")), accessFlags := 26, slot := 7, constantValue := 0 }, { name := "$assertionsDisabled", type := .boolean, accessFlags := 4120, slot := 8, constantValue := 0 }]
  methods := #[k8m0, k8m1, k8m2, k8m3, k8m4]
  instanceTypes := #[(.object "java/lang/Object"), (.object "java/lang/String"), (.object "java/lang/Throwable"), (.array (.object "java/lang/StackTraceElement")), .int, (.object "java/util/List")]
  staticTypes := #[.long, (.array (.object "java/lang/StackTraceElement")), (.object "java/util/List"), (.object "java/lang/String"), (.object "java/lang/String"), (.object "java/lang/String"), (.object "java/lang/String"), (.array (.object "java/lang/Throwable")), .boolean]
  resolved := Array.replicate 404 none
  statics := some 1 }

def pool9 : Array CpInfo := pool [(2, .class_ 4), (1, u "java/lang/Throwable"), (0, u "<init>"), (0, u "()V"), (0, .methodref 2 8), (0, .nameAndType 5 9), (0, u "(Ljava/lang/String;)V"), (9, .class_ 20), (0, u "java/lang/Exception"), (0, u "serialVersionUID"), (0, u "J")] 17

def k9m0 : Method := { name := "<init>", desc := "()V", sig := { parameters := [], returnType := none }, accessFlags := 1, code := none }
def k9c1 : Code := { maxStack := 2, maxLocals := 2, code := jdk_59_method_2_code, exceptionTable := #[], attributes := #[] }
def k9m1 : Method := { name := "<init>", desc := "(Ljava/lang/String;)V", sig := { parameters := [(.object "java/lang/String")], returnType := none }, accessFlags := 1, code := some k9c1 }
/-- java/lang/Exception -/
def k9 : Class := { plain "java/lang/Exception" (some 8) with
  accessFlags := 33
  interfaces := #[]
  cf := some (fileOf pool9 19 #[] #[{ accessFlags := 1, nameIndex := 5, descriptorIndex := 6, attributes := #[] }, { accessFlags := 1, nameIndex := 5, descriptorIndex := 9, attributes := #[] }] 33 2 #[] #[{ accessFlags := 24, nameIndex := 21, descriptorIndex := 22, attributes := #[] }])
  fields := #[{ name := "serialVersionUID", type := .long, accessFlags := 24, slot := 0, constantValue := 0 }]
  methods := #[k9m0, k9m1]
  instanceTypes := #[(.object "java/lang/Object"), (.object "java/lang/String"), (.object "java/lang/Throwable"), (.array (.object "java/lang/StackTraceElement")), .int, (.object "java/util/List")]
  staticTypes := #[.long]
  resolved := Array.replicate 40 none
  statics := none }

def pool10 : Array CpInfo := pool [(1, .methodref 2 3), (0, .class_ 4), (0, .nameAndType 5 6), (0, u "java/lang/Exception"), (0, u "<init>"), (0, u "(Ljava/lang/String;)V"), (0, .fieldref 8 9), (0, .class_ 10), (0, .nameAndType 11 12), (0, u "com/example/fragsel/fragsel/FragselException"), (0, u "kind"), (0, u "Lcom/example/fragsel/fragsel/FragselException$Kind;"), (4, .methodref 8 18), (0, .nameAndType 5 19), (0, u "(Lcom/example/fragsel/fragsel/FragselException$Kind;Ljava/lang/String;)V"), (1, .class_ 23), (1, u "com/example/fragsel/fragsel/FragselException$Kind"), (4, .fieldref 21 29), (0, .nameAndType 30 12), (0, u "ENDPOINT"), (4, u "serialVersionUID"), (0, u "J"), (7, u "(Ljava/lang/String;)Lcom/example/fragsel/fragsel/FragselException;"), (1, u "endpoint"), (1, u "()Lcom/example/fragsel/fragsel/FragselException$Kind;")] 19

def k10c0 : Code := { maxStack := 2, maxLocals := 3, code := prog_5_method_1_code, exceptionTable := #[], attributes := #[] }
def k10m0 : Method := { name := "<init>", desc := "(Lcom/example/fragsel/fragsel/FragselException$Kind;Ljava/lang/String;)V", sig := { parameters := [(.object "com/example/fragsel/fragsel/FragselException$Kind"), (.object "java/lang/String")], returnType := none }, accessFlags := 2, code := some k10c0 }
def k10c1 : Code := { maxStack := 4, maxLocals := 1, code := prog_5_method_5_code, exceptionTable := #[], attributes := #[] }
def k10m1 : Method := { name := "endpoint", desc := "(Ljava/lang/String;)Lcom/example/fragsel/fragsel/FragselException;", sig := { parameters := [(.object "java/lang/String")], returnType := some (.object "com/example/fragsel/fragsel/FragselException") }, accessFlags := 8, code := some k10c1 }
def k10c2 : Code := { maxStack := 1, maxLocals := 1, code := prog_5_method_7_code, exceptionTable := #[], attributes := #[] }
def k10m2 : Method := { name := "kind", desc := "()Lcom/example/fragsel/fragsel/FragselException$Kind;", sig := { parameters := [], returnType := some (.object "com/example/fragsel/fragsel/FragselException$Kind") }, accessFlags := 1, code := some k10c2 }
/-- com/example/fragsel/fragsel/FragselException -/
def k10 : Class := { plain "com/example/fragsel/fragsel/FragselException" (some 9) with
  accessFlags := 33
  interfaces := #[]
  cf := some (fileOf pool10 8 #[.nestMembers #[21]] #[{ accessFlags := 2, nameIndex := 5, descriptorIndex := 19, attributes := #[] }, { accessFlags := 8, nameIndex := 46, descriptorIndex := 44, attributes := #[] }, { accessFlags := 1, nameIndex := 11, descriptorIndex := 48, attributes := #[] }] 33 2 #[] #[{ accessFlags := 26, nameIndex := 35, descriptorIndex := 36, attributes := #[] }, { accessFlags := 18, nameIndex := 11, descriptorIndex := 12, attributes := #[] }])
  fields := #[{ name := "serialVersionUID", type := .long, accessFlags := 26, slot := 0, constantValue := 0 }, { name := "kind", type := (.object "com/example/fragsel/fragsel/FragselException$Kind"), accessFlags := 18, slot := 6, constantValue := 0 }]
  methods := #[k10m0, k10m1, k10m2]
  instanceTypes := #[(.object "java/lang/Object"), (.object "java/lang/String"), (.object "java/lang/Throwable"), (.array (.object "java/lang/StackTraceElement")), .int, (.object "java/util/List"), (.object "com/example/fragsel/fragsel/FragselException$Kind")]
  staticTypes := #[.long]
  resolved := Array.replicate 68 none
  statics := none }

def pool11 : Array CpInfo := pool [(2, .class_ 4), (1, u "java/lang/Enum"), (0, u "name"), (0, u "Ljava/lang/String;"), (2, u "ordinal"), (0, u "I"), (1, .class_ 14), (1, u "java/lang/Object"), (4, u "hash"), (86, .class_ 108), (1, u "java/lang/Enum$EnumDesc"), (2, .class_ 112), (0, u "java/lang/constant/Constable"), (0, .class_ 114), (0, u "java/lang/Comparable"), (0, .class_ 116), (0, u "java/io/Serializable")] 87

/-- java/lang/Enum -/
def k11 : Class := { plain "java/lang/Enum" (some 0) with
  accessFlags := 1057
  interfaces := #[5, 3, 2]
  cf := some (fileOf pool11 2 #[.nestMembers #[106]] #[] 1057 12 #[111, 113, 115] #[{ accessFlags := 18, nameIndex := 5, descriptorIndex := 6, attributes := #[] }, { accessFlags := 18, nameIndex := 9, descriptorIndex := 10, attributes := #[] }, { accessFlags := 2, nameIndex := 19, descriptorIndex := 10, attributes := #[] }])
  fields := #[{ name := "name", type := (.object "java/lang/String"), accessFlags := 18, slot := 0, constantValue := 0 }, { name := "ordinal", type := .int, accessFlags := 18, slot := 1, constantValue := 0 }, { name := "hash", type := .int, accessFlags := 2, slot := 2, constantValue := 0 }]
  methods := #[]
  instanceTypes := #[(.object "java/lang/String"), .int, .int]
  staticTypes := #[]
  resolved := Array.replicate 204 none
  statics := none }

def pool12 : Array CpInfo := pool [(1, .class_ 2), (0, u "com/example/fragsel/fragsel/FragselException$Kind"), (2, u "USAGE"), (0, u "Lcom/example/fragsel/fragsel/FragselException$Kind;"), (2, u "INPUT"), (2, u "ENDPOINT"), (2, u "$VALUES"), (0, u "[Lcom/example/fragsel/fragsel/FragselException$Kind;"), (6, .class_ 25), (1, u "java/lang/Enum"), (26, .class_ 53), (0, u "com/example/fragsel/fragsel/FragselException")] 2

/-- com/example/fragsel/fragsel/FragselException$Kind -/
def k12 : Class := { plain "com/example/fragsel/fragsel/FragselException$Kind" (some 11) with
  accessFlags := 16433
  interfaces := #[]
  cf := some (fileOf pool12 1 #[.nestHost 52] #[] 16433 23 #[] #[{ accessFlags := 16409, nameIndex := 5, descriptorIndex := 6, attributes := #[] }, { accessFlags := 16409, nameIndex := 9, descriptorIndex := 6, attributes := #[] }, { accessFlags := 16409, nameIndex := 12, descriptorIndex := 6, attributes := #[] }, { accessFlags := 4122, nameIndex := 15, descriptorIndex := 16, attributes := #[] }])
  fields := #[{ name := "USAGE", type := (.object "com/example/fragsel/fragsel/FragselException$Kind"), accessFlags := 16409, slot := 0, constantValue := 0 }, { name := "INPUT", type := (.object "com/example/fragsel/fragsel/FragselException$Kind"), accessFlags := 16409, slot := 1, constantValue := 0 }, { name := "ENDPOINT", type := (.object "com/example/fragsel/fragsel/FragselException$Kind"), accessFlags := 16409, slot := 2, constantValue := 0 }, { name := "$VALUES", type := (.array (.object "com/example/fragsel/fragsel/FragselException$Kind")), accessFlags := 4122, slot := 3, constantValue := 0 }]
  methods := #[]
  instanceTypes := #[(.object "java/lang/String"), .int, .int]
  staticTypes := #[(.object "com/example/fragsel/fragsel/FragselException$Kind"), (.object "com/example/fragsel/fragsel/FragselException$Kind"), (.object "com/example/fragsel/fragsel/FragselException$Kind"), (.array (.object "com/example/fragsel/fragsel/FragselException$Kind"))]
  resolved := Array.replicate 56 none
  statics := some 2 }

def pool13 : Array CpInfo := pool [(6, .class_ 8), (1, u "java/lang/Object"), (0, u "<init>"), (0, u "()V"), (1, .class_ 14), (1, u "java/lang/StringUTF16"), (31, u "$assertionsDisabled"), (0, u "Z"), (13, u "HI_BYTE_SHIFT"), (0, u "I"), (2, u "LO_BYTE_SHIFT"), (49, .methodref 12 116), (0, .nameAndType 117 118), (0, u "compress"), (0, u "([CI[BII)I"), (3, u "([CII)[B"), (138, u "coderFromArrayLen"), (0, u "([BI)B"), (106, .class_ 371), (1, u "java/lang/StringUTF16$LinesSpliterator"), (58, u "MAX_LENGTH"), (196, .class_ 628), (0, u "java/lang/StringUTF16$CodePointsSpliterator"), (0, .class_ 630), (0, u "java/lang/StringUTF16$CharsSpliterator")] 4

def k13m0 : Method := { name := "<init>", desc := "()V", sig := { parameters := [], returnType := none }, accessFlags := 0, code := none }
def k13c1 : Code := { maxStack := 2, maxLocals := 2, code := jdk_52_method_15_code, exceptionTable := #[], attributes := #[] }
def k13m1 : Method := { name := "coderFromArrayLen", desc := "([BI)B", sig := { parameters := [(.array .byte), .int], returnType := some .byte }, accessFlags := 8, code := some k13c1 }
def k13c2 : Code := { maxStack := 5, maxLocals := 6, code := jdk_52_method_16_code, exceptionTable := #[], attributes := #[] }
def k13m2 : Method := { name := "compress", desc := "([CII)[B", sig := { parameters := [(.array .char), .int, .int], returnType := some (.array .byte) }, accessFlags := 9, code := some k13c2 }
def k13c3 : Code := { maxStack := 3, maxLocals := 7, code := jdk_52_method_21_code, exceptionTable := #[], attributes := #[] }
def k13m3 : Method := { name := "compress", desc := "([CI[BII)I", sig := { parameters := [(.array .char), .int, (.array .byte), .int, .int], returnType := some .int }, accessFlags := 9, code := some k13c3 }
/-- java/lang/StringUTF16 -/
def k13 : Class := { plain "java/lang/StringUTF16" (some 0) with
  accessFlags := 48
  interfaces := #[]
  cf := some (fileOf pool13 12 #[.nestMembers #[627, 629, 369]] #[{ accessFlags := 0, nameIndex := 9, descriptorIndex := 10, attributes := #[] }, { accessFlags := 8, nameIndex := 261, descriptorIndex := 262, attributes := #[] }, { accessFlags := 9, nameIndex := 117, descriptorIndex := 122, attributes := #[] }, { accessFlags := 9, nameIndex := 117, descriptorIndex := 118, attributes := #[] }] 48 6 #[] #[{ accessFlags := 26, nameIndex := 61, descriptorIndex := 62, attributes := #[] }, { accessFlags := 26, nameIndex := 65, descriptorIndex := 62, attributes := #[] }, { accessFlags := 24, nameIndex := 430, descriptorIndex := 62, attributes := #[] }, { accessFlags := 4120, nameIndex := 46, descriptorIndex := 47, attributes := #[] }])
  fields := #[{ name := "HI_BYTE_SHIFT", type := .int, accessFlags := 26, slot := 0, constantValue := 0 }, { name := "LO_BYTE_SHIFT", type := .int, accessFlags := 26, slot := 1, constantValue := 0 }, { name := "MAX_LENGTH", type := .int, accessFlags := 24, slot := 2, constantValue := 0 }, { name := "$assertionsDisabled", type := .boolean, accessFlags := 4120, slot := 3, constantValue := 0 }]
  methods := #[k13m0, k13m1, k13m2, k13m3]
  instanceTypes := #[]
  staticTypes := #[.int, .int, .int, .boolean]
  resolved := Array.replicate 635 none
  statics := none }

def pool14 : Array CpInfo := pool [(2, .class_ 4), (1, u "java/lang/Object"), (0, u "<init>"), (0, u "()V"), (12, .class_ 20), (0, u "java/util/Collections"), (63, u "r"), (0, u "Ljava/util/Random;"), (80, .class_ 167), (0, u "java/util/Collections$UnmodifiableCollection"), (6, .class_ 175), (0, u "java/util/Collections$UnmodifiableSequencedCollection"), (6, .class_ 183), (0, u "java/util/Collections$UnmodifiableSet"), (6, .class_ 191), (0, u "java/util/Collections$UnmodifiableSequencedSet"), (6, .class_ 199), (0, u "java/util/Collections$UnmodifiableSortedSet"), (6, .class_ 207), (0, u "java/util/Collections$UnmodifiableNavigableSet"), (4, .class_ 213), (0, u "java/util/Collections$UnmodifiableList"), (1, .class_ 216), (0, u "java/util/Collections$UnmodifiableRandomAccessList"), (6, .class_ 224), (0, u "java/util/Collections$UnmodifiableMap"), (6, .class_ 232), (0, u "java/util/Collections$UnmodifiableSequencedMap"), (4, .class_ 238), (0, u "java/util/Collections$UnmodifiableSortedMap"), (6, .class_ 246), (0, u "java/util/Collections$UnmodifiableNavigableMap"), (3, .class_ 251), (0, u "java/util/Collections$SynchronizedCollection"), (4, .class_ 257), (0, u "java/util/Collections$SynchronizedSet"), (4, .class_ 263), (0, u "java/util/Collections$SynchronizedSortedSet"), (1, .class_ 266), (0, u "java/util/Collections$SynchronizedNavigableSet"), (1, .class_ 269), (0, u "java/util/Collections$SynchronizedRandomAccessList"), (1, .class_ 272), (0, u "java/util/Collections$SynchronizedList"), (5, .class_ 279), (0, u "java/util/Collections$SynchronizedMap"), (1, .class_ 282), (0, u "java/util/Collections$SynchronizedSortedMap"), (1, .class_ 285), (0, u "java/util/Collections$SynchronizedNavigableMap"), (1, .class_ 288), (0, u "java/util/Collections$CheckedCollection"), (11, .class_ 301), (0, u "java/util/Collections$CheckedQueue"), (3, .class_ 306), (0, u "java/util/Collections$CheckedSet"), (3, .class_ 311), (0, u "java/util/Collections$CheckedSortedSet"), (3, .class_ 316), (0, u "java/util/Collections$CheckedNavigableSet"), (3, .class_ 321), (0, u "java/util/Collections$CheckedRandomAccessList"), (3, .class_ 326), (0, u "java/util/Collections$CheckedList"), (1, .class_ 329), (0, u "java/util/Collections$CheckedMap"), (3, .class_ 334), (0, u "java/util/Collections$CheckedSortedMap"), (3, .class_ 339), (0, u "java/util/Collections$CheckedNavigableMap"), (4, .class_ 346), (1, u "java/util/Collections$EmptyIterator"), (3, .class_ 352), (1, u "java/util/Collections$EmptyListIterator"), (2, .class_ 357), (1, u "java/util/Collections$EmptyEnumeration"), (4, u "EMPTY_SET"), (0, u "Ljava/util/Set;"), (6, u "EMPTY_LIST"), (0, u "Ljava/util/List;"), (2, u "EMPTY_MAP"), (0, u "Ljava/util/Map;"), (4, .class_ 381), (0, u "java/util/Collections$SingletonSet"), (2, .class_ 385), (0, u "java/util/Collections$1"), (1, .class_ 388), (0, u "java/util/Collections$2"), (1, .class_ 391), (0, u "java/util/Collections$SingletonList"), (1, .class_ 394), (0, u "java/util/Collections$SingletonMap"), (22, .class_ 418), (0, u "java/util/Collections$CopiesList"), (4, .class_ 425), (1, u "java/util/Collections$ReverseComparator"), (8, .class_ 435), (0, u "java/util/Collections$ReverseComparator2"), (6, .class_ 443), (0, u "java/util/Collections$3"), (25, .class_ 470), (0, u "java/util/Collections$SetFromMap"), (2, .class_ 474), (0, u "java/util/Collections$SequencedSetFromMap"), (3, .class_ 479), (0, u "java/util/Collections$AsLIFOQueue"), (11, .class_ 492), (0, u "java/util/Collections$EmptySet"), (1, .class_ 495), (0, u "java/util/Collections$EmptyList"), (1, .class_ 498), (0, u "java/util/Collections$EmptyMap"), (1, u "BINARYSEARCH_THRESHOLD"), (0, u "I"), (2, u "REVERSE_THRESHOLD"), (1, u "SHUFFLE_THRESHOLD"), (1, u "FILL_THRESHOLD"), (1, u "ROTATE_THRESHOLD"), (1, u "COPY_THRESHOLD"), (1, u "REPLACEALL_THRESHOLD"), (1, u "INDEXOFSUBLIST_THRESHOLD"), (333, .class_ 851), (0, u "java/util/Collections$CheckedMap$CheckedEntrySet"), (0, .class_ 853), (0, u "java/util/Collections$CheckedMap$CheckedEntrySet$CheckedEntry"), (0, .class_ 855), (0, u "java/util/Collections$CheckedMap$CheckedEntrySet$1"), (0, .class_ 857), (0, u "java/util/Collections$CheckedList$1"), (0, .class_ 859), (0, u "java/util/Collections$CheckedCollection$1"), (0, .class_ 861), (0, u "java/util/Collections$UnmodifiableNavigableMap$EmptyNavigableMap"), (0, .class_ 863), (0, u "java/util/Collections$UnmodifiableMap$UnmodifiableEntrySet"), (0, .class_ 865), (0, u "java/util/Collections$UnmodifiableMap$UnmodifiableEntrySet$UnmodifiableEntry"), (0, .class_ 867), (0, u "java/util/Collections$UnmodifiableMap$UnmodifiableEntrySet$UnmodifiableEntrySetSpliterator"), (0, .class_ 869), (0, u "java/util/Collections$UnmodifiableMap$UnmodifiableEntrySet$1"), (0, .class_ 871), (0, u "java/util/Collections$UnmodifiableList$1"), (0, .class_ 873), (0, u "java/util/Collections$UnmodifiableNavigableSet$EmptyNavigableSet"), (0, .class_ 875), (0, u "java/util/Collections$UnmodifiableCollection$1")] 57

def k14m0 : Method := { name := "<init>", desc := "()V", sig := { parameters := [], returnType := none }, accessFlags := 2, code := none }
/-- java/util/Collections -/
def k14 : Class := { plain "java/util/Collections" (some 0) with
  accessFlags := 33
  interfaces := #[]
  cf := some (fileOf pool14 19 #[.nestMembers #[478, 473, 469, 434, 423, 417, 393, 390, 380, 497, 494, 491, 355, 350, 344, 338, 333, 328, 850, 852, 854, 320, 325, 856, 315, 310, 305, 300, 287, 858, 284, 281, 278, 268, 271, 265, 262, 256, 250, 245, 860, 237, 231, 223, 862, 864, 866, 868, 215, 212, 870, 206, 872, 198, 190, 182, 174, 166, 874, 442, 387, 384]] #[{ accessFlags := 2, nameIndex := 5, descriptorIndex := 6, attributes := #[] }] 33 2 #[] #[{ accessFlags := 26, nameIndex := 500, descriptorIndex := 501, attributes := #[] }, { accessFlags := 26, nameIndex := 504, descriptorIndex := 501, attributes := #[] }, { accessFlags := 26, nameIndex := 506, descriptorIndex := 501, attributes := #[] }, { accessFlags := 26, nameIndex := 508, descriptorIndex := 501, attributes := #[] }, { accessFlags := 26, nameIndex := 510, descriptorIndex := 501, attributes := #[] }, { accessFlags := 26, nameIndex := 512, descriptorIndex := 501, attributes := #[] }, { accessFlags := 26, nameIndex := 514, descriptorIndex := 501, attributes := #[] }, { accessFlags := 26, nameIndex := 516, descriptorIndex := 501, attributes := #[] }, { accessFlags := 10, nameIndex := 84, descriptorIndex := 85, attributes := #[] }, { accessFlags := 25, nameIndex := 362, descriptorIndex := 363, attributes := #[] }, { accessFlags := 25, nameIndex := 370, descriptorIndex := 371, attributes := #[] }, { accessFlags := 25, nameIndex := 374, descriptorIndex := 375, attributes := #[] }])
  fields := #[{ name := "BINARYSEARCH_THRESHOLD", type := .int, accessFlags := 26, slot := 0, constantValue := 0 }, { name := "REVERSE_THRESHOLD", type := .int, accessFlags := 26, slot := 1, constantValue := 0 }, { name := "SHUFFLE_THRESHOLD", type := .int, accessFlags := 26, slot := 2, constantValue := 0 }, { name := "FILL_THRESHOLD", type := .int, accessFlags := 26, slot := 3, constantValue := 0 }, { name := "ROTATE_THRESHOLD", type := .int, accessFlags := 26, slot := 4, constantValue := 0 }, { name := "COPY_THRESHOLD", type := .int, accessFlags := 26, slot := 5, constantValue := 0 }, { name := "REPLACEALL_THRESHOLD", type := .int, accessFlags := 26, slot := 6, constantValue := 0 }, { name := "INDEXOFSUBLIST_THRESHOLD", type := .int, accessFlags := 26, slot := 7, constantValue := 0 }, { name := "r", type := (.object "java/util/Random"), accessFlags := 10, slot := 8, constantValue := 0 }, { name := "EMPTY_SET", type := (.object "java/util/Set"), accessFlags := 25, slot := 9, constantValue := 0 }, { name := "EMPTY_LIST", type := (.object "java/util/List"), accessFlags := 25, slot := 10, constantValue := 0 }, { name := "EMPTY_MAP", type := (.object "java/util/Map"), accessFlags := 25, slot := 11, constantValue := 0 }]
  methods := #[k14m0]
  instanceTypes := #[]
  staticTypes := #[.int, .int, .int, .int, .int, .int, .int, .int, (.object "java/util/Random"), (.object "java/util/Set"), (.object "java/util/List"), (.object "java/util/Map")]
  resolved := Array.replicate 933 none
  statics := some 3 }

def pool15 : Array CpInfo := pool [(4, .class_ 6), (1, u "java/lang/Object"), (0, u "<init>"), (0, u "()V"), (5, .class_ 16), (1, u "java/lang/StringLatin1"), (104, u "$assertionsDisabled"), (0, u "Z"), (98, .class_ 223), (1, u "java/lang/StringLatin1$LinesSpliterator"), (166, .class_ 391), (0, u "java/lang/StringLatin1$CharsSpliterator")] 3

def k15m0 : Method := { name := "<init>", desc := "()V", sig := { parameters := [], returnType := none }, accessFlags := 0, code := none }
/-- java/lang/StringLatin1 -/
def k15 : Class := { plain "java/lang/StringLatin1" (some 0) with
  accessFlags := 48
  interfaces := #[]
  cf := some (fileOf pool15 14 #[.nestMembers #[390, 221]] #[{ accessFlags := 0, nameIndex := 7, descriptorIndex := 8, attributes := #[] }] 48 4 #[] #[{ accessFlags := 4120, nameIndex := 121, descriptorIndex := 122, attributes := #[] }])
  fields := #[{ name := "$assertionsDisabled", type := .boolean, accessFlags := 4120, slot := 0, constantValue := 0 }]
  methods := #[k15m0]
  instanceTypes := #[]
  staticTypes := #[.boolean]
  resolved := Array.replicate 395 none
  statics := none }

def pool16 : Array CpInfo := pool [(2, .class_ 4), (1, u "java/lang/Object"), (0, u "<init>"), (0, u "()V"), (17, .class_ 26), (1, u "jdk/internal/util/Preconditions"), (28, .class_ 56), (0, u "jdk/internal/util/Preconditions$4"), (57, .class_ 115), (0, u "jdk/internal/util/Preconditions$1"), (7, u "SIOOBE_FORMATTER"), (0, u "Ljava/util/function/BiFunction;"), (0, .class_ 126), (0, u "jdk/internal/util/Preconditions$2"), (3, u "AIOOBE_FORMATTER"), (0, .class_ 132), (0, u "jdk/internal/util/Preconditions$3"), (3, u "IOOBE_FORMATTER")] 57

def k16m0 : Method := { name := "<init>", desc := "()V", sig := { parameters := [], returnType := none }, accessFlags := 1, code := none }
/-- jdk/internal/util/Preconditions -/
def k16 : Class := { plain "jdk/internal/util/Preconditions" (some 0) with
  accessFlags := 33
  interfaces := #[]
  cf := some (fileOf pool16 24 #[.nestMembers #[55, 131, 125, 114]] #[{ accessFlags := 1, nameIndex := 5, descriptorIndex := 6, attributes := #[] }] 33 2 #[] #[{ accessFlags := 25, nameIndex := 123, descriptorIndex := 124, attributes := #[] }, { accessFlags := 25, nameIndex := 130, descriptorIndex := 124, attributes := #[] }, { accessFlags := 25, nameIndex := 136, descriptorIndex := 124, attributes := #[] }])
  fields := #[{ name := "SIOOBE_FORMATTER", type := (.object "java/util/function/BiFunction"), accessFlags := 25, slot := 0, constantValue := 0 }, { name := "AIOOBE_FORMATTER", type := (.object "java/util/function/BiFunction"), accessFlags := 25, slot := 1, constantValue := 0 }, { name := "IOOBE_FORMATTER", type := (.object "java/util/function/BiFunction"), accessFlags := 25, slot := 2, constantValue := 0 }]
  methods := #[k16m0]
  instanceTypes := #[]
  staticTypes := #[(.object "java/util/function/BiFunction"), (.object "java/util/function/BiFunction"), (.object "java/util/function/BiFunction")]
  resolved := Array.replicate 194 none
  statics := some 4 }

def pool17 : Array CpInfo := pool [(9, u "<init>"), (6, .class_ 18), (1, u "java/lang/Object"), (0, u "()V"), (1, .class_ 23), (1, u "jdk/internal/util/ArraysSupport"), (0, u "LOG2_ARRAY_LONG_INDEX_SCALE"), (0, u "I"), (2, u "U"), (0, u "Ljdk/internal/misc/Unsafe;"), (8, u "BIG_ENDIAN"), (0, u "Z"), (8, u "LOG2_BYTE_BIT_SIZE"), (4, u "LOG2_ARRAY_INT_INDEX_SCALE"), (54, u "JLA"), (0, u "Ljdk/internal/access/JavaLangAccess;"), (11, u "LOG2_ARRAY_BOOLEAN_INDEX_SCALE"), (9, u "LOG2_ARRAY_BYTE_INDEX_SCALE"), (5, u "LOG2_ARRAY_CHAR_INDEX_SCALE"), (5, u "LOG2_ARRAY_SHORT_INDEX_SCALE"), (18, u "LOG2_ARRAY_FLOAT_INDEX_SCALE"), (24, u "LOG2_ARRAY_DOUBLE_INDEX_SCALE"), (89, u "T_BOOLEAN"), (2, u "T_CHAR"), (1, u "T_FLOAT"), (1, u "T_DOUBLE"), (1, u "T_BYTE"), (1, u "T_SHORT"), (1, u "T_INT"), (1, u "T_LONG"), (1, u "SOFT_MAX_ARRAY_LENGTH")] 83

def k17m0 : Method := { name := "<init>", desc := "()V", sig := { parameters := [], returnType := none }, accessFlags := 2, code := none }
/-- jdk/internal/util/ArraysSupport -/
def k17 : Class := { plain "jdk/internal/util/ArraysSupport" (some 0) with
  accessFlags := 33
  interfaces := #[]
  cf := some (fileOf pool17 21 #[] #[{ accessFlags := 2, nameIndex := 9, descriptorIndex := 19, attributes := #[] }] 33 16 #[] #[{ accessFlags := 24, nameIndex := 28, descriptorIndex := 29, attributes := #[] }, { accessFlags := 26, nameIndex := 38, descriptorIndex := 39, attributes := #[] }, { accessFlags := 25, nameIndex := 121, descriptorIndex := 25, attributes := #[] }, { accessFlags := 25, nameIndex := 131, descriptorIndex := 25, attributes := #[] }, { accessFlags := 25, nameIndex := 137, descriptorIndex := 25, attributes := #[] }, { accessFlags := 25, nameIndex := 143, descriptorIndex := 25, attributes := #[] }, { accessFlags := 25, nameIndex := 53, descriptorIndex := 25, attributes := #[] }, { accessFlags := 25, nameIndex := 24, descriptorIndex := 25, attributes := #[] }, { accessFlags := 25, nameIndex := 162, descriptorIndex := 25, attributes := #[] }, { accessFlags := 25, nameIndex := 187, descriptorIndex := 25, attributes := #[] }, { accessFlags := 26, nameIndex := 48, descriptorIndex := 25, attributes := #[] }, { accessFlags := 25, nameIndex := 277, descriptorIndex := 25, attributes := #[] }, { accessFlags := 25, nameIndex := 280, descriptorIndex := 25, attributes := #[] }, { accessFlags := 25, nameIndex := 282, descriptorIndex := 25, attributes := #[] }, { accessFlags := 25, nameIndex := 284, descriptorIndex := 25, attributes := #[] }, { accessFlags := 25, nameIndex := 286, descriptorIndex := 25, attributes := #[] }, { accessFlags := 25, nameIndex := 288, descriptorIndex := 25, attributes := #[] }, { accessFlags := 25, nameIndex := 290, descriptorIndex := 25, attributes := #[] }, { accessFlags := 25, nameIndex := 292, descriptorIndex := 25, attributes := #[] }, { accessFlags := 26, nameIndex := 108, descriptorIndex := 109, attributes := #[] }, { accessFlags := 25, nameIndex := 294, descriptorIndex := 25, attributes := #[] }])
  fields := #[{ name := "U", type := (.object "jdk/internal/misc/Unsafe"), accessFlags := 24, slot := 0, constantValue := 0 }, { name := "BIG_ENDIAN", type := .boolean, accessFlags := 26, slot := 1, constantValue := 0 }, { name := "LOG2_ARRAY_BOOLEAN_INDEX_SCALE", type := .int, accessFlags := 25, slot := 2, constantValue := 0 }, { name := "LOG2_ARRAY_BYTE_INDEX_SCALE", type := .int, accessFlags := 25, slot := 3, constantValue := 0 }, { name := "LOG2_ARRAY_CHAR_INDEX_SCALE", type := .int, accessFlags := 25, slot := 4, constantValue := 0 }, { name := "LOG2_ARRAY_SHORT_INDEX_SCALE", type := .int, accessFlags := 25, slot := 5, constantValue := 0 }, { name := "LOG2_ARRAY_INT_INDEX_SCALE", type := .int, accessFlags := 25, slot := 6, constantValue := 0 }, { name := "LOG2_ARRAY_LONG_INDEX_SCALE", type := .int, accessFlags := 25, slot := 7, constantValue := 0 }, { name := "LOG2_ARRAY_FLOAT_INDEX_SCALE", type := .int, accessFlags := 25, slot := 8, constantValue := 0 }, { name := "LOG2_ARRAY_DOUBLE_INDEX_SCALE", type := .int, accessFlags := 25, slot := 9, constantValue := 0 }, { name := "LOG2_BYTE_BIT_SIZE", type := .int, accessFlags := 26, slot := 10, constantValue := 0 }, { name := "T_BOOLEAN", type := .int, accessFlags := 25, slot := 11, constantValue := 0 }, { name := "T_CHAR", type := .int, accessFlags := 25, slot := 12, constantValue := 0 }, { name := "T_FLOAT", type := .int, accessFlags := 25, slot := 13, constantValue := 0 }, { name := "T_DOUBLE", type := .int, accessFlags := 25, slot := 14, constantValue := 0 }, { name := "T_BYTE", type := .int, accessFlags := 25, slot := 15, constantValue := 0 }, { name := "T_SHORT", type := .int, accessFlags := 25, slot := 16, constantValue := 0 }, { name := "T_INT", type := .int, accessFlags := 25, slot := 17, constantValue := 0 }, { name := "T_LONG", type := .int, accessFlags := 25, slot := 18, constantValue := 0 }, { name := "JLA", type := (.object "jdk/internal/access/JavaLangAccess"), accessFlags := 26, slot := 19, constantValue := 0 }, { name := "SOFT_MAX_ARRAY_LENGTH", type := .int, accessFlags := 25, slot := 20, constantValue := 0 }]
  methods := #[k17m0]
  instanceTypes := #[]
  staticTypes := #[(.object "jdk/internal/misc/Unsafe"), .boolean, .int, .int, .int, .int, .int, .int, .int, .int, .int, .int, .int, .int, .int, .int, .int, .int, .int, (.object "jdk/internal/access/JavaLangAccess"), .int]
  resolved := Array.replicate 378 none
  statics := none }

def pool18 : Array CpInfo := pool [(8, .class_ 10), (1, u "java/lang/Iterable"), (24, .class_ 36), (0, u "java/lang/Object")] 25

/-- java/lang/Iterable -/
def k18 : Class := { plain "java/lang/Iterable" (some 0) with
  accessFlags := 1537
  interfaces := #[]
  cf := some (fileOf pool18 8 #[] #[] 1537 35 #[] #[])
  fields := #[]
  methods := #[]
  instanceTypes := #[]
  staticTypes := #[]
  resolved := Array.replicate 62 none
  statics := none }

def pool19 : Array CpInfo := pool [(10, .class_ 12), (1, u "java/util/Collection"), (47, .class_ 61), (0, u "java/lang/Object"), (0, .class_ 63), (0, u "java/lang/Iterable")] 51

/-- java/util/Collection -/
def k19 : Class := { plain "java/util/Collection" (some 0) with
  accessFlags := 1537
  interfaces := #[18]
  cf := some (fileOf pool19 10 #[] #[] 1537 60 #[62] #[])
  fields := #[]
  methods := #[]
  instanceTypes := #[]
  staticTypes := #[]
  resolved := Array.replicate 115 none
  statics := none }

def pool20 : Array CpInfo := pool [(2, .class_ 4), (1, u "java/lang/Object"), (0, u "<init>"), (0, u "()V"), (1, .class_ 10), (1, u "java/util/AbstractCollection"), (66, .class_ 78), (0, u "java/util/Collection")] 81

def k20m0 : Method := { name := "<init>", desc := "()V", sig := { parameters := [], returnType := none }, accessFlags := 4, code := none }
/-- java/util/AbstractCollection -/
def k20 : Class := { plain "java/util/AbstractCollection" (some 0) with
  accessFlags := 1057
  interfaces := #[19]
  cf := some (fileOf pool20 8 #[] #[{ accessFlags := 4, nameIndex := 5, descriptorIndex := 6, attributes := #[] }] 1057 2 #[77] #[])
  fields := #[]
  methods := #[k20m0]
  instanceTypes := #[]
  staticTypes := #[]
  resolved := Array.replicate 160 none
  statics := none }

def pool21 : Array CpInfo := pool [(8, .class_ 10), (1, u "java/util/SequencedCollection"), (15, .class_ 27), (0, u "java/lang/Object"), (0, .class_ 29), (0, u "java/util/Collection")] 27

/-- java/util/SequencedCollection -/
def k21 : Class := { plain "java/util/SequencedCollection" (some 0) with
  accessFlags := 1537
  interfaces := #[19]
  cf := some (fileOf pool21 8 #[] #[] 1537 26 #[28] #[])
  fields := #[]
  methods := #[]
  instanceTypes := #[]
  staticTypes := #[]
  resolved := Array.replicate 57 none
  statics := none }

def pool22 : Array CpInfo := pool [(8, .class_ 10), (1, u "java/util/List"), (92, .class_ 104), (0, u "java/lang/Object"), (15, .class_ 121), (0, u "java/util/SequencedCollection")] 129

/-- java/util/List -/
def k22 : Class := { plain "java/util/List" (some 0) with
  accessFlags := 1537
  interfaces := #[21]
  cf := some (fileOf pool22 8 #[] #[] 1537 103 #[120] #[])
  fields := #[]
  methods := #[]
  instanceTypes := #[]
  staticTypes := #[]
  resolved := Array.replicate 251 none
  statics := none }

def pool23 : Array CpInfo := pool [(2, .class_ 4), (1, u "java/util/AbstractCollection"), (0, u "<init>"), (0, u "()V"), (1, .class_ 10), (1, u "java/util/AbstractList"), (0, u "modCount"), (0, u "I"), (64, .class_ 78), (0, u "java/util/AbstractList$Itr"), (3, .class_ 83), (0, u "java/util/AbstractList$ListItr"), (9, .class_ 94), (0, u "java/util/AbstractList$RandomAccessSubList"), (3, .class_ 99), (0, u "java/util/AbstractList$SubList"), (33, .class_ 134), (0, u "java/util/List"), (73, .class_ 209), (0, u "java/util/AbstractList$SubList$1"), (0, .class_ 211), (0, u "java/util/AbstractList$RandomAccessSpliterator")] 6

def k23m0 : Method := { name := "<init>", desc := "()V", sig := { parameters := [], returnType := none }, accessFlags := 4, code := none }
/-- java/util/AbstractList -/
def k23 : Class := { plain "java/util/AbstractList" (some 20) with
  accessFlags := 1057
  interfaces := #[22]
  cf := some (fileOf pool23 8 #[.nestMembers #[93, 98, 208, 210, 82, 77]] #[{ accessFlags := 4, nameIndex := 5, descriptorIndex := 6, attributes := #[] }] 1057 2 #[133] #[{ accessFlags := 132, nameIndex := 11, descriptorIndex := 12, attributes := #[] }])
  fields := #[{ name := "modCount", type := .int, accessFlags := 132, slot := 0, constantValue := 0 }]
  methods := #[k23m0]
  instanceTypes := #[.int]
  staticTypes := #[]
  resolved := Array.replicate 218 none
  statics := none }

def pool24 : Array CpInfo := pool [(1, .class_ 2), (0, u "java/util/RandomAccess"), (0, .class_ 4), (0, u "java/lang/Object")] 2

/-- java/util/RandomAccess -/
def k24 : Class := { plain "java/util/RandomAccess" (some 0) with
  accessFlags := 1537
  interfaces := #[]
  cf := some (fileOf pool24 1 #[] #[] 1537 3 #[] #[])
  fields := #[]
  methods := #[]
  instanceTypes := #[]
  staticTypes := #[]
  resolved := Array.replicate 7 none
  statics := none }

def pool25 : Array CpInfo := pool [(2, .class_ 4), (1, u "java/util/AbstractList"), (0, u "<init>"), (0, u "()V"), (1, .class_ 10), (1, u "java/util/Collections"), (54, .class_ 66), (0, u "java/util/Collections$EmptyList"), (0, .class_ 68), (0, u "java/util/RandomAccess"), (0, .class_ 70), (0, u "java/io/Serializable"), (0, u "serialVersionUID"), (0, u "J")] 77

def k25m0 : Method := { name := "<init>", desc := "()V", sig := { parameters := [], returnType := none }, accessFlags := 2, code := none }
/-- java/util/Collections$EmptyList -/
def k25 : Class := { plain "java/util/Collections$EmptyList" (some 23) with
  accessFlags := 32
  interfaces := #[24, 2]
  cf := some (fileOf pool25 65 #[.nestHost 8] #[{ accessFlags := 2, nameIndex := 5, descriptorIndex := 6, attributes := #[] }] 32 2 #[67, 69] #[{ accessFlags := 26, nameIndex := 71, descriptorIndex := 72, attributes := #[] }])
  fields := #[{ name := "serialVersionUID", type := .long, accessFlags := 26, slot := 0, constantValue := 0 }]
  methods := #[k25m0]
  instanceTypes := #[.int]
  staticTypes := #[.long]
  resolved := Array.replicate 150 none
  statics := none }

def pool26 : Array CpInfo := pool [(2, .class_ 4), (1, u "java/lang/StackTraceElement"), (0, u "<init>"), (2, .class_ 10), (1, u "java/lang/Object"), (0, u "()V"), (2, u "format"), (0, u "B"), (2, u "classLoaderName"), (0, u "Ljava/lang/String;"), (2, u "moduleName"), (2, u "moduleVersion"), (12, u "declaringClass"), (4, u "methodName"), (2, u "fileName"), (2, u "lineNumber"), (0, u "I"), (65, u "declaringClassObject"), (0, u "Ljava/lang/Class;"), (33, .class_ 153), (1, u "java/lang/StackTraceElement$HashedModules"), (17, .class_ 172), (0, u "java/io/Serializable"), (0, u "NATIVE_METHOD"), (1, u "UNKNOWN_SOURCE"), (2, u "BUILTIN_CLASS_LOADER"), (1, u "JDK_NON_UPGRADEABLE_MODULE"), (1, u "serialVersionUID"), (0, u "J")] 51

def k26m0 : Method := { name := "<init>", desc := "()V", sig := { parameters := [], returnType := none }, accessFlags := 2, code := none }
/-- java/lang/StackTraceElement -/
def k26 : Class := { plain "java/lang/StackTraceElement" (some 0) with
  accessFlags := 49
  interfaces := #[2]
  cf := some (fileOf pool26 2 #[.nestMembers #[151]] #[{ accessFlags := 2, nameIndex := 5, descriptorIndex := 11, attributes := #[] }] 49 8 #[171] #[{ accessFlags := 26, nameIndex := 173, descriptorIndex := 19, attributes := #[] }, { accessFlags := 26, nameIndex := 175, descriptorIndex := 19, attributes := #[] }, { accessFlags := 130, nameIndex := 116, descriptorIndex := 117, attributes := #[] }, { accessFlags := 2, nameIndex := 18, descriptorIndex := 19, attributes := #[] }, { accessFlags := 2, nameIndex := 22, descriptorIndex := 19, attributes := #[] }, { accessFlags := 2, nameIndex := 25, descriptorIndex := 19, attributes := #[] }, { accessFlags := 2, nameIndex := 38, descriptorIndex := 19, attributes := #[] }, { accessFlags := 2, nameIndex := 43, descriptorIndex := 19, attributes := #[] }, { accessFlags := 2, nameIndex := 46, descriptorIndex := 19, attributes := #[] }, { accessFlags := 2, nameIndex := 49, descriptorIndex := 50, attributes := #[] }, { accessFlags := 2, nameIndex := 14, descriptorIndex := 15, attributes := #[] }, { accessFlags := 26, nameIndex := 178, descriptorIndex := 15, attributes := #[] }, { accessFlags := 26, nameIndex := 180, descriptorIndex := 15, attributes := #[] }, { accessFlags := 26, nameIndex := 182, descriptorIndex := 183, attributes := #[] }])
  fields := #[{ name := "NATIVE_METHOD", type := (.object "java/lang/String"), accessFlags := 26, slot := 0, constantValue := 0 }, { name := "UNKNOWN_SOURCE", type := (.object "java/lang/String"), accessFlags := 26, slot := 1, constantValue := 0 }, { name := "declaringClassObject", type := (.object "java/lang/Class"), accessFlags := 130, slot := 0, constantValue := 0 }, { name := "classLoaderName", type := (.object "java/lang/String"), accessFlags := 2, slot := 1, constantValue := 0 }, { name := "moduleName", type := (.object "java/lang/String"), accessFlags := 2, slot := 2, constantValue := 0 }, { name := "moduleVersion", type := (.object "java/lang/String"), accessFlags := 2, slot := 3, constantValue := 0 }, { name := "declaringClass", type := (.object "java/lang/String"), accessFlags := 2, slot := 4, constantValue := 0 }, { name := "methodName", type := (.object "java/lang/String"), accessFlags := 2, slot := 5, constantValue := 0 }, { name := "fileName", type := (.object "java/lang/String"), accessFlags := 2, slot := 6, constantValue := 0 }, { name := "lineNumber", type := .int, accessFlags := 2, slot := 7, constantValue := 0 }, { name := "format", type := .byte, accessFlags := 2, slot := 8, constantValue := 0 }, { name := "BUILTIN_CLASS_LOADER", type := .byte, accessFlags := 26, slot := 2, constantValue := 0 }, { name := "JDK_NON_UPGRADEABLE_MODULE", type := .byte, accessFlags := 26, slot := 3, constantValue := 0 }, { name := "serialVersionUID", type := .long, accessFlags := 26, slot := 4, constantValue := 0 }]
  methods := #[k26m0]
  instanceTypes := #[(.object "java/lang/Class"), (.object "java/lang/String"), (.object "java/lang/String"), (.object "java/lang/String"), (.object "java/lang/String"), (.object "java/lang/String"), (.object "java/lang/String"), .int, .byte]
  staticTypes := #[(.object "java/lang/String"), (.object "java/lang/String"), .byte, .byte, .long]
  resolved := Array.replicate 235 none
  statics := none }

def pool27 : Array CpInfo := pool [(1, u "java/lang/Cloneable"), (0, .class_ 1), (0, u "java/lang/Object"), (0, .class_ 3)] 3

/-- java/lang/Cloneable -/
def k27 : Class := { plain "java/lang/Cloneable" (some 0) with
  accessFlags := 1537
  interfaces := #[]
  cf := some (fileOf pool27 2 #[] #[] 1537 4 #[] #[])
  fields := #[]
  methods := #[]
  instanceTypes := #[]
  staticTypes := #[]
  resolved := Array.replicate 8 none
  statics := none }

/-- the primitive byte -/
def k28 : Class := { plain "byte" none with kind := .primitive 'B', accessFlags := 0x411 }
/-- [B -/
def k29 : Class := { plain "[B" (some 0) with kind := .array 28 .byte, interfaces := #[27, 2], accessFlags := 1041 }

/-- the primitive char -/
def k30 : Class := { plain "char" none with kind := .primitive 'C', accessFlags := 0x411 }
/-- [C -/
def k31 : Class := { plain "[C" (some 0) with kind := .array 30 .char, interfaces := #[27, 2], accessFlags := 1041 }

/-- the primitive int -/
def k32 : Class := { plain "int" none with kind := .primitive 'I', accessFlags := 0x411 }
/-- [I -/
def k33 : Class := { plain "[I" (some 0) with kind := .array 32 .int, interfaces := #[27, 2], accessFlags := 1041 }

/-- [Ljava/lang/Object; -/
def k34 : Class := { plain "[Ljava/lang/Object;" (some 0) with kind := .array 0 (.object "java/lang/Object"), interfaces := #[27, 2], accessFlags := 1041 }

/-- [Ljava/lang/StackTraceElement; -/
def k35 : Class := { plain "[Ljava/lang/StackTraceElement;" (some 0) with kind := .array 26 (.object "java/lang/StackTraceElement"), interfaces := #[27, 2], accessFlags := 1041 }

/-- [Ljava/lang/Throwable; -/
def k36 : Class := { plain "[Ljava/lang/Throwable;" (some 0) with kind := .array 8 (.object "java/lang/Throwable"), interfaces := #[27, 2], accessFlags := 1041 }

def heap : Heap := #[{ cls := 7, slots := #[.long 0, .int 1, .null, .int 0, .null, .int 0, .int 0], vm := .statics 7 },
  { cls := 8, slots := #[.long 0, .ref 6, .ref 7, .null, .null, .null, .null, .ref 8, .int 1], vm := .statics 8 },
  { cls := 12, slots := #[.null, .null, .ref 5, .null], vm := .statics 12 },
  { cls := 14, slots := #[.int 0, .int 0, .int 0, .int 0, .int 0, .int 0, .int 0, .int 0, .null, .null, .ref 7, .null], vm := .statics 14 },
  { cls := 16, slots := #[.null, .null, .null], vm := .statics 16 },
  { cls := 12, slots := #[.null, .int 1, .int 0], vm := .none },
  { cls := 35, slots := #[], vm := .none },
  { cls := 25, slots := #[.int 0], vm := .none },
  { cls := 36, slots := #[], vm := .none }]
def classes : Array Class := #[k0, k1, k2, k3, k4, k5, k6, k7, k8, k9, k10, k11, k12, k13, k14, k15, k16, k17, k18, k19, k20, k21, k22, k23, k24, k25, k26, k27, k28, k29, k30, k31, k32, k33, k34, k35, k36]
def interned : List (Array UInt16 × Addr) := []
def slotsUsed : Nat := 39
def theMethod : MethodId := ⟨1, 2⟩
def args0 : Array Value := #[.int 5, .int 6, .int 7, .int 2]
def aboutOver (below : List Frame) : State where
  vm := { classes := classes, interned := interned.toArray }
  heap := heap
  slotsUsed := slotsUsed
  threads := #[{ frames := .invoking theMethod args0 :: below }]
def below0 : List Frame := [.native { method := ⟨0, 0⟩, args := #[] }]
def about1 : State := aboutOver below0
def p0 : Program := .bare "" "" ""
def e0 : Env := launch0.env 0 0 0
theorem w_frames : about1.frames = Frame.invoking theMethod args0 :: below0 := rfl
set_option maxRecDepth 65536 in
theorem w_args : argsFit about1.vm theMethod args0 = true := by decide +kernel
set_option maxRecDepth 65536 in
theorem w_heap : heapFits about1 = true := by decide +kernel
set_option maxRecDepth 65536 in
theorem w_runnable : about1.curStatus? = some .runnable := by decide +kernel
set_option maxRecDepth 65536 in
theorem w_alone : about1.alone = true := by decide +kernel
set_option maxRecDepth 65536 in
theorem w_named : about1.methodNamed? x = some theMethod := by decide +kernel
set_option maxRecDepth 65536 in
theorem w_hears : about1.hears theMethod below0 = true := by decide +kernel
set_option maxRecDepth 65536 in
theorem w_ripe : about1.ripe theMethod args0 below0 = true := by decide +kernel
theorem w_running : about1.status = .running := rfl
set_option maxRecDepth 65536 in
theorem w_room : about1.hasRoom e0.platform room_1 = true :=
  launch0.hasRoom_least _ room_1 (by decide +kernel) (by decide +kernel) (by decide +kernel) (by decide +kernel) (by decide +kernel) (by decide +kernel)
theorem allAtoms_all (ts : List Jvm.Cond) (a : Array Jvm.Value) (st : Jvm.State) : (allAtoms ts).before a st = ts.all (fun c => c.before a st) := by
  induction ts with
  | nil => rfl
  | cons c t ih =>
    show (Jvm.Cond.and c (allAtoms t)).before a st = _
    rw [Jvm.Cond.before_and, ih, List.all_cons]
def words1 : List Jvm.Cond := Jvm.Cond.code x code maxLocals ret :: tables_1
/-- a 'code' word, met by the world's own term for the bytes: nothing is compared byte by byte -/
theorem code_word {y : MethodName} {bytes : ByteArray} {mx : Nat} {rt : Option FieldType} {a : Array Value} {s : State} {m : MethodId} {meth : Method} {c : Code} (h1 : s.methodNamed? y = some m) (h2 : s.vm.method? m = some meth) (h3 : meth.code = some c) (h4 : c.code = bytes)
    (h5 : (c.maxLocals == mx && c.exceptionTable.isEmpty && decide (c.maxStack ≤ mostOperands) && decide (meth.sig.returnType = rt) && !meth.locks && decide (parseMethodDescriptor y.desc = some meth.sig)) = true) : (Jvm.Cond.code y bytes mx rt).before a s = true := by
  simp only [Bool.and_eq_true, beq_iff_eq, Bool.not_eq_true', decide_eq_true_eq] at h5
  obtain ⟨⟨⟨⟨⟨g1, g2⟩, g3⟩, g4⟩, g5⟩, g6⟩ := h5
  simp [Cond.before, Cond.holds, Cond.value, h1, h2, h3, h4, g1, g2, g3, g4, g5, g6]
def isCode : Jvm.Cond → Bool
  | .code _ _ _ _ => true
  | _ => false
theorem all_split {L : List Jvm.Cond} {P : Jvm.Cond → Bool} (h1 : L.all (fun c => isCode c || P c) = true) (h2 : ∀ c ∈ L.filter isCode, P c = true) : L.all P = true := by
  refine List.all_eq_true.mpr fun c hc => ?_
  have h := List.all_eq_true.mp h1 c hc
  rcases Bool.eq_false_or_eq_true (isCode c) with hi | hi
  · exact h2 c (List.mem_filter.mpr ⟨hc, hi⟩)
  · simpa [hi] using h
set_option maxRecDepth 65536 in
theorem w_c0 : (Jvm.Cond.code x code maxLocals ret).before args0 about1 = true := code_word (m := ⟨1, 2⟩) (meth := k1m2) (c := k1c2) (by decide +kernel) rfl rfl rfl (by decide +kernel)
set_option maxRecDepth 65536 in
theorem w_c1 : (Jvm.Cond.code ({ cls := "com/example/fragsel/fragsel/FragselExceptionEndpointPinLaw", name := "draw", desc := "(IIII)Ljava/lang/String;" } : Jvm.MethodName) method_2_code (7 : Nat) (Option.some (Jvm.ClassFile.FieldType.object "java/lang/String"))).before args0 about1 = true := code_word (m := ⟨1, 1⟩) (meth := k1m1) (c := k1c1) (by decide +kernel) rfl rfl rfl (by decide +kernel)
set_option maxRecDepth 65536 in
theorem w_c2 : (Jvm.Cond.code ({ cls := "java/lang/String", name := "<init>", desc := "([C)V" } : Jvm.MethodName) jdk_42_method_3_code (2 : Nat) (Option.none : Option Jvm.ClassFile.FieldType)).before args0 about1 = true := code_word (m := ⟨7, 1⟩) (meth := k7m1) (c := k7c1) (by decide +kernel) rfl rfl rfl (by decide +kernel)
set_option maxRecDepth 65536 in
theorem w_c3 : (Jvm.Cond.code ({ cls := "java/lang/String", name := "<init>", desc := "([CIILjava/lang/Void;)V" } : Jvm.MethodName) jdk_42_method_149_code (6 : Nat) (Option.none : Option Jvm.ClassFile.FieldType)).before args0 about1 = true := code_word (m := ⟨7, 3⟩) (meth := k7m3) (c := k7c3) (by decide +kernel) rfl rfl rfl (by decide +kernel)
set_option maxRecDepth 65536 in
theorem w_c4 : (Jvm.Cond.code ({ cls := "java/lang/Object", name := "<init>", desc := "()V" } : Jvm.MethodName) object_method_1_code (1 : Nat) (Option.none : Option Jvm.ClassFile.FieldType)).before args0 about1 = true := code_word (m := ⟨0, 0⟩) (meth := k0m0) (c := k0c0) (by decide +kernel) rfl rfl rfl (by decide +kernel)
set_option maxRecDepth 65536 in
theorem w_c5 : (Jvm.Cond.code ({ cls := "com/example/fragsel/fragsel/FragselException", name := "endpoint", desc := "(Ljava/lang/String;)Lcom/example/fragsel/fragsel/FragselException;" } : Jvm.MethodName) prog_5_method_5_code (1 : Nat) (Option.some (Jvm.ClassFile.FieldType.object "com/example/fragsel/fragsel/FragselException"))).before args0 about1 = true := code_word (m := ⟨10, 1⟩) (meth := k10m1) (c := k10c1) (by decide +kernel) rfl rfl rfl (by decide +kernel)
set_option maxRecDepth 65536 in
theorem w_c6 : (Jvm.Cond.code ({ cls := "com/example/fragsel/fragsel/FragselException", name := "<init>", desc := "(Lcom/example/fragsel/fragsel/FragselException$Kind;Ljava/lang/String;)V" } : Jvm.MethodName) prog_5_method_1_code (3 : Nat) (Option.none : Option Jvm.ClassFile.FieldType)).before args0 about1 = true := code_word (m := ⟨10, 0⟩) (meth := k10m0) (c := k10c0) (by decide +kernel) rfl rfl rfl (by decide +kernel)
set_option maxRecDepth 65536 in
theorem w_c7 : (Jvm.Cond.code ({ cls := "java/lang/Exception", name := "<init>", desc := "(Ljava/lang/String;)V" } : Jvm.MethodName) jdk_59_method_2_code (2 : Nat) (Option.none : Option Jvm.ClassFile.FieldType)).before args0 about1 = true := code_word (m := ⟨9, 1⟩) (meth := k9m1) (c := k9c1) (by decide +kernel) rfl rfl rfl (by decide +kernel)
set_option maxRecDepth 65536 in
theorem w_c8 : (Jvm.Cond.code ({ cls := "java/lang/Throwable", name := "<init>", desc := "(Ljava/lang/String;)V" } : Jvm.MethodName) jdk_78_method_2_code (2 : Nat) (Option.none : Option Jvm.ClassFile.FieldType)).before args0 about1 = true := code_word (m := ⟨8, 1⟩) (meth := k8m1) (c := k8c1) (by decide +kernel) rfl rfl rfl (by decide +kernel)
set_option maxRecDepth 65536 in
theorem w_c9 : (Jvm.Cond.code ({ cls := "java/lang/Throwable", name := "<init>", desc := "()V" } : Jvm.MethodName) jdk_78_method_1_code (1 : Nat) (Option.none : Option Jvm.ClassFile.FieldType)).before args0 about1 = true := code_word (m := ⟨8, 0⟩) (meth := k8m0) (c := k8c0) (by decide +kernel) rfl rfl rfl (by decide +kernel)
set_option maxRecDepth 65536 in
theorem w_c10 : (Jvm.Cond.code ({ cls := "com/example/fragsel/fragsel/FragselException", name := "kind", desc := "()Lcom/example/fragsel/fragsel/FragselException$Kind;" } : Jvm.MethodName) prog_5_method_7_code (1 : Nat) (Option.some (Jvm.ClassFile.FieldType.object "com/example/fragsel/fragsel/FragselException$Kind"))).before args0 about1 = true := code_word (m := ⟨10, 2⟩) (meth := k10m2) (c := k10c2) (by decide +kernel) rfl rfl rfl (by decide +kernel)
set_option maxRecDepth 65536 in
theorem w_c11 : (Jvm.Cond.code ({ cls := "java/lang/Throwable", name := "getMessage", desc := "()Ljava/lang/String;" } : Jvm.MethodName) jdk_78_method_6_code (1 : Nat) (Option.some (Jvm.ClassFile.FieldType.object "java/lang/String"))).before args0 about1 = true := code_word (m := ⟨8, 2⟩) (meth := k8m2) (c := k8c2) (by decide +kernel) rfl rfl rfl (by decide +kernel)
set_option maxRecDepth 65536 in
theorem w_c12 : (Jvm.Cond.code ({ cls := "java/lang/String", name := "equals", desc := "(Ljava/lang/Object;)Z" } : Jvm.MethodName) jdk_42_method_66_code (3 : Nat) (Option.some Jvm.ClassFile.FieldType.boolean)).before args0 about1 = true := code_word (m := ⟨7, 2⟩) (meth := k7m2) (c := k7c2) (by decide +kernel) rfl rfl rfl (by decide +kernel)
set_option maxRecDepth 65536 in
theorem w_c13 : (Jvm.Cond.code ({ cls := "java/lang/StringUTF16", name := "compress", desc := "([CII)[B" } : Jvm.MethodName) jdk_52_method_16_code (6 : Nat) (Option.some (Jvm.ClassFile.FieldType.array Jvm.ClassFile.FieldType.byte))).before args0 about1 = true := code_word (m := ⟨13, 2⟩) (meth := k13m2) (c := k13c2) (by decide +kernel) rfl rfl rfl (by decide +kernel)
set_option maxRecDepth 65536 in
theorem w_c14 : (Jvm.Cond.code ({ cls := "java/lang/StringUTF16", name := "compress", desc := "([CI[BII)I" } : Jvm.MethodName) jdk_52_method_21_code (7 : Nat) (Option.some Jvm.ClassFile.FieldType.int)).before args0 about1 = true := code_word (m := ⟨13, 3⟩) (meth := k13m3) (c := k13c3) (by decide +kernel) rfl rfl rfl (by decide +kernel)
set_option maxRecDepth 65536 in
theorem w_c15 : (Jvm.Cond.code ({ cls := "java/lang/StringUTF16", name := "coderFromArrayLen", desc := "([BI)B" } : Jvm.MethodName) jdk_52_method_15_code (2 : Nat) (Option.some Jvm.ClassFile.FieldType.byte)).before args0 about1 = true := code_word (m := ⟨13, 1⟩) (meth := k13m1) (c := k13c1) (by decide +kernel) rfl rfl rfl (by decide +kernel)
def codes1 : List Jvm.Cond := [Jvm.Cond.code x code maxLocals ret, Jvm.Cond.code ({ cls := "com/example/fragsel/fragsel/FragselExceptionEndpointPinLaw", name := "draw", desc := "(IIII)Ljava/lang/String;" } : Jvm.MethodName) method_2_code (7 : Nat) (Option.some (Jvm.ClassFile.FieldType.object "java/lang/String")), Jvm.Cond.code ({ cls := "java/lang/String", name := "<init>", desc := "([C)V" } : Jvm.MethodName) jdk_42_method_3_code (2 : Nat) (Option.none : Option Jvm.ClassFile.FieldType), Jvm.Cond.code ({ cls := "java/lang/String", name := "<init>", desc := "([CIILjava/lang/Void;)V" } : Jvm.MethodName) jdk_42_method_149_code (6 : Nat) (Option.none : Option Jvm.ClassFile.FieldType), Jvm.Cond.code ({ cls := "java/lang/Object", name := "<init>", desc := "()V" } : Jvm.MethodName) object_method_1_code (1 : Nat) (Option.none : Option Jvm.ClassFile.FieldType), Jvm.Cond.code ({ cls := "com/example/fragsel/fragsel/FragselException", name := "endpoint", desc := "(Ljava/lang/String;)Lcom/example/fragsel/fragsel/FragselException;" } : Jvm.MethodName) prog_5_method_5_code (1 : Nat) (Option.some (Jvm.ClassFile.FieldType.object "com/example/fragsel/fragsel/FragselException")), Jvm.Cond.code ({ cls := "com/example/fragsel/fragsel/FragselException", name := "<init>", desc := "(Lcom/example/fragsel/fragsel/FragselException$Kind;Ljava/lang/String;)V" } : Jvm.MethodName) prog_5_method_1_code (3 : Nat) (Option.none : Option Jvm.ClassFile.FieldType), Jvm.Cond.code ({ cls := "java/lang/Exception", name := "<init>", desc := "(Ljava/lang/String;)V" } : Jvm.MethodName) jdk_59_method_2_code (2 : Nat) (Option.none : Option Jvm.ClassFile.FieldType), Jvm.Cond.code ({ cls := "java/lang/Throwable", name := "<init>", desc := "(Ljava/lang/String;)V" } : Jvm.MethodName) jdk_78_method_2_code (2 : Nat) (Option.none : Option Jvm.ClassFile.FieldType), Jvm.Cond.code ({ cls := "java/lang/Throwable", name := "<init>", desc := "()V" } : Jvm.MethodName) jdk_78_method_1_code (1 : Nat) (Option.none : Option Jvm.ClassFile.FieldType), Jvm.Cond.code ({ cls := "com/example/fragsel/fragsel/FragselException", name := "kind", desc := "()Lcom/example/fragsel/fragsel/FragselException$Kind;" } : Jvm.MethodName) prog_5_method_7_code (1 : Nat) (Option.some (Jvm.ClassFile.FieldType.object "com/example/fragsel/fragsel/FragselException$Kind")), Jvm.Cond.code ({ cls := "java/lang/Throwable", name := "getMessage", desc := "()Ljava/lang/String;" } : Jvm.MethodName) jdk_78_method_6_code (1 : Nat) (Option.some (Jvm.ClassFile.FieldType.object "java/lang/String")), Jvm.Cond.code ({ cls := "java/lang/String", name := "equals", desc := "(Ljava/lang/Object;)Z" } : Jvm.MethodName) jdk_42_method_66_code (3 : Nat) (Option.some Jvm.ClassFile.FieldType.boolean), Jvm.Cond.code ({ cls := "java/lang/StringUTF16", name := "compress", desc := "([CII)[B" } : Jvm.MethodName) jdk_52_method_16_code (6 : Nat) (Option.some (Jvm.ClassFile.FieldType.array Jvm.ClassFile.FieldType.byte)), Jvm.Cond.code ({ cls := "java/lang/StringUTF16", name := "compress", desc := "([CI[BII)I" } : Jvm.MethodName) jdk_52_method_21_code (7 : Nat) (Option.some Jvm.ClassFile.FieldType.int), Jvm.Cond.code ({ cls := "java/lang/StringUTF16", name := "coderFromArrayLen", desc := "([BI)B" } : Jvm.MethodName) jdk_52_method_15_code (2 : Nat) (Option.some Jvm.ClassFile.FieldType.byte)]
set_option maxRecDepth 65536 in
theorem codes_eq : words1.filter isCode = codes1 := rfl
theorem w_codes : ∀ c ∈ words1.filter isCode, c.before args0 about1 = true := by
  rw [codes_eq]
  intro c hc
  simp only [codes1, List.mem_cons, List.not_mem_nil, or_false] at hc
  rcases hc with rfl | rfl | rfl | rfl | rfl | rfl | rfl | rfl | rfl | rfl | rfl | rfl | rfl | rfl | rfl | rfl
  · exact w_c0
  · exact w_c1
  · exact w_c2
  · exact w_c3
  · exact w_c4
  · exact w_c5
  · exact w_c6
  · exact w_c7
  · exact w_c8
  · exact w_c9
  · exact w_c10
  · exact w_c11
  · exact w_c12
  · exact w_c13
  · exact w_c14
  · exact w_c15
set_option maxRecDepth 65536 in
theorem w_t1 : (words1.take 24).all (fun c => isCode c || c.before args0 about1) = true := by decide +kernel
set_option maxRecDepth 65536 in
theorem w_t2 : ((words1.drop 24).take 24).all (fun c => isCode c || c.before args0 about1) = true := by decide +kernel
set_option maxRecDepth 65536 in
theorem w_t3 : (((words1.drop 24).drop 24).take 24).all (fun c => isCode c || c.before args0 about1) = true := by decide +kernel
set_option maxRecDepth 65536 in
theorem w_t4 : ((((words1.drop 24).drop 24).drop 24).take 24).all (fun c => isCode c || c.before args0 about1) = true := by decide +kernel
set_option maxRecDepth 65536 in
theorem w_t5 : ((((words1.drop 24).drop 24).drop 24).drop 24).all (fun c => isCode c || c.before args0 about1) = true := by decide +kernel
theorem w_tables : (allAtoms (Jvm.Cond.code x code maxLocals ret :: tables_1)).before args0 about1 = true := by
  rw [allAtoms_all]
  show words1.all (fun c => c.before args0 about1) = true
  refine all_split ?_ w_codes
  rw [← List.take_append_drop 24 words1, List.all_append, w_t1, ← List.take_append_drop 24 (words1.drop 24), List.all_append, w_t2, ← List.take_append_drop 24 ((words1.drop 24).drop 24), List.all_append, w_t3, ← List.take_append_drop 24 (((words1.drop 24).drop 24).drop 24), List.all_append, w_t4, w_t5]
  rfl
set_option maxRecDepth 65536 in
theorem w_rest : rest_1_c.before args0 about1 = true := by decide +kernel
set_option maxRecDepth 65536 in
theorem w_case : (Jvm.Cond.and given_1 narrow_1).before args0 about1 = true := by decide +kernel
set_option maxRecDepth 65536 in
theorem w_consts : constsHeld consts_1 about1 := Jvm.Lit.constsHeldB_iff.mp (by decide +kernel)
theorem w_applies : (headSpec (Jvm.Cond.code x code maxLocals ret :: tables_1) room_1).applies x e0.platform about1 = true :=
  (Spec.applies_iff w_frames).mpr ⟨w_running, w_runnable, w_alone, w_named, w_hears, w_ripe, w_room, w_tables⟩
theorem atStart : AtStart classFile x code maxLocals ret World_1 tables_1 room_1 Calls_1 rest_1 Pre_1 launch0 p0 e0 about1 theMethod args0 below0 :=
  ⟨lists_1, trivial, launch0.admits_env _ _ _, launch0.least_env, fairChoices_fair.cas, fairChoices_fair.clock, w_frames, w_args, w_heap, w_applies, ⟨(by decide +kernel : framesKnown about1 = true), ⟨(by decide +kernel : tablesKnown about1 = true), ⟨w_consts, trivial⟩⟩⟩, w_rest, w_case⟩
end start1
theorem witness_1 : WitnessClaimed_1 := ⟨start1.p0, start1.e0, start1.about1, start1.theMethod, start1.args0, start1.below0, start1.atStart⟩
end Jvm.Pilot.@@N@@
