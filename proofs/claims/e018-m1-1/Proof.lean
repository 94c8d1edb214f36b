import JvmDerived
import JvmDerived.Pilot.@@N@@Statement
import JvmDerived.Pilot.@@N@@Code
set_option linter.unusedVariables false
set_option linter.unusedSimpArgs false
namespace Jvm.RoadKit
open Sem ClassFile Op Lib Jvm.Stand Jvm.Free Jvm.LawKit
section New
variable {p : Program} {l : Launch} {e : Env} {R : Room} {s : State} {m : MethodId} {args : Array Value} {below : List Frame} {meth : Method} {c : Code} {T : State} {locs : List Loc} {cells slots : Nat}
theorem retI (X : Stand p l e R s m args below meth c T locs cells slots) (hx : p.tables.exec = Jvm.exec) {pc : Nat} {Ls : Array Slot} {z : Int32} {rest : List Value} (hret : meth.sig.returnType = some .int) (hd : decode c.code pc = .ok (.ireturn, 1)) {fs : List Frame}
    (hl : ∀ (f : JFrame) (acts : List Action), f.method = m → f.locked = none → f.entered = [] → (doReturn e (T.setTop f) acts (some (.int z))).1 = T.setFrames fs) : Steps p.tables e below (T.setTop (mkF m pc Ls (.int z :: rest))) (T.setFrames fs) := by
  have hm' : T.vm.method? m = some meth := X.method'
  have hn : narrow .int (.int z) = .int z := rfl
  show Steps p.tables e below (T.setTop { method := m, pc := pc, locals := Ls, stack := _ :: rest, locked := none }) _
  jvm_step X.here [X.here.top, hx, hd, hm', hret, hn]
  first | (intro acts; rw [hl _ acts rfl rfl rfl]) | rw [hl _ _ rfl rfl rfl]
  exact Steps.refl _
end New
end Jvm.RoadKit
namespace Jvm.Pilot.@@N@@
open Jvm Jvm.ClassFile Sem Op Lib Jvm.Free Jvm.Stand Jvm.LawKit Jvm.RoadKit Bundle Jvm.Pilot.@@N@@.Jvm.D
/-! THE WALK IN SHORT: where a walk stands (St), what is fixed about the body (Cx), that a run from a frame comes to an end that says P (Con); a straight run of plain instructions in one row (own_run). -/
section OwnKit
def St (p : Program) (l : Launch) (e : Env) (R : Room) (s : State) (m : MethodId) (args : Array Value) (below : List Frame) (meth : Method) (c : Code) (n0 : Nat) (T : State) (h : Heap) (cells slots : Nat) : Prop :=
  ∃ locs, Stand p l e R s m args below meth c T locs cells slots ∧ T.heap = h ∧ Fr n0 locs ∧ n0 ≤ h.size
def Cx (p : Program) (s Z : State) (m : MethodId) (meth : Method) (c : Code) (bytes : ByteArray) (own : String) (maxL : Nat) (ret : Option FieldType) (nm : String) : Prop :=
  p.tables.exec = Jvm.exec ∧ Z.Warmed39 s.vm ∧ c.code = bytes ∧ s.vm.findClass own = some m.cls ∧ c.maxLocals = maxL ∧ meth.sig.returnType = ret ∧ meth.locks = false ∧ meth.name = nm
def Con (p : Program) (e : Env) (below : List Frame) (T : State) (g : JFrame) (P : State → Outcome → Prop) : Prop :=
  ∃ t o, Steps p.tables e below (T.setTop g) t ∧ t.status = .running ∧ Ended t below o ∧ P t o
def ilen : Instr → Nat
  | .iload _ => 2 | .aload _ => 2 | .istore _ => 2 | .astore _ => 2 | .bipush _ => 2 | .lload _ => 2 | .lstore _ => 2
  | .sipush _ => 3 | .iinc _ _ => 3 | .goto _ => 3
  | _ => 1
def pstep (i : Instr) (pc : Nat) (Ls : Array Slot) (st : List Value) : Option (Nat × Array Slot × List Value) :=
  match i with
  | .iload_n k => match Ls[k.val]? with | some (.val (.int v)) => some (pc + 1, Ls, .int v :: st) | _ => none
  | .iload k => match Ls[k]? with | some (.val (.int v)) => some (pc + 2, Ls, .int v :: st) | _ => none
  | .aload_n k => match Ls[k.val]? with | some (.val v) => if v.isRef = true then some (pc + 1, Ls, v :: st) else none | _ => none
  | .aload k => match Ls[k]? with | some (.val v) => if v.isRef = true then some (pc + 2, Ls, v :: st) else none | _ => none
  | .lload k => match Ls[k]? with | some (.val (.long v)) => some (pc + 2, Ls, .long v :: st) | _ => none
  | .istore_n k => match st with | .int x :: r => (match storeLocals Ls k.val (.int x) with | some L => some (pc + 1, L, r) | none => none) | _ => none
  | .istore k => match st with | .int x :: r => (match storeLocals Ls k (.int x) with | some L => some (pc + 2, L, r) | none => none) | _ => none
  | .astore_n k => match st with | x :: r => (if x.isRef = true then (match storeLocals Ls k.val x with | some L => some (pc + 1, L, r) | none => none) else none) | _ => none
  | .astore k => match st with | x :: r => (if x.isRef = true then (match storeLocals Ls k x with | some L => some (pc + 2, L, r) | none => none) else none) | _ => none
  | .lstore k => match st with | .long x :: r => (match storeLocals Ls k (.long x) with | some L => some (pc + 2, L, r) | none => none) | _ => none
  | .iconst i => some (pc + 1, Ls, .int (Int32.ofInt i) :: st)
  | .lconst k => some (pc + 1, Ls, .long (Int64.ofNat k) :: st)
  | .bipush i => some (pc + 2, Ls, .int (Int8.ofInt i).toInt32 :: st)
  | .sipush i => some (pc + 3, Ls, .int (Int16.ofInt i).toInt32 :: st)
  | .aconst_null => some (pc + 1, Ls, .null :: st)
  | .iadd => match st with | .int y :: .int x :: r => some (pc + 1, Ls, .int (x + y) :: r) | _ => none
  | .isub => match st with | .int y :: .int x :: r => some (pc + 1, Ls, .int (x - y) :: r) | _ => none
  | .imul => match st with | .int y :: .int x :: r => some (pc + 1, Ls, .int (x * y) :: r) | _ => none
  | .iand => match st with | .int y :: .int x :: r => some (pc + 1, Ls, .int (x &&& y) :: r) | _ => none
  | .ior => match st with | .int y :: .int x :: r => some (pc + 1, Ls, .int (x ||| y) :: r) | _ => none
  | .ishl => match st with | .int y :: .int x :: r => some (pc + 1, Ls, .int (x <<< (y &&& 31)) :: r) | _ => none
  | .ishr => match st with | .int y :: .int x :: r => some (pc + 1, Ls, .int (x >>> (y &&& 31)) :: r) | _ => none
  | .iushr => match st with | .int y :: .int x :: r => some (pc + 1, Ls, .int (XT.ushr x y) :: r) | _ => none
  | .idiv => match st with | .int y :: .int x :: r => (if y = 0 then none else some (pc + 1, Ls, .int (x / y) :: r)) | _ => none
  | .irem => match st with | .int y :: .int x :: r => (if y = 0 then none else some (pc + 1, Ls, .int (x - (x / y) * y) :: r)) | _ => none
  | .i2b => match st with | .int x :: r => some (pc + 1, Ls, .int (x.toInt8.toInt32) :: r) | _ => none
  | .i2l => match st with | .int x :: r => some (pc + 1, Ls, .long (x.toInt64) :: r) | _ => none
  | .lsub => match st with | .long y :: .long x :: r => some (pc + 1, Ls, .long (x - y) :: r) | _ => none
  | .lneg => match st with | .long x :: r => some (pc + 1, Ls, .long (-x) :: r) | _ => none
  | .lcmp => match st with | .long y :: .long x :: r => some (pc + 1, Ls, .int (XT.cmpL x y) :: r) | _ => none
  | .dup => match st with | x :: r => (if x.category = 1 then some (pc + 1, Ls, x :: x :: r) else none) | _ => none
  | .iinc k z => match Ls[k]? with | some (.val (.int x)) => (match storeLocals Ls k (.int (x + Int32.ofInt z)) with | some L => some (pc + 3, L, st) | none => none) | _ => none
  | .goto o => if 0 ≤ (pc : Int) + o then some (((pc : Int) + o).toNat, Ls, st) else none
  | _ => none
/-- where the next instruction of a straight run lies -/
def nextPc (i : Instr) (pc : Nat) : Nat := match i with | .goto o => ((pc : Int) + o).toNat | _ => pc + ilen i
def fetchOk (bytes : ByteArray) : Nat → List Instr → Bool
  | _, [] => true
  | pc, i :: r => decide (decode bytes pc = .ok (i, ilen i)) && fetchOk bytes (nextPc i pc) r
def prun : Nat → Array Slot → List Value → List Instr → Option (Nat × Array Slot × List Value)
  | pc, Ls, st, [] => some (pc, Ls, st)
  | pc, Ls, st, i :: r => match pstep i pc Ls st with | some (pc', Ls', st') => if nextPc i pc = pc' then prun pc' Ls' st' r else none | none => none
variable {p : Program} {l : Launch} {e : Env} {R : Room} {s : State} {m : MethodId} {args : Array Value} {below : List Frame} {meth : Method} {c : Code} {T : State} {h : Heap} {cells slots n0 : Nat} {Z : State} {a0 : Array Value} {bytes : ByteArray} {own : String} {maxL : Nat} {ret : Option FieldType} {nm : String} {P : State → Outcome → Prop}
theorem via {T' : State} {g g' : JFrame} (st : ∀ target, Steps p.tables e below (T'.setTop g') target → Steps p.tables e below (T.setTop g) target) (k : Con p e below T' g' P) : Con p e below T g P := by
  obtain ⟨t, o, h1, r⟩ := k; exact ⟨t, o, st t h1, r⟩
theorem own_run1 (S : St p l e R s m args below meth c n0 T h cells slots) (C : Cx p s Z m meth c bytes own maxL ret nm) {i : Instr} {pc : Nat} {Ls : Array Slot} {st : List Value} {q : Nat × Array Slot × List Value}
    (hd : decode bytes pc = .ok (i, ilen i)) (hp : pstep i pc Ls st = some q) (k : Con p e below T (mkF m q.1 q.2.1 q.2.2) P) : Con p e below T (mkF m pc Ls st) P := by
  obtain ⟨locs, X, -⟩ := S
  obtain ⟨hx, -, hby, -⟩ := C
  have hd' := hb hby hd
  unfold pstep at hp
  split at hp
  · split at hp
    · cases hp; exact via (fun t z => XS.iloadN X.here hx rfl hd' ‹_› z) k
    · cases hp
  · split at hp
    · cases hp; exact via (fun t z => XS.iload X.here hx rfl hd' ‹_› z) k
    · cases hp
  · split at hp
    · split at hp
      · cases hp; exact via (fun t z => XS.aloadN X.here hx rfl hd' ‹_› ‹_› z) k
      · cases hp
    · cases hp
  · split at hp
    · split at hp
      · cases hp; exact via (fun t z => XS.aload X.here hx rfl hd' ‹_› ‹_› z) k
      · cases hp
    · cases hp
  · split at hp
    · cases hp; exact via (fun t z => XT.lload X.here hx rfl hd' ‹_› z) k
    · cases hp
  · split at hp
    · split at hp
      · cases hp; exact via (fun t z => XS.istoreN X.here hx rfl hd' rfl ‹_› z) k
      · cases hp
    · cases hp
  · split at hp
    · split at hp
      · cases hp; exact via (fun t z => XS.istore X.here hx rfl hd' rfl ‹_› z) k
      · cases hp
    · cases hp
  · split at hp
    · split at hp
      · split at hp
        · cases hp; exact via (fun t z => XS.astoreN X.here hx rfl hd' rfl ‹_› ‹_› z) k
        · cases hp
      · cases hp
    · cases hp
  · split at hp
    · split at hp
      · split at hp
        · cases hp; exact via (fun t z => XS.astore X.here hx rfl hd' rfl ‹_› ‹_› z) k
        · cases hp
      · cases hp
    · cases hp
  · split at hp
    · split at hp
      · cases hp; exact via (fun t z => XT.lstore X.here hx rfl hd' rfl ‹_› z) k
      · cases hp
    · cases hp
  · cases hp; exact via (fun t z => XS.iconst X.here hx rfl hd' z) k
  · cases hp; exact via (fun t z => XT.lconst X.here hx rfl hd' z) k
  · cases hp; exact via (fun t z => XS.bipush X.here hx rfl hd' z) k
  · cases hp; exact via (fun t z => XS.sipush X.here hx rfl hd' z) k
  · cases hp; exact via (fun t z => XS.aconstNull X.here hx rfl hd' z) k
  · split at hp
    · cases hp; exact via (fun t z => XS.iadd X.here hx rfl hd' rfl z) k
    · cases hp
  · split at hp
    · cases hp; exact via (fun t z => XS.isub X.here hx rfl hd' rfl z) k
    · cases hp
  · split at hp
    · cases hp; exact via (fun t z => XS.imul X.here hx rfl hd' rfl z) k
    · cases hp
  · split at hp
    · cases hp; exact via (fun t z => XS.iand X.here hx rfl hd' rfl z) k
    · cases hp
  · split at hp
    · cases hp; exact via (fun t z => XT.ior X.here hx rfl hd' rfl z) k
    · cases hp
  · split at hp
    · cases hp; exact via (fun t z => XT.ishl X.here hx rfl hd' rfl z) k
    · cases hp
  · split at hp
    · cases hp; exact via (fun t z => XT.ishr X.here hx rfl hd' rfl z) k
    · cases hp
  · split at hp
    · cases hp; exact via (fun t z => XT.iushr X.here hx rfl hd' rfl z) k
    · cases hp
  · split at hp
    · split at hp
      · cases hp
      · cases hp; exact via (fun t z => XS.idiv X.here hx rfl hd' rfl ‹_› z) k
    · cases hp
  · split at hp
    · split at hp
      · cases hp
      · cases hp; exact via (fun t z => XS.irem X.here hx rfl hd' rfl ‹_› z) k
    · cases hp
  · split at hp
    · cases hp; exact via (fun t z => XT.i2b X.here hx rfl hd' rfl z) k
    · cases hp
  · split at hp
    · cases hp; exact via (fun t z => XT.i2l X.here hx rfl hd' rfl z) k
    · cases hp
  · split at hp
    · cases hp; exact via (fun t z => XT.lsub X.here hx rfl hd' rfl z) k
    · cases hp
  · split at hp
    · cases hp; exact via (fun t z => XT.lneg X.here hx rfl hd' rfl z) k
    · cases hp
  · split at hp
    · cases hp; exact via (fun t z => XT.lcmp X.here hx rfl hd' rfl z) k
    · cases hp
  · split at hp
    · split at hp
      · cases hp; exact via (fun t z => XS.dup X.here hx rfl hd' rfl ‹_› z) k
      · cases hp
    · cases hp
  · split at hp
    · split at hp
      · cases hp; exact via (fun t z => XS.iinc X.here hx rfl hd' ‹_› ‹_› z) k
      · cases hp
    · cases hp
  · split at hp
    · cases hp; exact via (fun t z => XS.goto X.here hx rfl rfl hd' ‹_› rfl z) k
    · cases hp
  · cases hp
/-- a straight run of plain instructions -/
theorem own_run (S : St p l e R s m args below meth c n0 T h cells slots) (C : Cx p s Z m meth c bytes own maxL ret nm) {pc' : Nat} {Ls' : Array Slot} {st' : List Value} :
    ∀ (is : List Instr) {pc : Nat} {Ls : Array Slot} {st : List Value}, fetchOk bytes pc is = true → prun pc Ls st is = some (pc', Ls', st') → Con p e below T (mkF m pc' Ls' st') P → Con p e below T (mkF m pc Ls st) P
  | [], pc, Ls, st, _, hp, k => by cases hp; exact k
  | i :: r, pc, Ls, st, hf, hp, k => by
    simp only [fetchOk, Bool.and_eq_true, decide_eq_true_eq] at hf
    simp only [prun] at hp
    split at hp
    · split at hp
      · rename_i pc1 Ls1 st1 h1 h2
        subst h2
        exact own_run1 S C hf.1 h1 (own_run S C r hf.2 hp k)
      · cases hp
    · cases hp
end OwnKit
section OwnKit2
variable {p : Program} {l : Launch} {e : Env} {R : Room} {s : State} {m : MethodId} {args : Array Value} {below : List Frame} {meth : Method} {c : Code} {T : State} {h h' : Heap} {cells slots n0 : Nat} {Z : State} {a0 : Array Value} {bytes : ByteArray} {own : String} {maxL : Nat} {ret : Option FieldType} {nm : String} {P : State → Outcome → Prop} {pc pc' : Nat} {Ls : Array Slot} {st : List Value}
/-! branches -/
theorem own_icmp (S : St p l e R s m args below meth c n0 T h cells slots) (C : Cx p s Z m meth c bytes own maxL ret nm) {cd : ClassFile.Cond} {o : Int} {x y : Int32} (hd : decode bytes pc = .ok (.if_icmp cd o, 3)) (hp : 0 ≤ (pc : Int) + o ∧ ((pc : Int) + o).toNat = pc')
    (yes : if_icmp.holds cd x y = true → Con p e below T (mkF m pc' Ls st) P) (no : if_icmp.holds cd x y = false → Con p e below T (mkF m (pc + 3) Ls st) P) : Con p e below T (mkF m pc Ls (.int y :: .int x :: st)) P := by
  obtain ⟨locs, X, -⟩ := S
  obtain ⟨hx, -, hby, -⟩ := C
  cases hc : if_icmp.holds cd x y with
  | true => exact via (fun t z => XS.icmpYes X.here hx rfl rfl (hb hby hd) rfl hc hp.1 hp.2 z) (yes hc)
  | false => exact via (fun t z => XS.icmpNo X.here hx rfl (hb hby hd) rfl hc z) (no hc)
theorem own_if (S : St p l e R s m args below meth c n0 T h cells slots) (C : Cx p s Z m meth c bytes own maxL ret nm) {cd : ClassFile.Cond} {o : Int} {x : Int32} (hd : decode bytes pc = .ok (.ifCond cd o, 3)) (hp : 0 ≤ (pc : Int) + o ∧ ((pc : Int) + o).toNat = pc')
    (yes : if_icmp.holds cd x 0 = true → Con p e below T (mkF m pc' Ls st) P) (no : if_icmp.holds cd x 0 = false → Con p e below T (mkF m (pc + 3) Ls st) P) : Con p e below T (mkF m pc Ls (.int x :: st)) P := by
  obtain ⟨locs, X, -⟩ := S
  obtain ⟨hx, -, hby, -⟩ := C
  cases hc : if_icmp.holds cd x 0 with
  | true => exact via (fun t z => XS.ifYes X.here hx rfl rfl (hb hby hd) rfl ((if0 cd x).trans hc) hp.1 hp.2 z) (yes hc)
  | false => exact via (fun t z => XS.ifNo X.here hx rfl (hb hby hd) rfl ((if0 cd x).trans hc) z) (no hc)
theorem own_ifnullNo (S : St p l e R s m args below meth c n0 T h cells slots) (C : Cx p s Z m meth c bytes own maxL ret nm) {o : Int} {b : Addr} (hd : decode bytes pc = .ok (.ifnull o, 3))
    (k : Con p e below T (mkF m (pc + 3) Ls st) P) : Con p e below T (mkF m pc Ls (.ref b :: st)) P := by
  obtain ⟨locs, X, -⟩ := S
  obtain ⟨hx, -, hby, -⟩ := C
  exact via (fun t z => XS.ifnullNo X.here hx rfl (hb hby hd) rfl z) k
theorem hh_lt {x y : Int32} : (if_icmp.holds .lt x y = true ↔ x.toInt < y.toInt) ∧ (if_icmp.holds .lt x y = false ↔ y.toInt ≤ x.toInt) := by
  rw [show if_icmp.holds .lt x y = decide (x < y) from rfl, decide_eq_true_eq, decide_eq_false_iff_not, Int32.lt_iff_toInt_lt]; omega
theorem hh_ge {x y : Int32} : (if_icmp.holds .ge x y = true ↔ y.toInt ≤ x.toInt) ∧ (if_icmp.holds .ge x y = false ↔ x.toInt < y.toInt) := by
  rw [show if_icmp.holds .ge x y = decide (y ≤ x) from rfl, decide_eq_true_eq, decide_eq_false_iff_not, Int32.le_iff_toInt_le]; omega
theorem hh_gt {x y : Int32} : (if_icmp.holds .gt x y = true ↔ y.toInt < x.toInt) ∧ (if_icmp.holds .gt x y = false ↔ x.toInt ≤ y.toInt) := by
  rw [show if_icmp.holds .gt x y = decide (y < x) from rfl, decide_eq_true_eq, decide_eq_false_iff_not, Int32.lt_iff_toInt_lt]; omega
theorem hh_le {x y : Int32} : (if_icmp.holds .le x y = true ↔ x.toInt ≤ y.toInt) ∧ (if_icmp.holds .le x y = false ↔ y.toInt < x.toInt) := by
  rw [show if_icmp.holds .le x y = decide (x ≤ y) from rfl, decide_eq_true_eq, decide_eq_false_iff_not, Int32.le_iff_toInt_le]; omega
theorem hh_eq {x y : Int32} : (if_icmp.holds .eq x y = true ↔ x.toInt = y.toInt) ∧ (if_icmp.holds .eq x y = false ↔ x.toInt ≠ y.toInt) := by
  rw [show if_icmp.holds .eq x y = (x == y) from rfl, beq_iff_eq, beq_eq_false_iff_ne, ne_eq, ← Int32.toInt_inj]; exact ⟨Iff.rfl, Iff.rfl⟩
theorem hh_ne {x y : Int32} : (if_icmp.holds .ne x y = true ↔ x.toInt ≠ y.toInt) ∧ (if_icmp.holds .ne x y = false ↔ x.toInt = y.toInt) := by
  rw [show if_icmp.holds .ne x y = (x != y) from rfl, bne_iff_ne, bne_eq_false_iff_eq, ne_eq, ← Int32.toInt_inj]; exact ⟨Iff.rfl, Iff.rfl⟩
/-! constants -/
theorem own_ldc (S : St p l e R s m args below meth c n0 T h cells slots) (C : Cx p s Z m meth c bytes own maxL ret nm) {idx : Nat} {v : Int32} (w : (Jvm.Cond.constant own idx v).before a0 Z = true) (hd : decode bytes pc = .ok (.ldc idx, 2))
    (k : Con p e below T (mkF m (pc + 2) Ls (.int v :: st)) P) : Con p e below T (mkF m pc Ls st) P := by
  obtain ⟨locs, X, -⟩ := S
  obtain ⟨hx, hZ, hby, hown, -⟩ := C
  exact via (X.ldcInt hx hown (mvT hZ w) (g := mkF m pc Ls st) rfl (hb hby hd)) k
/-- a remainder whose divisor isn't 0 -/
theorem own_irem (S : St p l e R s m args below meth c n0 T h cells slots) (C : Cx p s Z m meth c bytes own maxL ret nm) {x y : Int32} (hy : y ≠ 0) (hd : decode bytes pc = .ok (.irem, 1))
    (k : Con p e below T (mkF m (pc + 1) Ls (.int (x - (x / y) * y) :: st)) P) : Con p e below T (mkF m pc Ls (.int y :: .int x :: st)) P := by
  obtain ⟨locs, X, -⟩ := S
  obtain ⟨hx, hZ, hby, hown, -⟩ := C
  exact via (fun t z => XS.irem X.here hx rfl (hb hby hd) rfl hy z) k
/-! arrays of ints -/
def Ai (Z : State) (h : Heap) (a : Addr) (vs : List Int32) : Prop :=
  ∃ cl : Cell, Arr Z h a cl .int ∧ cl.slots.size = vs.length ∧ vs.length < 2 ^ 31 ∧ ∀ j, j < vs.length → cl.slots[j]? = some (.int (vs.getD j 0))
theorem Ai.lt {a : Addr} {vs : List Int32} (A : Ai Z h a vs) : a < h.size := by obtain ⟨c, A, -⟩ := A; exact A.lt
theorem Ai.ext {a : Addr} {vs : List Int32} (A : Ai Z h a vs) (E : Ext h h') : Ai Z h' a vs := by obtain ⟨c, A, r⟩ := A; exact ⟨c, A.ext E, r⟩
theorem Ai.other {a b : Addr} {vs : List Int32} {sl : Nat} {v : Value} (A : Ai Z h b vs) (W : Wr h h' a sl v) (q : b ≠ a) : Ai Z h' b vs := by obtain ⟨c, A, r⟩ := A; exact ⟨c, A.other W q, r⟩
theorem Ai.keep {a : Addr} {vs : List Int32} {ws : List Addr} (A : Ai Z h a vs) (K : Keep h h' ws) (q : a ∉ ws) : Ai Z h' a vs := by obtain ⟨c, A, r⟩ := A; exact ⟨c, ⟨K.2.1 a c A.1 q, A.2⟩, r⟩
theorem Ai.small {a : Addr} {vs : List Int32} (A : Ai Z h a vs) : vs.length < 2 ^ 31 := by obtain ⟨c, -, -, r, -⟩ := A; exact r
theorem own_idx {j : Int32} {n k : Nat} (hj : 0 ≤ j.toInt ∧ j.toInt < (n : Int)) (e : k = n) : ¬ (j < 0 ∨ k ≤ j.toNatClampNeg) := by
  subst e
  rw [Int32.lt_iff_toInt_lt, show (0 : Int32).toInt = 0 from rfl, show j.toNatClampNeg = j.toInt.toNat from rfl]
  omega
theorem own_newarray (S : St p l e R s m args below meth c n0 T h cells slots) (C : Cx p s Z m meth c bytes own maxL ret nm) (w : (Jvm.Cond.arrayClass .int).before a0 Z = true) (hd : decode bytes pc = .ok (.newarray .int, 2)) {n : Int32} (hn : 0 ≤ n.toInt) (cap : Nat) (hcap : n.toNatClampNeg ≤ cap) (hbig : cap * 8 ≤ 536870912)
    (hc : cells + 1 ≤ R.cells) (hs : slots + cap ≤ R.slots) {vs : List Int32} (hvs : List.replicate n.toNatClampNeg (0 : Int32) = vs)
    (k : ∀ (T' : State) (h' : Heap) (a : Addr), a = h.size → St p l e R s m args below meth c n0 T' h' (cells + 1) (slots + cap) → Ext h h' → n0 ≤ a → Ai Z h' a vs → Con p e below T' (mkF m (pc + 2) Ls (.ref a :: st)) P) : Con p e below T (mkF m pc Ls (.int n :: st)) P := by
  obtain ⟨locs, X, e0, N, Z0⟩ := S
  obtain ⟨hx, hZ, hby, hown, -⟩ := C
  have hneg : ¬ n < 0 := by rw [Int32.lt_iff_toInt_lt, show (0 : Int32).toInt = 0 from rfl]; omega
  obtain ⟨T', h', cA, X', e', E, A, stp⟩ := newP X hx hZ (aty := .int) w e0 (g := mkF m pc Ls (.int n :: st)) rfl (hb hby hd) rfl hneg (cap := cap) hcap hbig hc hs
  refine via stp (k T' h' h.size rfl ⟨locs, X', e', N, Nat.le_trans Z0 E.1⟩ E Z0 ⟨_, A, ?_, ?_, fun j hj => ?_⟩)
  · rw [sz_new, ← hvs, List.length_replicate]
  · rw [← hvs, List.length_replicate, show n.toNatClampNeg = n.toInt.toNat from rfl]
    have := n.toInt_lt
    omega
  · subst hvs
    rw [List.length_replicate] at hj
    have hg : (List.replicate n.toNatClampNeg (0 : Int32)).getD j 0 = 0 := by
      rw [List.getD_eq_getElem?_getD, List.getElem?_replicate]; split <;> rfl
    rw [hg]
    show (Array.replicate n.toNatClampNeg (Value.int 0))[j]? = _
    rw [Array.getElem?_replicate, if_pos hj]
theorem own_alen (S : St p l e R s m args below meth c n0 T h cells slots) (C : Cx p s Z m meth c bytes own maxL ret nm) {a : Addr} {vs : List Int32} (A : Ai Z h a vs) (hd : decode bytes pc = .ok (.arraylength, 1)) {v : Int32} (hv : Int32.ofNat vs.length = v)
    (k : Con p e below T (mkF m (pc + 1) Ls (.int v :: st)) P) : Con p e below T (mkF m pc Ls (.ref a :: st)) P := by
  obtain ⟨locs, X, e0, N, Z0⟩ := S
  obtain ⟨hx, hZ, hby, hown, -⟩ := C
  obtain ⟨cl, A, hsz, hsm, hat⟩ := A
  refine via (fun t z => X.arraylength hx (cell := cl) (by rw [e0]; exact A.1) (State.isArrayOf_alike hZ.alike A.2.1) (g := mkF m pc Ls (.ref a :: st)) rfl (rest := st) rfl (hb hby hd) t z) ?_
  rw [hsz]; subst hv; exact k
theorem own_iaload (S : St p l e R s m args below meth c n0 T h cells slots) (C : Cx p s Z m meth c bytes own maxL ret nm) {a : Addr} {vs : List Int32} (A : Ai Z h a vs) (hd : decode bytes pc = .ok (.iaload, 1)) {j v : Int32} (hj : 0 ≤ j.toInt ∧ j.toInt < (vs.length : Int)) (hv : vs.getD j.toNatClampNeg 0 = v)
    (k : Con p e below T (mkF m (pc + 1) Ls (.int v :: st)) P) : Con p e below T (mkF m pc Ls (.int j :: .ref a :: st)) P := by
  obtain ⟨locs, X, e0, N, Z0⟩ := S
  obtain ⟨hx, hZ, hby, hown, -⟩ := C
  obtain ⟨cl, A, hsz, hsm, hat⟩ := A
  have hlt : j.toNatClampNeg < vs.length := by rw [show j.toNatClampNeg = j.toInt.toNat from rfl]; omega
  subst hv
  exact via (fun t z => X.iaload hx (j := j) (v := .int (vs.getD j.toNatClampNeg 0)) (by rw [e0]; exact A.1) (State.isArrayOf_alike hZ.alike A.2.1) A.2.2 (own_idx hj hsz) (hat _ hlt) (g := mkF m pc Ls (.int j :: .ref a :: st)) rfl rfl (hb hby hd) t z) k
theorem own_iastore (S : St p l e R s m args below meth c n0 T h cells slots) (C : Cx p s Z m meth c bytes own maxL ret nm) {a : Addr} {vs vs' : List Int32} (A : Ai Z h a vs) (hd : decode bytes pc = .ok (.iastore, 1)) {j x : Int32} (hj : 0 ≤ j.toInt ∧ j.toInt < (vs.length : Int)) (ge : n0 ≤ a) (hv : vs.set j.toNatClampNeg x = vs')
    (k : ∀ (T' : State) (h' : Heap), St p l e R s m args below meth c n0 T' h' cells slots → Keep h h' [a] → Ai Z h' a vs' → Con p e below T' (mkF m (pc + 1) Ls st) P) : Con p e below T (mkF m pc Ls (.int x :: .int j :: .ref a :: st)) P := by
  obtain ⟨locs, X, e0, N, Z0⟩ := S
  obtain ⟨hx, hZ, hby, hown, -⟩ := C
  obtain ⟨cl, A, hsz, hsm, hat⟩ := A
  have hlt : j.toNatClampNeg < vs.length := by rw [show j.toNatClampNeg = j.toInt.toNat from rfl]; omega
  obtain ⟨T', h', X', e', W, stp⟩ := stI X hx hZ e0 A (j := j) (x := x) (own_idx hj hsz) (g := mkF m pc Ls (.int x :: .int j :: .ref a :: st)) rfl rfl (hb hby hd)
  subst hv
  refine via stp (k T' h' ⟨_, X', e', Fr.snoc X' N ge, Nat.le_trans Z0 (Keep.of_wr W).1⟩ (Keep.of_wr W) ⟨_, A.same W, ?_, ?_, fun i hi => ?_⟩)
  · rw [sz_set, List.length_set]; exact hsz
  · rw [List.length_set]; exact hsm
  · rw [List.length_set] at hi
    by_cases u : j.toNatClampNeg = i
    · subst u
      rw [List.getD_eq_getElem?_getD, List.getElem?_set_self hi]
      simp only [Cell.setSlot]
      rw [Array.getElem?_setIfInBounds_self_of_lt (by rw [hsz]; exact hi)]
      rfl
    · have := hat i hi
      rw [List.getD_eq_getElem?_getD] at this ⊢
      rw [List.getElem?_set_ne u, ← this]
      simp only [Cell.setSlot]
      rw [Array.getElem?_setIfInBounds_ne u]
/-! what a body leaves -/
def Pq (s : State) (rm : Room) (n0 : Nat) (Q : Option Value → Heap → Prop) : State → Outcome → Prop := fun U' o => ∃ v L, o = .returned v ∧ (Fr n0 L ∧ n0 ≤ U'.heap.size ∧ Q v U'.heap) ∧ FrameEnd s o U' L rm.cells rm.slots
variable {Q : Option Value → Heap → Prop}
theorem own_reti (S : St p l e R s m args below meth c n0 T h cells slots) (C : Cx p s Z m meth c bytes own maxL (some .int) nm) {z : Int32} (hd : decode bytes pc = .ok (.ireturn, 1)) (hc : cells ≤ R.cells) (hs : slots ≤ R.slots) (q : Q (some (.int z)) h) : Con p e below T (mkF m pc Ls (.int z :: st)) (Pq s R n0 Q) := by
  obtain ⟨locs, X, e0, N, Z0⟩ := S
  obtain ⟨hx, hZ, hby, hown, hml, hret, hlk, -⟩ := C
  obtain ⟨fs, hr, hrun, hended, hW, hsame⟩ := X.leave (v := some (.int z)) (fun h => by rw [hret] at h; cases h) hlk
  subst e0
  exact ⟨_, _, retI X hx hret (hb hby hd) hr, hrun, hended, _, locs, rfl, ⟨N, Z0, q⟩, ⟨_, rfl⟩, hW, hsame.mono hc hs⟩
theorem own_retz (S : St p l e R s m args below meth c n0 T h cells slots) (C : Cx p s Z m meth c bytes own maxL (some .boolean) nm) {z z' : Int32} (hz : z &&& 1 = z') (hd : decode bytes pc = .ok (.ireturn, 1)) (hc : cells ≤ R.cells) (hs : slots ≤ R.slots) (q : Q (some (.int z')) h) : Con p e below T (mkF m pc Ls (.int z :: st)) (Pq s R n0 Q) := by
  obtain ⟨locs, X, e0, N, Z0⟩ := S
  obtain ⟨hx, hZ, hby, hown, hml, hret, hlk, -⟩ := C
  obtain ⟨fs, hr, hrun, hended, hW, hsame⟩ := X.leave (v := some (.int (nar .boolean z))) (fun h => by rw [hret] at h; cases h) hlk
  subst e0
  subst hz
  exact ⟨_, _, retN X hx (t := .boolean) hret (Or.inl rfl) (hb hby hd) hr, hrun, hended, _, locs, rfl, ⟨N, Z0, q⟩, ⟨_, rfl⟩, hW, hsame.mono hc hs⟩
theorem own_reta (S : St p l e R s m args below meth c n0 T h cells slots) {ft : FieldType} (C : Cx p s Z m meth c bytes own maxL (some ft) nm) (hft : ft.isReference = true) {a : Addr} (hd : decode bytes pc = .ok (.areturn, 1)) (hc : cells ≤ R.cells) (hs : slots ≤ R.slots) (q : Q (some (.ref a)) h) : Con p e below T (mkF m pc Ls [.ref a]) (Pq s R n0 Q) := by
  obtain ⟨locs, X, e0, N, Z0⟩ := S
  obtain ⟨hx, hZ, hby, hown, hml, hret, hlk, -⟩ := C
  obtain ⟨fs, hr, hrun, hended, hW, hsame⟩ := X.leave (v := some (.ref a)) (fun h => by rw [hret] at h; cases h) hlk
  subst e0
  exact ⟨_, _, X.areturnOut hx rfl hret hft (hb hby hd) hr, hrun, hended, _, locs, rfl, ⟨N, Z0, q⟩, ⟨_, rfl⟩, hW, hsame.mono hc hs⟩
theorem own_retv (S : St p l e R s m args below meth c n0 T h cells slots) (C : Cx p s Z m meth c bytes own maxL none nm) (hd : decode bytes pc = .ok (.return_, 1)) (hc : cells ≤ R.cells) (hs : slots ≤ R.slots) (q : Q none h) : Con p e below T (mkF m pc Ls []) (Pq s R n0 Q) := by
  obtain ⟨locs, X, e0, N, Z0⟩ := S
  obtain ⟨hx, hZ, hby, hown, hml, hret, hlk, -⟩ := C
  obtain ⟨fs, hr, hrun, hended, hW, hsame⟩ := X.leave (v := none) (fun _ => rfl) hlk
  subst e0
  exact ⟨_, _, X.returnOut hx hret (hb hby hd) hr, hrun, hended, _, locs, rfl, ⟨N, Z0, q⟩, ⟨_, rfl⟩, hW, hsame.mono hc hs⟩
/-! a body's contract, and how it is entered -/
def Mt (l : Launch) (Z : State) (y : MethodName) (bytes : ByteArray) (maxL : Nat) (ret : Option FieldType) (ws : List Jvm.Cond) (rm : Room) (as : Array Value) (h0 : Heap) (n0 : Nat) (Q : Option Value → Heap → Prop) : Prop :=
  MetFree l y (head1 (Jvm.Cond.code y bytes maxL ret :: ws) rm) (fun a U => a = as ∧ Z.Warmed39 U.vm ∧ U.heap = h0) (fun _ _ _ _ _ => True) (fun _ U o U' => ∃ v L, o = .returned v ∧ (Fr n0 L ∧ n0 ≤ U'.heap.size ∧ Q v U'.heap) ∧ FrameEnd U o U' L rm.cells rm.slots)
theorem Mt.of {y : MethodName} {ws : List Jvm.Cond} {rm : Room} {as : Array Value} (pn : plainFor y = true) (Z0 : n0 ≤ h.size) (ef : ∀ m, entryFrame m as maxL = mkF m 0 Ls []) (ho : y.cls = own) (hn : y.name = nm)
    (body : ∀ (p : Program) (e : Env) (s : State) (m : MethodId) (below : List Frame) (meth : Method) (c : Code) (T : State), Cx p s Z m meth c bytes own maxL ret nm → St p l e rm s m as below meth c n0 T h 0 0 → Con p e below T (mkF m 0 Ls []) (Pq s rm n0 Q)) :
    Mt l Z y bytes maxL ret ws rm as h n0 Q := by
  refine MetFree.of_bodySF pn hisR ?_
  intro p e s m args below meth c s₁ Bd hml0 hP hK
  obtain ⟨rfl, hZ, hh⟩ := hP
  have X0 : Stand p l e rm s m args below meth c s₁ [] 0 0 := Stand.of_body Bd
  have e0 : s₁.heap = h := by rw [← hh, Bd.state]; rfl
  subst ho hn
  obtain ⟨t, o, h1, h2, h3, h4⟩ := body p e s m below meth c s₁ ⟨Bd.exec, hZ, Bd.bytes, findClass_of_methodNamed Bd.named, hml0, Bd.returns, Bd.notSynchronized, (name_of_methodNamed Bd.named Bd.method).1⟩ ⟨[], X0, e0, Fr.nil n0, Z0⟩
  exact ⟨t, o, castTop (ef m) h1, h2, h3, h4⟩
/-! calls by contract -/
theorem own_callS (S : St p l e R s m args below meth c n0 T h cells slots) (C : Cx p s Z m meth c bytes own maxL ret nm) {y : MethodName} {yb : ByteArray} {yL : Nat} {yr : Option FieldType} {rm : Room} {idx : Nat} (w1 : (Jvm.Cond.methodLink own idx y).before a0 Z = true) (w2 : (Jvm.Cond.static y).before a0 Z = true) (w3 : (Jvm.Cond.initialized y.cls).before a0 Z = true) (w4 : (Jvm.Cond.code y yb yL yr).before a0 Z = true)
    (hy : y.cls ≠ "java/lang/invoke/MethodHandle" ∧ y.cls ≠ "java/lang/invoke/VarHandle") {as : Array Value} (hM : Mt l Z y yb yL yr [] rm as h n0 Q) (W : Nat) (hf : rm.frames + 1 ≤ R.frames) (hl : W + (yL + 11) + rm.locals ≤ R.locals) {ps : List FieldType} {r : Option FieldType} (pd : parseMethodDescriptor y.desc = some ⟨ps, r⟩) (argsL rest : List Value) (hn : argsL.length = ps.length) (ha : argsL.toArray = as)
    (hst : st = argsL.reverse ++ rest) (hW : (rest.map fun v => v.category).sum ≤ W) (hsz : Ls.size = maxL) (hd : decode bytes pc = .ok (.invokestatic idx, 3)) (hc : cells + rm.cells ≤ R.cells) (hs : slots + rm.slots ≤ R.slots)
    (k : ∀ (v : Option Value) (T' : State) (h' : Heap), St p l e R s m args below meth c n0 T' h' (cells + rm.cells) (slots + rm.slots) → Q v h' → Con p e below T' (mkF m (pc + 3) Ls (v.toList ++ rest)) P) : Con p e below T (mkF m pc Ls st) P := by
  obtain ⟨locs, X, e0, N, Z0⟩ := S
  obtain ⟨hx, hZ, hby, hown, hml, -⟩ := C
  obtain ⟨v, vm1, ⟨T', L', k', n'⟩, -, X', ⟨Lc, hQ, l1, y1, z1⟩, stp⟩ := Jvm.LawKit.callS X hx (y := y) hown (mvT hZ w1) (mvT hZ w2) (mvT hZ w3) (mvT hZ w4) hy (backOf (W := W) (Q := fun v h L => Fr n0 L ∧ n0 ≤ h.size ∧ Q v h) hM hZ w4 w3 hf hl) (g := mkF m pc Ls st) rfl (by rw [hml]; exact hsz) (argsL := argsL) (rest := rest) (lenOf pd hn) hst (by show 2 * 0 + _ ≤ _; omega) (hb hby hd) (fun _ _ => ⟨ha, e0, hc, hs⟩)
  dsimp only [Pt.U, Pt.locs, Pt.cells, Pt.slots] at X' l1 y1 z1 stp hQ
  subst l1 y1 z1
  exact via stp (k v T' _ ⟨_, X', rfl, Fr.app N hQ.1, hQ.2.1⟩ hQ.2.2)
theorem own_callI (S : St p l e R s m args below meth c n0 T h cells slots) (C : Cx p s Z m meth c bytes own maxL ret nm) {y : MethodName} {yb : ByteArray} {yL : Nat} {rm : Room} {idx : Nat} (hy1 : y.name = "<init>") (w1 : (Jvm.Cond.methodLink own idx y).before a0 Z = true) (w2 : (Jvm.Cond.instanceMethod y).before a0 Z = true) (w3 : (Jvm.Cond.initialized y.cls).before a0 Z = true) (w4 : (Jvm.Cond.code y yb yL none).before a0 Z = true)
    (hy : y.cls ≠ "java/lang/invoke/MethodHandle" ∧ y.cls ≠ "java/lang/invoke/VarHandle") {as : Array Value} (hM : Mt l Z y yb yL none [] rm as h n0 Q) (W : Nat) (hf : rm.frames + 1 ≤ R.frames) (hl : W + (yL + 11) + rm.locals ≤ R.locals) {ps : List FieldType} {r : Option FieldType} (pd : parseMethodDescriptor y.desc = some ⟨ps, r⟩) (a : Addr) (argsL rest : List Value) (hn : argsL.length = ps.length) (ha : (.ref a :: argsL).toArray = as)
    (hst : st = argsL.reverse ++ .ref a :: rest) (hW : (rest.map fun v => v.category).sum ≤ W) (hsz : Ls.size = maxL) (hd : decode bytes pc = .ok (.invokespecial idx, 3)) (hc : cells + rm.cells ≤ R.cells) (hs : slots + rm.slots ≤ R.slots)
    (k : ∀ (v : Option Value) (T' : State) (h' : Heap), St p l e R s m args below meth c n0 T' h' (cells + rm.cells) (slots + rm.slots) → Q v h' → Con p e below T' (mkF m (pc + 3) Ls (v.toList ++ rest)) P) : Con p e below T (mkF m pc Ls st) P := by
  obtain ⟨locs, X, e0, N, Z0⟩ := S
  obtain ⟨hx, hZ, hby, hown, hml, -⟩ := C
  obtain ⟨v, vm1, ⟨T', L', k', n'⟩, -, X', ⟨Lc, hQ, l1, y1, z1⟩, stp⟩ := X.specialBack hx (y := y) hy1 hown (mvT hZ w1) (mvT hZ w2) (mvT hZ w4) hy (backOf (W := W) (Q := fun v h L => Fr n0 L ∧ n0 ≤ h.size ∧ Q v h) hM hZ w4 w3 hf hl) (g := mkF m pc Ls st) rfl (by rw [hml]; exact hsz) (Steps.refl _) (a := a) (argsL := argsL) (rest := rest) (lenOf pd hn) hst (by show 2 * 0 + _ ≤ _; omega) (hb hby hd) (fun _ _ => ⟨ha, e0, hc, hs⟩)
  dsimp only [Pt.U, Pt.locs, Pt.cells, Pt.slots] at X' l1 y1 z1 stp hQ
  subst l1 y1 z1
  exact via (fun t z => stp.trans z) (k v T' _ ⟨_, X', rfl, Fr.app N hQ.1, hQ.2.1⟩ hQ.2.2)
theorem own_callV (S : St p l e R s m args below meth c n0 T h cells slots) (C : Cx p s Z m meth c bytes own maxL ret nm) {y : MethodName} {yb : ByteArray} {yL : Nat} {yr : Option FieldType} {rm : Room} {idx : Nat} {D : String} (w1 : (Jvm.Cond.methodLink own idx y).before a0 Z = true) (w2 : (Jvm.Cond.declares y).before a0 Z = true) (w3 : (Jvm.Cond.selects D y y).before a0 Z = true) (w4 : (Jvm.Cond.instanceMethod y).before a0 Z = true) (w5 : (Jvm.Cond.initialized y.cls).before a0 Z = true) (w6 : (Jvm.Cond.code y yb yL yr).before a0 Z = true)
    (hy : y.cls ≠ "java/lang/invoke/MethodHandle" ∧ y.cls ≠ "java/lang/invoke/VarHandle") {a : Addr} (E : Exa Z h a D) {as : Array Value} (hM : Mt l Z y yb yL yr [] rm as h n0 Q) (W : Nat) (hf : rm.frames + 1 ≤ R.frames) (hl : W + (yL + 11) + rm.locals ≤ R.locals) {ps : List FieldType} {r : Option FieldType} (pd : parseMethodDescriptor y.desc = some ⟨ps, r⟩) (argsL rest : List Value) (hn : argsL.length = ps.length) (ha : (.ref a :: argsL).toArray = as)
    (hst : st = argsL.reverse ++ .ref a :: rest) (hW : (rest.map fun v => v.category).sum ≤ W) (hsz : Ls.size = maxL) (hd : decode bytes pc = .ok (.invokevirtual idx, 3)) (hc : cells + rm.cells ≤ R.cells) (hs : slots + rm.slots ≤ R.slots)
    (k : ∀ (v : Option Value) (T' : State) (h' : Heap), St p l e R s m args below meth c n0 T' h' (cells + rm.cells) (slots + rm.slots) → Q v h' → Con p e below T' (mkF m (pc + 3) Ls (v.toList ++ rest)) P) : Con p e below T (mkF m pc Ls st) P := by
  obtain ⟨locs, X, e0, N, Z0⟩ := S
  obtain ⟨hx, hZ, hby, hown, hml, -⟩ := C
  obtain ⟨cq, kq, qa, qb, qc⟩ := isOf hZ e0 E
  obtain ⟨v, vm1, ⟨T', L', k', n'⟩, -, X', ⟨Lc, hQ, l1, y1, z1⟩, stp⟩ := X.virtualBack hx (y := y) (z := y) hown (mvT hZ w1) (mvT hZ w2) (notFace_of_selects (args := #[]) (mvT hZ w3)) (mvT hZ w3) (mvT hZ w4) hy (backOf (W := W) (Q := fun v h L => Fr n0 L ∧ n0 ≤ h.size ∧ Q v h) hM hZ w6 w5 hf hl) qa qc (g := mkF m pc Ls st) rfl (by rw [hml]; exact hsz) (Steps.refl _) (argsL := argsL) (rest := rest) (lenOf pd hn) hst (by show 2 * 0 + _ ≤ _; omega) (hb hby hd) (fun _ _ => ⟨ha, e0, hc, hs⟩)
  dsimp only [Pt.U, Pt.locs, Pt.cells, Pt.slots] at X' l1 y1 z1 stp hQ
  subst l1 y1 z1
  exact via (fun t z => stp.trans z) (k v T' _ ⟨_, X', rfl, Fr.app N hQ.1, hQ.2.1⟩ hQ.2.2)
theorem own_callU (S : St p l e R s m args below meth c n0 T h cells slots) (C : Cx p s Z m meth c bytes own maxL ret nm) {y z : MethodName} {yb : ByteArray} {yL : Nat} {yr : Option FieldType} {rm : Room} {idx : Nat} {D O : String} (w1 : (Jvm.Cond.methodLink own idx y).before a0 Z = true) (ws : (Jvm.Cond.sameMethod y.cls O y.name y.desc).before a0 Z = true) (w2 : (Jvm.Cond.declares ⟨O, y.name, y.desc⟩).before a0 Z = true) (w3 : (Jvm.Cond.selects D y z).before a0 Z = true) (w4 : (Jvm.Cond.instanceMethod z).before a0 Z = true) (w5 : (Jvm.Cond.initialized z.cls).before a0 Z = true) (w6 : (Jvm.Cond.code z yb yL yr).before a0 Z = true)
    (hy : O ≠ "java/lang/invoke/MethodHandle" ∧ O ≠ "java/lang/invoke/VarHandle") {a : Addr} (E : Exa Z h a D) {as : Array Value} (hM : Mt l Z z yb yL yr [] rm as h n0 Q) (W : Nat) (hf : rm.frames + 1 ≤ R.frames) (hl : W + (yL + 11) + rm.locals ≤ R.locals) {ps : List FieldType} {r : Option FieldType} (pd : parseMethodDescriptor y.desc = some ⟨ps, r⟩) (argsL rest : List Value) (hn : argsL.length = ps.length) (ha : (.ref a :: argsL).toArray = as)
    (hst : st = argsL.reverse ++ .ref a :: rest) (hW : (rest.map fun v => v.category).sum ≤ W) (hsz : Ls.size = maxL) (hd : decode bytes pc = .ok (.invokevirtual idx, 3)) (hc : cells + rm.cells ≤ R.cells) (hs : slots + rm.slots ≤ R.slots)
    (k : ∀ (v : Option Value) (T' : State) (h' : Heap), St p l e R s m args below meth c n0 T' h' (cells + rm.cells) (slots + rm.slots) → Q v h' → Con p e below T' (mkF m (pc + 3) Ls (v.toList ++ rest)) P) : Con p e below T (mkF m pc Ls st) P := by
  obtain ⟨locs, X, e0, N, Z0⟩ := S
  obtain ⟨hx, hZ, hby, hown, hml, -⟩ := C
  obtain ⟨cq, kq, qa, qb, qc⟩ := isOf hZ e0 E
  obtain ⟨v, vm1, ⟨T', L', k', n'⟩, -, X', ⟨Lc, hQ, l1, y1, z1⟩, stp⟩ := X.virtualBackUp hx (x := y) (y := z) (owner := O) hown (mvT hZ w1) (mvT hZ ws) (mvT hZ w2) hy (mvT hZ w3) (mvT hZ w4) (backOf (W := W) (Q := fun v h L => Fr n0 L ∧ n0 ≤ h.size ∧ Q v h) hM hZ w6 w5 hf hl) qa qc (g := mkF m pc Ls st) rfl (by rw [hml]; exact hsz) (Steps.refl _) (argsL := argsL) (rest := rest) (lenOf pd hn) hst (by show 2 * 0 + _ ≤ _; omega) (hb hby hd) (fun _ _ => ⟨ha, e0, hc, hs⟩)
  dsimp only [Pt.U, Pt.locs, Pt.cells, Pt.slots] at X' l1 y1 z1 stp hQ
  subst l1 y1 z1
  exact via (fun t z => stp.trans z) (k v T' _ ⟨_, X', rfl, Fr.app N hQ.1, hQ.2.1⟩ hQ.2.2)
/-! objects -/
theorem own_new (S : St p l e R s m args below meth c n0 T h cells slots) (C : Cx p s Z m meth c bytes own maxL ret nm) {D : String} {idx n : Nat} (w1 : (Jvm.Cond.classLink own idx D).before a0 Z = true) (w2 : (Jvm.Cond.instantiable D n).before a0 Z = true) (w3 : (Jvm.Cond.initialized D).before a0 Z = true) (hd : decode bytes pc = .ok (.new idx, 3)) (hc : cells + 1 ≤ R.cells) (hs : slots + n ≤ R.slots)
    (k : ∀ (T' : State) (h' : Heap) (a : Addr), a = h.size → St p l e R s m args below meth c n0 T' h' (cells + 1) (slots + n) → Ext h h' → n0 ≤ a → Exa Z h' a D → (∀ {O nm d : String} {ty : FieldType}, Laid Z a0 D O nm d → parseFieldDescriptor d = some ty → Fld Z h' a O nm d (defaultValue ty)) → Con p e below T' (mkF m (pc + 3) Ls (.ref a :: st)) P) : Con p e below T (mkF m pc Ls st) P := by
  obtain ⟨locs, X, e0, N, Z0⟩ := S
  obtain ⟨hx, hZ, hby, hown, -⟩ := C
  obtain ⟨T', h', X', e', E, A, D', -, stp⟩ := newO X hx hZ hown w1 w2 w3 e0 (g := mkF m pc Ls st) rfl (hb hby hd) hc hs
  exact via stp (k T' h' h.size rfl ⟨locs, X', e', N, Nat.le_trans Z0 E.1⟩ E Z0 A D')
theorem own_getf (S : St p l e R s m args below meth c n0 T h cells slots) (C : Cx p s Z m meth c bytes own maxL ret nm) {O f d : String} {idx : Nat} (w : (Jvm.Cond.fieldLink own idx O f d).before a0 Z = true) {a : Addr} {v : Value} (F : Fld Z h a O f d v) (hd : decode bytes pc = .ok (.getfield idx, 3))
    (k : ∀ T' : State, St p l e R s m args below meth c n0 T' h cells slots → Con p e below T' (mkF m (pc + 3) Ls (v :: st)) P) : Con p e below T (mkF m pc Ls (.ref a :: st)) P := by
  obtain ⟨locs, X, e0, N, Z0⟩ := S
  obtain ⟨hx, hZ, hby, hown, -⟩ := C
  obtain ⟨T', X', e', stp⟩ := getF X hx hZ hown (host := "") (Or.inl w) Via.refl e0 F (g := mkF m pc Ls (.ref a :: st)) rfl rfl (hb hby hd)
  exact via stp (k T' ⟨locs, X', e', N, Z0⟩)
theorem own_putf (S : St p l e R s m args below meth c n0 T h cells slots) (C : Cx p s Z m meth c bytes own maxL ret nm) {O f d D : String} {idx kk : Nat} {ty : FieldType} (w : (Jvm.Cond.fieldLink own idx O f d).before a0 Z = true) {a : Addr} {v old : Value} (F : Fld Z h a O f d old) (E : Exa Z h a D) (L : (Jvm.Cond.lays D O f d).before a0 Z = true ∨ ((Jvm.Cond.laysFinal D O f d).before a0 Z = true ∧ own = O ∧ nm = "<init>")) (wi : (Jvm.Cond.instantiable D kk).before a0 Z = true) (hty : parseFieldDescriptor d = some ty) (hn : narrow ty v = v) (hf : fits ty v = true) (ge : n0 ≤ a) (hd : decode bytes pc = .ok (.putfield idx, 3))
    (k : ∀ (T' : State) (h' : Heap), St p l e R s m args below meth c n0 T' h' cells slots → Wr h h' a (Jvm.RoadKit.slotOf Z O f d) v → Con p e below T' (mkF m (pc + 3) Ls st) P) : Con p e below T (mkF m pc Ls (v :: .ref a :: st)) P := by
  obtain ⟨locs, X, e0, N, Z0⟩ := S
  obtain ⟨hx, hZ, hby, hown, -, -, -, hnm⟩ := C
  obtain ⟨T', h', X', e', W, stp⟩ := putF X hx hZ hown (host := "") (Or.inl w) Via.refl e0 F E (L.imp id fun q => ⟨q.1, q.2.1, hnm.trans q.2.2⟩) wi hty hn hf (g := mkF m pc Ls (v :: .ref a :: st)) rfl rfl (hb hby hd)
  exact via stp (k T' h' ⟨_, X', e', Fr.snoc X' N ge, Nat.le_trans Z0 (Keep.of_wr W).1⟩ W)
end OwnKit2
section OwnKit3
variable {p : Program} {l : Launch} {e : Env} {R : Room} {s : State} {m : MethodId} {args : Array Value} {below : List Frame} {meth : Method} {c : Code} {T : State} {h h' : Heap} {cells slots n0 : Nat} {Z : State} {a0 : Array Value} {bytes : ByteArray} {own : String} {maxL : Nat} {ret : Option FieldType} {nm : String} {P : State → Outcome → Prop} {pc pc' : Nat} {Ls Ls' : Array Slot} {st : List Value}
/-- a slot that holds nothing or one word -/
def Sl (o : Slot) : Prop := o = .unset ∨ ∃ w : Value, o = .val w ∧ w.category = 1
theorem Sl.i (x : Int32) : Sl (.val (.int x)) := Or.inr ⟨_, rfl, rfl⟩
theorem Sl.u : Sl .unset := Or.inl rfl
theorem own_istoreG (S : St p l e R s m args below meth c n0 T h cells slots) (C : Cx p s Z m meth c bytes own maxL ret nm) {k : Nat} {x : Int32} {o : Slot} (ho : Sl o) (hd : decode bytes pc = .ok (.istore k, 2)) (hold : Ls[k]? = some o) (hL : Ls.setIfInBounds k (.val (.int x)) = Ls')
    (q : Con p e below T (mkF m (pc + 2) Ls' st) P) : Con p e below T (mkF m pc Ls (.int x :: st)) P := by
  obtain ⟨locs, X, -⟩ := S
  obtain ⟨hx, -, hby, -⟩ := C
  subst hL
  exact via (fun t z => XS.istoreS X.here hx rfl (hb hby hd) rfl hold ho z) q
theorem own_istoreGN (S : St p l e R s m args below meth c n0 T h cells slots) (C : Cx p s Z m meth c bytes own maxL ret nm) {k : Fin 4} {x : Int32} {o : Slot} (ho : Sl o) (hd : decode bytes pc = .ok (.istore_n k, 1)) (hold : Ls[k.val]? = some o) (hL : Ls.setIfInBounds k.val (.val (.int x)) = Ls')
    (q : Con p e below T (mkF m (pc + 1) Ls' st) P) : Con p e below T (mkF m pc Ls (.int x :: st)) P := by
  obtain ⟨locs, X, -⟩ := S
  obtain ⟨hx, -, hby, -⟩ := C
  subst hL
  exact via (fun t z => XS.istoreNS X.here hx rfl (hb hby hd) rfl hold ho z) q
theorem own_ne {a b : Addr} (l : a < h.size) (e : b = h.size) : a ≠ b := by rw [e]; exact Nat.ne_of_lt l
theorem own_nl {a b : Addr} (l : a < h.size) (e : b = h.size) : @LT.lt Nat _ a b := by rw [e]; exact l
theorem St.size (S : St p l e R s m args below meth c n0 T h cells slots) : n0 ≤ h.size := by obtain ⟨_, _, _, _, q⟩ := S; exact q
end OwnKit3
section OwnKit4
variable {p : Program} {l : Launch} {e : Env} {R : Room} {s : State} {m : MethodId} {args : Array Value} {below : List Frame} {meth : Method} {c : Code} {T : State} {h h' : Heap} {cells slots n0 : Nat} {Z : State} {a0 : Array Value} {bytes : ByteArray} {own : String} {maxL : Nat} {ret : Option FieldType} {nm : String} {P : State → Outcome → Prop} {pc pc' : Nat} {Ls : Array Slot} {st : List Value}
theorem own_initO (S : St p l e R s m args below meth c n0 T h cells slots) (C : Cx p s Z m meth c bytes own maxL ret nm) {idx : Nat} (w1 : (Jvm.Cond.methodLink own idx Lib.objectInit).before a0 Z = true) (w2 : (Jvm.Cond.instanceMethod Lib.objectInit).before a0 Z = true) (w3 : (Jvm.Cond.code Lib.objectInit object_method_1_code 1 none).before a0 Z = true) {a : Addr} (hd : decode bytes pc = .ok (.invokespecial idx, 3)) (hf : 1 ≤ R.frames) (hsz : Ls.size = maxL) (W : Nat) (hW : (st.map fun v => v.category).sum ≤ W) (hl : W + 12 ≤ R.locals)
    (k : ∀ T' : State, St p l e R s m args below meth c n0 T' h cells slots → Con p e below T' (mkF m (pc + 3) Ls st) P) : Con p e below T (mkF m pc Ls (.ref a :: st)) P := by
  obtain ⟨locs, X, e0, N, Z0⟩ := S
  obtain ⟨hx, hZ, hby, hown, hml, -⟩ := C
  obtain ⟨T', X', e', stp⟩ := initO X hx hZ hown w1 w2 w3 e0 (g := mkF m pc Ls (.ref a :: st)) rfl (by rw [hml]; exact hsz) rfl (hb hby hd) hf (W := W) (by show 2 * 0 + _ ≤ _; omega) hl
  exact via stp (k T' ⟨locs, X', e', N, Z0⟩)
end OwnKit4
/-! numbers -/
theorem own_toInt (x : Int32) : x.toInt = x.toBitVec.toInt := rfl
theorem own_and_le (x m : Int32) (hm : 0 ≤ m.toInt) : 0 ≤ (x &&& m).toInt ∧ (x &&& m).toInt ≤ m.toInt := by
  have h1 : (x &&& m).toBitVec.toNat ≤ m.toBitVec.toNat := by rw [Int32.toBitVec_and, BitVec.toNat_and]; exact Nat.and_le_right
  have h2 := (x &&& m).toBitVec.isLt
  have h3 := m.toBitVec.isLt
  rw [own_toInt, BitVec.toInt_eq_toNat_cond] at hm ⊢
  rw [own_toInt m, BitVec.toInt_eq_toNat_cond]
  split at hm
  · rw [if_pos (by omega), if_pos (by omega)]; omega
  · omega
theorem own_add {x y : Int32} (h1 : -2147483648 ≤ x.toInt + y.toInt) (h2 : x.toInt + y.toInt < 2147483648) : (x + y).toInt = x.toInt + y.toInt := by
  rw [Int32.toInt_add]; exact Int.bmod_eq_of_le (by omega) (by omega)
theorem own_sub {x y : Int32} (h1 : -2147483648 ≤ x.toInt - y.toInt) (h2 : x.toInt - y.toInt < 2147483648) : (x - y).toInt = x.toInt - y.toInt := by
  rw [Int32.toInt_sub]; exact Int.bmod_eq_of_le (by omega) (by omega)
theorem own_div {x y : Int32} (hx : 0 ≤ x.toInt) (hy : 0 < y.toInt) : (x / y).toInt = x.toInt / y.toInt := by
  have h1 := x.toInt_lt
  have h2 : x.toInt / y.toInt ≤ x.toInt := Int.ediv_le_self _ hx
  have h3 : 0 ≤ x.toInt / y.toInt := Int.ediv_nonneg hx (by omega)
  rw [Int32.toInt_div, Int.tdiv_eq_ediv_of_nonneg hx]
  exact Int.bmod_eq_of_le (by omega) (by omega)
theorem own_rem {x y : Int32} (hx : 0 ≤ x.toInt) (hy : 0 < y.toInt) : (x - x / y * y).toInt = x.toInt % y.toInt := by
  have h1 := x.toInt_lt
  have hd := own_div hx hy
  have e1 : x.toInt / y.toInt * y.toInt + x.toInt % y.toInt = x.toInt := Int.ediv_mul_add_emod _ _
  have h3 : 0 ≤ x.toInt % y.toInt := Int.emod_nonneg _ (by omega)
  have h4 : 0 ≤ x.toInt / y.toInt := Int.ediv_nonneg hx (by omega)
  have h5 : 0 ≤ x.toInt / y.toInt * y.toInt := Int.mul_nonneg h4 (by omega)
  have hm : (x / y * y).toInt = x.toInt / y.toInt * y.toInt := by
    rw [Int32.toInt_mul, hd]; exact Int.bmod_eq_of_le (by omega) (by omega)
  rw [own_sub (by rw [hm]; omega) (by rw [hm]; omega), hm]; omega
theorem own_ofNat {x : Int32} (h : 0 ≤ x.toInt) : x = Int32.ofNat x.toInt.toNat := by
  apply Int32.toInt_inj.mp
  have := x.toInt_lt
  rw [Int32.toInt_ofNat_of_lt (by omega)]; omega
theorem own_n2 {n : Nat} (h : n < 2147483648) : (Int32.ofNat n).toInt = (n : Int) := Int32.toInt_ofNat_of_lt h
theorem own_n3 {n : Nat} (h : n < 2147483648) : (Int32.ofNat n).toNatClampNeg = n := by
  rw [show (Int32.ofNat n).toNatClampNeg = (Int32.ofNat n).toInt.toNat from rfl, own_n2 h]; rfl
theorem own_succ (n : Nat) : Int32.ofNat n + (1 : Int32) = Int32.ofNat (n + 1) := (Int32.ofNat_add n 1).symm
theorem own_ushr (x k : Int32) (n : Nat) (hk : (k &&& 31).toUInt32.toNat = n) (h1 : 1 ≤ n) (h2 : n < 32) : 0 ≤ (XT.ushr x k).toInt ∧ (XT.ushr x k).toInt < 2 ^ (32 - n) := by
  have e : (XT.ushr x k).toBitVec.toNat = x.toUInt32.toNat >>> n := by
    show (x.toUInt32 >>> (k &&& 31).toUInt32).toNat = _
    rw [UInt32.toNat_shiftRight, hk, Nat.mod_eq_of_lt h2]
  have hx := x.toUInt32.toNat_lt
  have hb : x.toUInt32.toNat >>> n < 2 ^ (32 - n) := by
    rw [Nat.shiftRight_eq_div_pow]
    apply Nat.div_lt_of_lt_mul
    rw [← Nat.pow_add, show n + (32 - n) = 32 by omega]; exact hx
  have hp : 2 ^ (32 - n) ≤ 2 ^ 31 := Nat.pow_le_pow_right (by decide) (by omega)
  rw [own_toInt, BitVec.toInt_eq_toNat_cond, e, if_pos (by omega)]
  exact ⟨Int.natCast_nonneg _, by exact_mod_cast hb⟩
def own_min (a : Int32) (b : Int32) : Int32 := (if if_icmp.holds .gt a b = true then b else a)
theorem ef_own_min (m : MethodId) (a : Int32) (b : Int32) : entryFrame m #[(.int a), (.int b)] 2 = mkF m 0 #[.val (.int a), .val (.int b)] [] := by first | (simp [entryFrame, mkF, argsToLocals, Value.category]; done) | rfl
theorem pn_own_min : plainFor (⟨"java/lang/Math", "min", "(II)I"⟩ : MethodName) = true := by first | (exact plainFor_of_name (by first | (simp [plainName, overriddenIn]; done) | decide +kernel)) | decide +kernel
set_option maxRecDepth 65536 in
set_option maxHeartbeats 40000000 in
theorem rm_own_min (l : Launch) (Z : State) (a0 : Array Value) (hw : ∀ d ∈ tables_1, d.before a0 Z = true) (ws : List Jvm.Cond) (a : Int32) (b : Int32) (h : Heap) (n0 : Nat) (Z0 : n0 ≤ h.size) :
    Mt l Z (⟨"java/lang/Math", "min", "(II)I"⟩ : MethodName) jdk_29_method_69_code 2 (some .int) ws ({ frames := 0, cells := 0, slots := 0, locals := 0 } : Room) #[(.int a), (.int b)] h n0 (fun v h' => v = some (.int (own_min a b)) ∧ h' = h) := by
  refine Mt.of (own := "java/lang/Math") (nm := "min") pn_own_min Z0 (Ls := #[.val (.int a), .val (.int b)]) (fun m => ef_own_min m a b) rfl rfl (fun p e s m below meth c T C S => ?_)
  obtain ⟨r, hr⟩ : ∃ r, own_min a b = r := ⟨_, rfl⟩
  rw [hr]
  unfold own_min at hr
  refine own_run S C [.iload_n 0, .iload_n 1] (pc' := 2) (Ls' := #[.val (.int a), .val (.int b)]) (st' := [(.int b), (.int a)]) (by decide +kernel) rfl ?_
  refine own_icmp S C (cd := .gt) (o := 7) (by decide +kernel) (pc' := 9) ⟨by decide, by decide⟩ (fun hc2_0 => ?_) (fun hc2_0 => ?_)
  · skip
    rw [if_pos hc2_0] at hr
    refine own_run S C [.iload_n 1] (pc' := 10) (Ls' := #[.val (.int a), .val (.int b)]) (st' := [(.int b)]) (by decide +kernel) rfl ?_
    subst hr
    exact own_reti S C (by decide +kernel) (Nat.zero_le _) (Nat.zero_le _) ⟨rfl, rfl⟩
  · skip
    rw [if_neg (Bool.eq_false_iff.mp hc2_0)] at hr
    refine own_run S C [.iload_n 0, .goto 4] (pc' := 10) (Ls' := #[.val (.int a), .val (.int b)]) (st' := [(.int a)]) (by decide +kernel) rfl ?_
    subst hr
    exact own_reti S C (by decide +kernel) (Nat.zero_le _) (Nat.zero_le _) ⟨rfl, rfl⟩
def own_cnt (k : Int32) (e0 : Int32) (e1 : Int32) (e2 : Int32) : Int32 := (if if_icmp.holds .le e0 k = true then (if if_icmp.holds .le e1 k = true then (if if_icmp.holds .le e2 k = true then (((0 : Int32) + (0 : Int32)) + (0 : Int32)) else (((0 : Int32) + (0 : Int32)) + (1 : Int32))) else (if if_icmp.holds .le e2 k = true then (((0 : Int32) + (1 : Int32)) + (0 : Int32)) else (((0 : Int32) + (1 : Int32)) + (1 : Int32)))) else (if if_icmp.holds .le e1 k = true then (if if_icmp.holds .le e2 k = true then (((1 : Int32) + (0 : Int32)) + (0 : Int32)) else (((1 : Int32) + (0 : Int32)) + (1 : Int32))) else (if if_icmp.holds .le e2 k = true then (((1 : Int32) + (1 : Int32)) + (0 : Int32)) else (((1 : Int32) + (1 : Int32)) + (1 : Int32)))))
theorem ef_own_cnt (m : MethodId) (k : Int32) (e0 : Int32) (e1 : Int32) (e2 : Int32) : entryFrame m #[(.int k), (.int e0), (.int e1), (.int e2)] 4 = mkF m 0 #[.val (.int k), .val (.int e0), .val (.int e1), .val (.int e2)] [] := by first | (simp [entryFrame, mkF, argsToLocals, Value.category]; done) | rfl
theorem pn_own_cnt : plainFor (⟨"com/example/holdfast/holdfast/fill/UnitOrderNextPinLaw", "cnt", "(IIII)I"⟩ : MethodName) = true := by first | (exact plainFor_of_name (by first | (simp [plainName, overriddenIn]; done) | decide +kernel)) | decide +kernel
set_option maxRecDepth 65536 in
set_option maxHeartbeats 40000000 in
theorem rm_own_cnt (l : Launch) (Z : State) (a0 : Array Value) (hw : ∀ d ∈ tables_1, d.before a0 Z = true) (ws : List Jvm.Cond) (k : Int32) (e0 : Int32) (e1 : Int32) (e2 : Int32) (h : Heap) (n0 : Nat) (Z0 : n0 ≤ h.size) :
    Mt l Z (⟨"com/example/holdfast/holdfast/fill/UnitOrderNextPinLaw", "cnt", "(IIII)I"⟩ : MethodName) method_5_code 4 (some .int) ws ({ frames := 0, cells := 0, slots := 0, locals := 0 } : Room) #[(.int k), (.int e0), (.int e1), (.int e2)] h n0 (fun v h' => v = some (.int (own_cnt k e0 e1 e2)) ∧ h' = h) := by
  refine Mt.of (own := "com/example/holdfast/holdfast/fill/UnitOrderNextPinLaw") (nm := "cnt") pn_own_cnt Z0 (Ls := #[.val (.int k), .val (.int e0), .val (.int e1), .val (.int e2)]) (fun m => ef_own_cnt m k e0 e1 e2) rfl rfl (fun p e s m below meth c T C S => ?_)
  obtain ⟨r, hr⟩ : ∃ r, own_cnt k e0 e1 e2 = r := ⟨_, rfl⟩
  rw [hr]
  unfold own_cnt at hr
  refine own_run S C [.iload_n 1, .iload_n 0] (pc' := 2) (Ls' := #[.val (.int k), .val (.int e0), .val (.int e1), .val (.int e2)]) (st' := [(.int k), (.int e0)]) (by decide +kernel) rfl ?_
  refine own_icmp S C (cd := .le) (o := 7) (by decide +kernel) (pc' := 9) ⟨by decide, by decide⟩ (fun hc2_0 => ?_) (fun hc2_0 => ?_)
  · skip
    rw [if_pos hc2_0] at hr
    refine own_run S C [.iconst 0, .iload_n 2, .iload_n 0] (pc' := 12) (Ls' := #[.val (.int k), .val (.int e0), .val (.int e1), .val (.int e2)]) (st' := [(.int k), (.int e1), (.int (0 : Int32))]) (by decide +kernel) rfl ?_
    refine own_icmp S C (cd := .le) (o := 7) (by decide +kernel) (pc' := 19) ⟨by decide, by decide⟩ (fun hc12_1 => ?_) (fun hc12_1 => ?_)
    · skip
      rw [if_pos hc12_1] at hr
      refine own_run S C [.iconst 0, .iadd, .iload_n 3, .iload_n 0] (pc' := 23) (Ls' := #[.val (.int k), .val (.int e0), .val (.int e1), .val (.int e2)]) (st' := [(.int k), (.int e2), (.int ((0 : Int32) + (0 : Int32)))]) (by decide +kernel) rfl ?_
      refine own_icmp S C (cd := .le) (o := 7) (by decide +kernel) (pc' := 30) ⟨by decide, by decide⟩ (fun hc23_2 => ?_) (fun hc23_2 => ?_)
      · skip
        rw [if_pos hc23_2] at hr
        refine own_run S C [.iconst 0, .iadd] (pc' := 32) (Ls' := #[.val (.int k), .val (.int e0), .val (.int e1), .val (.int e2)]) (st' := [(.int (((0 : Int32) + (0 : Int32)) + (0 : Int32)))]) (by decide +kernel) rfl ?_
        subst hr
        exact own_reti S C (by decide +kernel) (Nat.zero_le _) (Nat.zero_le _) ⟨rfl, rfl⟩
      · skip
        rw [if_neg (Bool.eq_false_iff.mp hc23_2)] at hr
        refine own_run S C [.iconst 1, .goto 4, .iadd] (pc' := 32) (Ls' := #[.val (.int k), .val (.int e0), .val (.int e1), .val (.int e2)]) (st' := [(.int (((0 : Int32) + (0 : Int32)) + (1 : Int32)))]) (by decide +kernel) rfl ?_
        subst hr
        exact own_reti S C (by decide +kernel) (Nat.zero_le _) (Nat.zero_le _) ⟨rfl, rfl⟩
    · skip
      rw [if_neg (Bool.eq_false_iff.mp hc12_1)] at hr
      refine own_run S C [.iconst 1, .goto 4, .iadd, .iload_n 3, .iload_n 0] (pc' := 23) (Ls' := #[.val (.int k), .val (.int e0), .val (.int e1), .val (.int e2)]) (st' := [(.int k), (.int e2), (.int ((0 : Int32) + (1 : Int32)))]) (by decide +kernel) rfl ?_
      refine own_icmp S C (cd := .le) (o := 7) (by decide +kernel) (pc' := 30) ⟨by decide, by decide⟩ (fun hc23_2 => ?_) (fun hc23_2 => ?_)
      · skip
        rw [if_pos hc23_2] at hr
        refine own_run S C [.iconst 0, .iadd] (pc' := 32) (Ls' := #[.val (.int k), .val (.int e0), .val (.int e1), .val (.int e2)]) (st' := [(.int (((0 : Int32) + (1 : Int32)) + (0 : Int32)))]) (by decide +kernel) rfl ?_
        subst hr
        exact own_reti S C (by decide +kernel) (Nat.zero_le _) (Nat.zero_le _) ⟨rfl, rfl⟩
      · skip
        rw [if_neg (Bool.eq_false_iff.mp hc23_2)] at hr
        refine own_run S C [.iconst 1, .goto 4, .iadd] (pc' := 32) (Ls' := #[.val (.int k), .val (.int e0), .val (.int e1), .val (.int e2)]) (st' := [(.int (((0 : Int32) + (1 : Int32)) + (1 : Int32)))]) (by decide +kernel) rfl ?_
        subst hr
        exact own_reti S C (by decide +kernel) (Nat.zero_le _) (Nat.zero_le _) ⟨rfl, rfl⟩
  · skip
    rw [if_neg (Bool.eq_false_iff.mp hc2_0)] at hr
    refine own_run S C [.iconst 1, .goto 4, .iload_n 2, .iload_n 0] (pc' := 12) (Ls' := #[.val (.int k), .val (.int e0), .val (.int e1), .val (.int e2)]) (st' := [(.int k), (.int e1), (.int (1 : Int32))]) (by decide +kernel) rfl ?_
    refine own_icmp S C (cd := .le) (o := 7) (by decide +kernel) (pc' := 19) ⟨by decide, by decide⟩ (fun hc12_1 => ?_) (fun hc12_1 => ?_)
    · skip
      rw [if_pos hc12_1] at hr
      refine own_run S C [.iconst 0, .iadd, .iload_n 3, .iload_n 0] (pc' := 23) (Ls' := #[.val (.int k), .val (.int e0), .val (.int e1), .val (.int e2)]) (st' := [(.int k), (.int e2), (.int ((1 : Int32) + (0 : Int32)))]) (by decide +kernel) rfl ?_
      refine own_icmp S C (cd := .le) (o := 7) (by decide +kernel) (pc' := 30) ⟨by decide, by decide⟩ (fun hc23_2 => ?_) (fun hc23_2 => ?_)
      · skip
        rw [if_pos hc23_2] at hr
        refine own_run S C [.iconst 0, .iadd] (pc' := 32) (Ls' := #[.val (.int k), .val (.int e0), .val (.int e1), .val (.int e2)]) (st' := [(.int (((1 : Int32) + (0 : Int32)) + (0 : Int32)))]) (by decide +kernel) rfl ?_
        subst hr
        exact own_reti S C (by decide +kernel) (Nat.zero_le _) (Nat.zero_le _) ⟨rfl, rfl⟩
      · skip
        rw [if_neg (Bool.eq_false_iff.mp hc23_2)] at hr
        refine own_run S C [.iconst 1, .goto 4, .iadd] (pc' := 32) (Ls' := #[.val (.int k), .val (.int e0), .val (.int e1), .val (.int e2)]) (st' := [(.int (((1 : Int32) + (0 : Int32)) + (1 : Int32)))]) (by decide +kernel) rfl ?_
        subst hr
        exact own_reti S C (by decide +kernel) (Nat.zero_le _) (Nat.zero_le _) ⟨rfl, rfl⟩
    · skip
      rw [if_neg (Bool.eq_false_iff.mp hc12_1)] at hr
      refine own_run S C [.iconst 1, .goto 4, .iadd, .iload_n 3, .iload_n 0] (pc' := 23) (Ls' := #[.val (.int k), .val (.int e0), .val (.int e1), .val (.int e2)]) (st' := [(.int k), (.int e2), (.int ((1 : Int32) + (1 : Int32)))]) (by decide +kernel) rfl ?_
      refine own_icmp S C (cd := .le) (o := 7) (by decide +kernel) (pc' := 30) ⟨by decide, by decide⟩ (fun hc23_2 => ?_) (fun hc23_2 => ?_)
      · skip
        rw [if_pos hc23_2] at hr
        refine own_run S C [.iconst 0, .iadd] (pc' := 32) (Ls' := #[.val (.int k), .val (.int e0), .val (.int e1), .val (.int e2)]) (st' := [(.int (((1 : Int32) + (1 : Int32)) + (0 : Int32)))]) (by decide +kernel) rfl ?_
        subst hr
        exact own_reti S C (by decide +kernel) (Nat.zero_le _) (Nat.zero_le _) ⟨rfl, rfl⟩
      · skip
        rw [if_neg (Bool.eq_false_iff.mp hc23_2)] at hr
        refine own_run S C [.iconst 1, .goto 4, .iadd] (pc' := 32) (Ls' := #[.val (.int k), .val (.int e0), .val (.int e1), .val (.int e2)]) (st' := [(.int (((1 : Int32) + (1 : Int32)) + (1 : Int32)))]) (by decide +kernel) rfl ?_
        subst hr
        exact own_reti S C (by decide +kernel) (Nat.zero_le _) (Nat.zero_le _) ⟨rfl, rfl⟩
def own_expd (k : Int32) (sv : Int32) (e0 : Int32) (e1 : Int32) (e2 : Int32) : Int32 := (if if_icmp.holds .ge k (own_cnt (0 : Int32) e0 e1 e2) = true then (if if_icmp.holds .ge k ((own_cnt (0 : Int32) e0 e1 e2) + (own_cnt (1 : Int32) e0 e1 e2)) = true then (if if_icmp.holds .ge k (((own_cnt (0 : Int32) e0 e1 e2) + (own_cnt (1 : Int32) e0 e1 e2)) + (own_cnt (2 : Int32) e0 e1 e2)) = true then (if if_icmp.holds .le e0 (3 : Int32) = true then (if if_icmp.holds .le e1 (3 : Int32) = true then (((sv + e0) + e1) + (3 : Int32)) else (if if_icmp.holds .ne ((((k - (own_cnt (0 : Int32) e0 e1 e2)) - (own_cnt (1 : Int32) e0 e1 e2)) - (own_cnt (2 : Int32) e0 e1 e2)) - (0 : Int32)) (0 : Int32) = true then (((sv + e0) + e1) + (3 : Int32)) else ((sv + e0) + (3 : Int32)))) else (if if_icmp.holds .ne (((k - (own_cnt (0 : Int32) e0 e1 e2)) - (own_cnt (1 : Int32) e0 e1 e2)) - (own_cnt (2 : Int32) e0 e1 e2)) (0 : Int32) = true then (if if_icmp.holds .le e1 (3 : Int32) = true then (((sv + e0) + e1) + (3 : Int32)) else (if if_icmp.holds .ne ((((k - (own_cnt (0 : Int32) e0 e1 e2)) - (own_cnt (1 : Int32) e0 e1 e2)) - (own_cnt (2 : Int32) e0 e1 e2)) - (1 : Int32)) (0 : Int32) = true then (((sv + e0) + e1) + (3 : Int32)) else ((sv + e0) + (3 : Int32)))) else (sv + (3 : Int32)))) else (if if_icmp.holds .le e0 (2 : Int32) = true then (if if_icmp.holds .le e1 (2 : Int32) = true then (((sv + e0) + e1) + (2 : Int32)) else (if if_icmp.holds .ne (((k - (own_cnt (0 : Int32) e0 e1 e2)) - (own_cnt (1 : Int32) e0 e1 e2)) - (0 : Int32)) (0 : Int32) = true then (((sv + e0) + e1) + (2 : Int32)) else ((sv + e0) + (2 : Int32)))) else (if if_icmp.holds .ne ((k - (own_cnt (0 : Int32) e0 e1 e2)) - (own_cnt (1 : Int32) e0 e1 e2)) (0 : Int32) = true then (if if_icmp.holds .le e1 (2 : Int32) = true then (((sv + e0) + e1) + (2 : Int32)) else (if if_icmp.holds .ne (((k - (own_cnt (0 : Int32) e0 e1 e2)) - (own_cnt (1 : Int32) e0 e1 e2)) - (1 : Int32)) (0 : Int32) = true then (((sv + e0) + e1) + (2 : Int32)) else ((sv + e0) + (2 : Int32)))) else (sv + (2 : Int32))))) else (if if_icmp.holds .le e0 (1 : Int32) = true then (if if_icmp.holds .le e1 (1 : Int32) = true then (((sv + e0) + e1) + (1 : Int32)) else (if if_icmp.holds .ne ((k - (own_cnt (0 : Int32) e0 e1 e2)) - (0 : Int32)) (0 : Int32) = true then (((sv + e0) + e1) + (1 : Int32)) else ((sv + e0) + (1 : Int32)))) else (if if_icmp.holds .ne (k - (own_cnt (0 : Int32) e0 e1 e2)) (0 : Int32) = true then (if if_icmp.holds .le e1 (1 : Int32) = true then (((sv + e0) + e1) + (1 : Int32)) else (if if_icmp.holds .ne ((k - (own_cnt (0 : Int32) e0 e1 e2)) - (1 : Int32)) (0 : Int32) = true then (((sv + e0) + e1) + (1 : Int32)) else ((sv + e0) + (1 : Int32)))) else (sv + (1 : Int32))))) else (if if_icmp.holds .le e0 (0 : Int32) = true then (if if_icmp.holds .le e1 (0 : Int32) = true then (((sv + e0) + e1) + (0 : Int32)) else (if if_icmp.holds .ne (k - (0 : Int32)) (0 : Int32) = true then (((sv + e0) + e1) + (0 : Int32)) else ((sv + e0) + (0 : Int32)))) else (if if_icmp.holds .ne k (0 : Int32) = true then (if if_icmp.holds .le e1 (0 : Int32) = true then (((sv + e0) + e1) + (0 : Int32)) else (if if_icmp.holds .ne (k - (1 : Int32)) (0 : Int32) = true then (((sv + e0) + e1) + (0 : Int32)) else ((sv + e0) + (0 : Int32)))) else (sv + (0 : Int32)))))
theorem ef_own_expd (m : MethodId) (k : Int32) (sv : Int32) (e0 : Int32) (e1 : Int32) (e2 : Int32) : entryFrame m #[(.int k), (.int sv), (.int e0), (.int e1), (.int e2)] 12 = mkF m 0 #[.val (.int k), .val (.int sv), .val (.int e0), .val (.int e1), .val (.int e2), .unset, .unset, .unset, .unset, .unset, .unset, .unset] [] := by first | (simp [entryFrame, mkF, argsToLocals, Value.category]; done) | rfl
theorem pn_own_expd : plainFor (⟨"com/example/holdfast/holdfast/fill/UnitOrderNextPinLaw", "expected", "(IIIII)I"⟩ : MethodName) = true := by first | (exact plainFor_of_name (by first | (simp [plainName, overriddenIn]; done) | decide +kernel)) | decide +kernel
set_option maxRecDepth 65536 in
set_option maxHeartbeats 40000000 in
theorem rm_own_expd (l : Launch) (Z : State) (a0 : Array Value) (hw : ∀ d ∈ tables_1, d.before a0 Z = true) (ws : List Jvm.Cond) (k : Int32) (sv : Int32) (e0 : Int32) (e1 : Int32) (e2 : Int32) (h : Heap) (n0 : Nat) (Z0 : n0 ≤ h.size) :
    Mt l Z (⟨"com/example/holdfast/holdfast/fill/UnitOrderNextPinLaw", "expected", "(IIIII)I"⟩ : MethodName) method_6_code 12 (some .int) ws ({ frames := 1, cells := 0, slots := 0, locals := 15 } : Room) #[(.int k), (.int sv), (.int e0), (.int e1), (.int e2)] h n0 (fun v h' => v = some (.int (own_expd k sv e0 e1 e2)) ∧ h' = h) := by
  refine Mt.of (own := "com/example/holdfast/holdfast/fill/UnitOrderNextPinLaw") (nm := "expected") pn_own_expd Z0 (Ls := #[.val (.int k), .val (.int sv), .val (.int e0), .val (.int e1), .val (.int e2), .unset, .unset, .unset, .unset, .unset, .unset, .unset]) (fun m => ef_own_expd m k sv e0 e1 e2) rfl rfl (fun p e s m below meth c T C S => ?_)
  obtain ⟨r, hr⟩ : ∃ r, own_expd k sv e0 e1 e2 = r := ⟨_, rfl⟩
  rw [hr]
  unfold own_expd at hr
  refine own_run S C [.iconst 0, .iload_n 2, .iload_n 3, .iload 4] (pc' := 5) (Ls' := #[.val (.int k), .val (.int sv), .val (.int e0), .val (.int e1), .val (.int e2), .unset, .unset, .unset, .unset, .unset, .unset, .unset]) (st' := [(.int e2), (.int e1), (.int e0), (.int (0 : Int32))]) (by decide +kernel) rfl ?_
  refine own_callS S C (y := (⟨"com/example/holdfast/holdfast/fill/UnitOrderNextPinLaw", "cnt", "(IIII)I"⟩ : MethodName)) (hw _ (List.mem_of_getElem? (i := 43) rfl)) (hw _ (List.mem_of_getElem? (i := 44) rfl)) (hw _ (List.mem_of_getElem? (i := 9) rfl)) (hw _ (List.mem_of_getElem? (i := 45) rfl)) (by decide) (rm_own_cnt l Z a0 hw [] (0 : Int32) e0 e1 e2 h n0 Z0) 0 (by decide) (by decide) (ps := [.int, .int, .int, .int]) (r := (some .int)) (by decide +kernel) [(.int (0 : Int32)), (.int e0), (.int e1), (.int e2)] [] rfl rfl rfl (Nat.le_of_eq rfl) rfl (by decide +kernel) (by decide) (by decide) (fun v T2 h3 S1 q => ?_)
  obtain ⟨rfl, hh⟩ := q
  rw [hh] at S1
  show Con p e below _ (mkF m 8 #[.val (.int k), .val (.int sv), .val (.int e0), .val (.int e1), .val (.int e2), .unset, .unset, .unset, .unset, .unset, .unset, .unset] [(.int (own_cnt (0 : Int32) e0 e1 e2))]) _
  refine own_run S1 C [.istore 5, .iconst 1, .iload_n 2, .iload_n 3, .iload 4] (pc' := 15) (Ls' := #[.val (.int k), .val (.int sv), .val (.int e0), .val (.int e1), .val (.int e2), .val (.int (own_cnt (0 : Int32) e0 e1 e2)), .unset, .unset, .unset, .unset, .unset, .unset]) (st' := [(.int e2), (.int e1), (.int e0), (.int (1 : Int32))]) (by decide +kernel) rfl ?_
  refine own_callS S1 C (y := (⟨"com/example/holdfast/holdfast/fill/UnitOrderNextPinLaw", "cnt", "(IIII)I"⟩ : MethodName)) (hw _ (List.mem_of_getElem? (i := 43) rfl)) (hw _ (List.mem_of_getElem? (i := 44) rfl)) (hw _ (List.mem_of_getElem? (i := 9) rfl)) (hw _ (List.mem_of_getElem? (i := 45) rfl)) (by decide) (rm_own_cnt l Z a0 hw [] (1 : Int32) e0 e1 e2 h n0 Z0) 0 (by decide) (by decide) (ps := [.int, .int, .int, .int]) (r := (some .int)) (by decide +kernel) [(.int (1 : Int32)), (.int e0), (.int e1), (.int e2)] [] rfl rfl rfl (Nat.le_of_eq rfl) rfl (by decide +kernel) (by decide) (by decide) (fun v T5 h6 S4 q => ?_)
  obtain ⟨rfl, hh⟩ := q
  rw [hh] at S4
  show Con p e below _ (mkF m 18 #[.val (.int k), .val (.int sv), .val (.int e0), .val (.int e1), .val (.int e2), .val (.int (own_cnt (0 : Int32) e0 e1 e2)), .unset, .unset, .unset, .unset, .unset, .unset] [(.int (own_cnt (1 : Int32) e0 e1 e2))]) _
  refine own_run S4 C [.istore 6, .iconst 2, .iload_n 2, .iload_n 3, .iload 4] (pc' := 25) (Ls' := #[.val (.int k), .val (.int sv), .val (.int e0), .val (.int e1), .val (.int e2), .val (.int (own_cnt (0 : Int32) e0 e1 e2)), .val (.int (own_cnt (1 : Int32) e0 e1 e2)), .unset, .unset, .unset, .unset, .unset]) (st' := [(.int e2), (.int e1), (.int e0), (.int (2 : Int32))]) (by decide +kernel) rfl ?_
  refine own_callS S4 C (y := (⟨"com/example/holdfast/holdfast/fill/UnitOrderNextPinLaw", "cnt", "(IIII)I"⟩ : MethodName)) (hw _ (List.mem_of_getElem? (i := 43) rfl)) (hw _ (List.mem_of_getElem? (i := 44) rfl)) (hw _ (List.mem_of_getElem? (i := 9) rfl)) (hw _ (List.mem_of_getElem? (i := 45) rfl)) (by decide) (rm_own_cnt l Z a0 hw [] (2 : Int32) e0 e1 e2 h n0 Z0) 0 (by decide) (by decide) (ps := [.int, .int, .int, .int]) (r := (some .int)) (by decide +kernel) [(.int (2 : Int32)), (.int e0), (.int e1), (.int e2)] [] rfl rfl rfl (Nat.le_of_eq rfl) rfl (by decide +kernel) (by decide) (by decide) (fun v T8 h9 S7 q => ?_)
  obtain ⟨rfl, hh⟩ := q
  rw [hh] at S7
  show Con p e below _ (mkF m 28 #[.val (.int k), .val (.int sv), .val (.int e0), .val (.int e1), .val (.int e2), .val (.int (own_cnt (0 : Int32) e0 e1 e2)), .val (.int (own_cnt (1 : Int32) e0 e1 e2)), .unset, .unset, .unset, .unset, .unset] [(.int (own_cnt (2 : Int32) e0 e1 e2))]) _
  refine own_run S7 C [.istore 7, .iload_n 0, .iload 5] (pc' := 33) (Ls' := #[.val (.int k), .val (.int sv), .val (.int e0), .val (.int e1), .val (.int e2), .val (.int (own_cnt (0 : Int32) e0 e1 e2)), .val (.int (own_cnt (1 : Int32) e0 e1 e2)), .val (.int (own_cnt (2 : Int32) e0 e1 e2)), .unset, .unset, .unset, .unset]) (st' := [(.int (own_cnt (0 : Int32) e0 e1 e2)), (.int k)]) (by decide +kernel) rfl ?_
  refine own_icmp S7 C (cd := .ge) (o := 12) (by decide +kernel) (pc' := 45) ⟨by decide, by decide⟩ (fun hc33_0 => ?_) (fun hc33_0 => ?_)
  · skip
    rw [if_pos hc33_0] at hr
    refine own_run S7 C [.iload_n 0, .iload 5, .iload 6, .iadd] (pc' := 51) (Ls' := #[.val (.int k), .val (.int sv), .val (.int e0), .val (.int e1), .val (.int e2), .val (.int (own_cnt (0 : Int32) e0 e1 e2)), .val (.int (own_cnt (1 : Int32) e0 e1 e2)), .val (.int (own_cnt (2 : Int32) e0 e1 e2)), .unset, .unset, .unset, .unset]) (st' := [(.int ((own_cnt (0 : Int32) e0 e1 e2) + (own_cnt (1 : Int32) e0 e1 e2))), (.int k)]) (by decide +kernel) rfl ?_
    refine own_icmp S7 C (cd := .ge) (o := 15) (by decide +kernel) (pc' := 66) ⟨by decide, by decide⟩ (fun hc51_1 => ?_) (fun hc51_1 => ?_)
    · skip
      rw [if_pos hc51_1] at hr
      refine own_run S7 C [.iload_n 0, .iload 5, .iload 6, .iadd, .iload 7, .iadd] (pc' := 75) (Ls' := #[.val (.int k), .val (.int sv), .val (.int e0), .val (.int e1), .val (.int e2), .val (.int (own_cnt (0 : Int32) e0 e1 e2)), .val (.int (own_cnt (1 : Int32) e0 e1 e2)), .val (.int (own_cnt (2 : Int32) e0 e1 e2)), .unset, .unset, .unset, .unset]) (st' := [(.int (((own_cnt (0 : Int32) e0 e1 e2) + (own_cnt (1 : Int32) e0 e1 e2)) + (own_cnt (2 : Int32) e0 e1 e2))), (.int k)]) (by decide +kernel) rfl ?_
      refine own_icmp S7 C (cd := .ge) (o := 18) (by decide +kernel) (pc' := 93) ⟨by decide, by decide⟩ (fun hc75_2 => ?_) (fun hc75_2 => ?_)
      · skip
        rw [if_pos hc75_2] at hr
        refine own_run S7 C [.iconst 3, .istore 8, .iload_n 0, .iload 5, .isub, .iload 6, .isub, .iload 7, .isub, .istore 9, .iload_n 2, .iload 8] (pc' := 111) (Ls' := #[.val (.int k), .val (.int sv), .val (.int e0), .val (.int e1), .val (.int e2), .val (.int (own_cnt (0 : Int32) e0 e1 e2)), .val (.int (own_cnt (1 : Int32) e0 e1 e2)), .val (.int (own_cnt (2 : Int32) e0 e1 e2)), .val (.int (3 : Int32)), .val (.int (((k - (own_cnt (0 : Int32) e0 e1 e2)) - (own_cnt (1 : Int32) e0 e1 e2)) - (own_cnt (2 : Int32) e0 e1 e2))), .unset, .unset]) (st' := [(.int (3 : Int32)), (.int e0)]) (by decide +kernel) rfl ?_
        refine own_icmp S7 C (cd := .le) (o := 14) (by decide +kernel) (pc' := 125) ⟨by decide, by decide⟩ (fun hc111_3 => ?_) (fun hc111_3 => ?_)
        · skip
          rw [if_pos hc111_3] at hr
          refine own_run S7 C [.iload 9, .iload_n 2, .iload 8] (pc' := 130) (Ls' := #[.val (.int k), .val (.int sv), .val (.int e0), .val (.int e1), .val (.int e2), .val (.int (own_cnt (0 : Int32) e0 e1 e2)), .val (.int (own_cnt (1 : Int32) e0 e1 e2)), .val (.int (own_cnt (2 : Int32) e0 e1 e2)), .val (.int (3 : Int32)), .val (.int (((k - (own_cnt (0 : Int32) e0 e1 e2)) - (own_cnt (1 : Int32) e0 e1 e2)) - (own_cnt (2 : Int32) e0 e1 e2))), .unset, .unset]) (st' := [(.int (3 : Int32)), (.int e0), (.int (((k - (own_cnt (0 : Int32) e0 e1 e2)) - (own_cnt (1 : Int32) e0 e1 e2)) - (own_cnt (2 : Int32) e0 e1 e2)))]) (by decide +kernel) rfl ?_
          refine own_icmp S7 C (cd := .le) (o := 7) (by decide +kernel) (pc' := 137) ⟨by decide, by decide⟩ (fun _ => ?_) (fun hc => absurd (hc111_3.symm.trans hc) (by decide))
          refine own_run S7 C [.iconst 0, .isub, .istore 11, .iload_n 3, .iload 8] (pc' := 144) (Ls' := #[.val (.int k), .val (.int sv), .val (.int e0), .val (.int e1), .val (.int e2), .val (.int (own_cnt (0 : Int32) e0 e1 e2)), .val (.int (own_cnt (1 : Int32) e0 e1 e2)), .val (.int (own_cnt (2 : Int32) e0 e1 e2)), .val (.int (3 : Int32)), .val (.int (((k - (own_cnt (0 : Int32) e0 e1 e2)) - (own_cnt (1 : Int32) e0 e1 e2)) - (own_cnt (2 : Int32) e0 e1 e2))), .unset, .val (.int ((((k - (own_cnt (0 : Int32) e0 e1 e2)) - (own_cnt (1 : Int32) e0 e1 e2)) - (own_cnt (2 : Int32) e0 e1 e2)) - (0 : Int32)))]) (st' := [(.int (3 : Int32)), (.int e1)]) (by decide +kernel) rfl ?_
          refine own_icmp S7 C (cd := .le) (o := 14) (by decide +kernel) (pc' := 158) ⟨by decide, by decide⟩ (fun hc144_4 => ?_) (fun hc144_4 => ?_)
          · skip
            rw [if_pos hc144_4] at hr
            refine own_run S7 C [.iconst 2, .istore 10, .iload 10] (pc' := 163) (Ls' := #[.val (.int k), .val (.int sv), .val (.int e0), .val (.int e1), .val (.int e2), .val (.int (own_cnt (0 : Int32) e0 e1 e2)), .val (.int (own_cnt (1 : Int32) e0 e1 e2)), .val (.int (own_cnt (2 : Int32) e0 e1 e2)), .val (.int (3 : Int32)), .val (.int (((k - (own_cnt (0 : Int32) e0 e1 e2)) - (own_cnt (1 : Int32) e0 e1 e2)) - (own_cnt (2 : Int32) e0 e1 e2))), .val (.int (2 : Int32)), .val (.int ((((k - (own_cnt (0 : Int32) e0 e1 e2)) - (own_cnt (1 : Int32) e0 e1 e2)) - (own_cnt (2 : Int32) e0 e1 e2)) - (0 : Int32)))]) (st' := [(.int (2 : Int32))]) (by decide +kernel) rfl ?_
            refine own_if S7 C (cd := .ne) (o := 7) (by decide +kernel) (pc' := 170) ⟨by decide, by decide⟩ (fun _ => ?_) (fun hc => absurd hc (by decide))
            refine own_run S7 C [.iload 10, .iconst 1] (pc' := 173) (Ls' := #[.val (.int k), .val (.int sv), .val (.int e0), .val (.int e1), .val (.int e2), .val (.int (own_cnt (0 : Int32) e0 e1 e2)), .val (.int (own_cnt (1 : Int32) e0 e1 e2)), .val (.int (own_cnt (2 : Int32) e0 e1 e2)), .val (.int (3 : Int32)), .val (.int (((k - (own_cnt (0 : Int32) e0 e1 e2)) - (own_cnt (1 : Int32) e0 e1 e2)) - (own_cnt (2 : Int32) e0 e1 e2))), .val (.int (2 : Int32)), .val (.int ((((k - (own_cnt (0 : Int32) e0 e1 e2)) - (own_cnt (1 : Int32) e0 e1 e2)) - (own_cnt (2 : Int32) e0 e1 e2)) - (0 : Int32)))]) (st' := [(.int (1 : Int32)), (.int (2 : Int32))]) (by decide +kernel) rfl ?_
            refine own_icmp S7 C (cd := .ne) (o := 9) (by decide +kernel) (pc' := 182) ⟨by decide, by decide⟩ (fun _ => ?_) (fun hc => absurd hc (by decide))
            refine own_run S7 C [.iload_n 1, .iload_n 2, .iadd, .iload_n 3, .iadd, .istore 11, .iload 11, .iload 8, .iadd] (pc' := 194) (Ls' := #[.val (.int k), .val (.int sv), .val (.int e0), .val (.int e1), .val (.int e2), .val (.int (own_cnt (0 : Int32) e0 e1 e2)), .val (.int (own_cnt (1 : Int32) e0 e1 e2)), .val (.int (own_cnt (2 : Int32) e0 e1 e2)), .val (.int (3 : Int32)), .val (.int (((k - (own_cnt (0 : Int32) e0 e1 e2)) - (own_cnt (1 : Int32) e0 e1 e2)) - (own_cnt (2 : Int32) e0 e1 e2))), .val (.int (2 : Int32)), .val (.int ((sv + e0) + e1))]) (st' := [(.int (((sv + e0) + e1) + (3 : Int32)))]) (by decide +kernel) rfl ?_
            subst hr
            exact own_reti S7 C (by decide +kernel) (Nat.zero_le _) (Nat.zero_le _) ⟨rfl, rfl⟩
          · skip
            rw [if_neg (Bool.eq_false_iff.mp hc144_4)] at hr
            refine own_run S7 C [.iload 11] (pc' := 149) (Ls' := #[.val (.int k), .val (.int sv), .val (.int e0), .val (.int e1), .val (.int e2), .val (.int (own_cnt (0 : Int32) e0 e1 e2)), .val (.int (own_cnt (1 : Int32) e0 e1 e2)), .val (.int (own_cnt (2 : Int32) e0 e1 e2)), .val (.int (3 : Int32)), .val (.int (((k - (own_cnt (0 : Int32) e0 e1 e2)) - (own_cnt (1 : Int32) e0 e1 e2)) - (own_cnt (2 : Int32) e0 e1 e2))), .unset, .val (.int ((((k - (own_cnt (0 : Int32) e0 e1 e2)) - (own_cnt (1 : Int32) e0 e1 e2)) - (own_cnt (2 : Int32) e0 e1 e2)) - (0 : Int32)))]) (st' := [(.int ((((k - (own_cnt (0 : Int32) e0 e1 e2)) - (own_cnt (1 : Int32) e0 e1 e2)) - (own_cnt (2 : Int32) e0 e1 e2)) - (0 : Int32)))]) (by decide +kernel) rfl ?_
            refine own_if S7 C (cd := .ne) (o := 9) (by decide +kernel) (pc' := 158) ⟨by decide, by decide⟩ (fun hc149_5 => ?_) (fun hc149_5 => ?_)
            · skip
              rw [if_pos hc149_5] at hr
              refine own_run S7 C [.iconst 2, .istore 10, .iload 10] (pc' := 163) (Ls' := #[.val (.int k), .val (.int sv), .val (.int e0), .val (.int e1), .val (.int e2), .val (.int (own_cnt (0 : Int32) e0 e1 e2)), .val (.int (own_cnt (1 : Int32) e0 e1 e2)), .val (.int (own_cnt (2 : Int32) e0 e1 e2)), .val (.int (3 : Int32)), .val (.int (((k - (own_cnt (0 : Int32) e0 e1 e2)) - (own_cnt (1 : Int32) e0 e1 e2)) - (own_cnt (2 : Int32) e0 e1 e2))), .val (.int (2 : Int32)), .val (.int ((((k - (own_cnt (0 : Int32) e0 e1 e2)) - (own_cnt (1 : Int32) e0 e1 e2)) - (own_cnt (2 : Int32) e0 e1 e2)) - (0 : Int32)))]) (st' := [(.int (2 : Int32))]) (by decide +kernel) rfl ?_
              refine own_if S7 C (cd := .ne) (o := 7) (by decide +kernel) (pc' := 170) ⟨by decide, by decide⟩ (fun _ => ?_) (fun hc => absurd hc (by decide))
              refine own_run S7 C [.iload 10, .iconst 1] (pc' := 173) (Ls' := #[.val (.int k), .val (.int sv), .val (.int e0), .val (.int e1), .val (.int e2), .val (.int (own_cnt (0 : Int32) e0 e1 e2)), .val (.int (own_cnt (1 : Int32) e0 e1 e2)), .val (.int (own_cnt (2 : Int32) e0 e1 e2)), .val (.int (3 : Int32)), .val (.int (((k - (own_cnt (0 : Int32) e0 e1 e2)) - (own_cnt (1 : Int32) e0 e1 e2)) - (own_cnt (2 : Int32) e0 e1 e2))), .val (.int (2 : Int32)), .val (.int ((((k - (own_cnt (0 : Int32) e0 e1 e2)) - (own_cnt (1 : Int32) e0 e1 e2)) - (own_cnt (2 : Int32) e0 e1 e2)) - (0 : Int32)))]) (st' := [(.int (1 : Int32)), (.int (2 : Int32))]) (by decide +kernel) rfl ?_
              refine own_icmp S7 C (cd := .ne) (o := 9) (by decide +kernel) (pc' := 182) ⟨by decide, by decide⟩ (fun _ => ?_) (fun hc => absurd hc (by decide))
              refine own_run S7 C [.iload_n 1, .iload_n 2, .iadd, .iload_n 3, .iadd, .istore 11, .iload 11, .iload 8, .iadd] (pc' := 194) (Ls' := #[.val (.int k), .val (.int sv), .val (.int e0), .val (.int e1), .val (.int e2), .val (.int (own_cnt (0 : Int32) e0 e1 e2)), .val (.int (own_cnt (1 : Int32) e0 e1 e2)), .val (.int (own_cnt (2 : Int32) e0 e1 e2)), .val (.int (3 : Int32)), .val (.int (((k - (own_cnt (0 : Int32) e0 e1 e2)) - (own_cnt (1 : Int32) e0 e1 e2)) - (own_cnt (2 : Int32) e0 e1 e2))), .val (.int (2 : Int32)), .val (.int ((sv + e0) + e1))]) (st' := [(.int (((sv + e0) + e1) + (3 : Int32)))]) (by decide +kernel) rfl ?_
              subst hr
              exact own_reti S7 C (by decide +kernel) (Nat.zero_le _) (Nat.zero_le _) ⟨rfl, rfl⟩
            · skip
              rw [if_neg (Bool.eq_false_iff.mp hc149_5)] at hr
              refine own_run S7 C [.iconst 1, .istore 10, .goto 6, .iload 10] (pc' := 163) (Ls' := #[.val (.int k), .val (.int sv), .val (.int e0), .val (.int e1), .val (.int e2), .val (.int (own_cnt (0 : Int32) e0 e1 e2)), .val (.int (own_cnt (1 : Int32) e0 e1 e2)), .val (.int (own_cnt (2 : Int32) e0 e1 e2)), .val (.int (3 : Int32)), .val (.int (((k - (own_cnt (0 : Int32) e0 e1 e2)) - (own_cnt (1 : Int32) e0 e1 e2)) - (own_cnt (2 : Int32) e0 e1 e2))), .val (.int (1 : Int32)), .val (.int ((((k - (own_cnt (0 : Int32) e0 e1 e2)) - (own_cnt (1 : Int32) e0 e1 e2)) - (own_cnt (2 : Int32) e0 e1 e2)) - (0 : Int32)))]) (st' := [(.int (1 : Int32))]) (by decide +kernel) rfl ?_
              refine own_if S7 C (cd := .ne) (o := 7) (by decide +kernel) (pc' := 170) ⟨by decide, by decide⟩ (fun _ => ?_) (fun hc => absurd hc (by decide))
              refine own_run S7 C [.iload 10, .iconst 1] (pc' := 173) (Ls' := #[.val (.int k), .val (.int sv), .val (.int e0), .val (.int e1), .val (.int e2), .val (.int (own_cnt (0 : Int32) e0 e1 e2)), .val (.int (own_cnt (1 : Int32) e0 e1 e2)), .val (.int (own_cnt (2 : Int32) e0 e1 e2)), .val (.int (3 : Int32)), .val (.int (((k - (own_cnt (0 : Int32) e0 e1 e2)) - (own_cnt (1 : Int32) e0 e1 e2)) - (own_cnt (2 : Int32) e0 e1 e2))), .val (.int (1 : Int32)), .val (.int ((((k - (own_cnt (0 : Int32) e0 e1 e2)) - (own_cnt (1 : Int32) e0 e1 e2)) - (own_cnt (2 : Int32) e0 e1 e2)) - (0 : Int32)))]) (st' := [(.int (1 : Int32)), (.int (1 : Int32))]) (by decide +kernel) rfl ?_
              refine own_icmp S7 C (cd := .ne) (o := 9) (by decide +kernel) (pc' := 182) ⟨by decide, by decide⟩ (fun hc => absurd hc (by decide)) (fun _ => ?_)
              refine own_run S7 C [.iload_n 1, .iload_n 2, .iadd, .goto 8, .istore 11, .iload 11, .iload 8, .iadd] (pc' := 194) (Ls' := #[.val (.int k), .val (.int sv), .val (.int e0), .val (.int e1), .val (.int e2), .val (.int (own_cnt (0 : Int32) e0 e1 e2)), .val (.int (own_cnt (1 : Int32) e0 e1 e2)), .val (.int (own_cnt (2 : Int32) e0 e1 e2)), .val (.int (3 : Int32)), .val (.int (((k - (own_cnt (0 : Int32) e0 e1 e2)) - (own_cnt (1 : Int32) e0 e1 e2)) - (own_cnt (2 : Int32) e0 e1 e2))), .val (.int (1 : Int32)), .val (.int (sv + e0))]) (st' := [(.int ((sv + e0) + (3 : Int32)))]) (by decide +kernel) rfl ?_
              subst hr
              exact own_reti S7 C (by decide +kernel) (Nat.zero_le _) (Nat.zero_le _) ⟨rfl, rfl⟩
        · skip
          rw [if_neg (Bool.eq_false_iff.mp hc111_3)] at hr
          refine own_run S7 C [.iload 9] (pc' := 116) (Ls' := #[.val (.int k), .val (.int sv), .val (.int e0), .val (.int e1), .val (.int e2), .val (.int (own_cnt (0 : Int32) e0 e1 e2)), .val (.int (own_cnt (1 : Int32) e0 e1 e2)), .val (.int (own_cnt (2 : Int32) e0 e1 e2)), .val (.int (3 : Int32)), .val (.int (((k - (own_cnt (0 : Int32) e0 e1 e2)) - (own_cnt (1 : Int32) e0 e1 e2)) - (own_cnt (2 : Int32) e0 e1 e2))), .unset, .unset]) (st' := [(.int (((k - (own_cnt (0 : Int32) e0 e1 e2)) - (own_cnt (1 : Int32) e0 e1 e2)) - (own_cnt (2 : Int32) e0 e1 e2)))]) (by decide +kernel) rfl ?_
          refine own_if S7 C (cd := .ne) (o := 9) (by decide +kernel) (pc' := 125) ⟨by decide, by decide⟩ (fun hc116_4 => ?_) (fun hc116_4 => ?_)
          · skip
            rw [if_pos hc116_4] at hr
            refine own_run S7 C [.iload 9, .iload_n 2, .iload 8] (pc' := 130) (Ls' := #[.val (.int k), .val (.int sv), .val (.int e0), .val (.int e1), .val (.int e2), .val (.int (own_cnt (0 : Int32) e0 e1 e2)), .val (.int (own_cnt (1 : Int32) e0 e1 e2)), .val (.int (own_cnt (2 : Int32) e0 e1 e2)), .val (.int (3 : Int32)), .val (.int (((k - (own_cnt (0 : Int32) e0 e1 e2)) - (own_cnt (1 : Int32) e0 e1 e2)) - (own_cnt (2 : Int32) e0 e1 e2))), .unset, .unset]) (st' := [(.int (3 : Int32)), (.int e0), (.int (((k - (own_cnt (0 : Int32) e0 e1 e2)) - (own_cnt (1 : Int32) e0 e1 e2)) - (own_cnt (2 : Int32) e0 e1 e2)))]) (by decide +kernel) rfl ?_
            refine own_icmp S7 C (cd := .le) (o := 7) (by decide +kernel) (pc' := 137) ⟨by decide, by decide⟩ (fun hc => absurd (hc111_3.symm.trans hc) (by decide)) (fun _ => ?_)
            refine own_run S7 C [.iconst 1, .goto 4, .isub, .istore 11, .iload_n 3, .iload 8] (pc' := 144) (Ls' := #[.val (.int k), .val (.int sv), .val (.int e0), .val (.int e1), .val (.int e2), .val (.int (own_cnt (0 : Int32) e0 e1 e2)), .val (.int (own_cnt (1 : Int32) e0 e1 e2)), .val (.int (own_cnt (2 : Int32) e0 e1 e2)), .val (.int (3 : Int32)), .val (.int (((k - (own_cnt (0 : Int32) e0 e1 e2)) - (own_cnt (1 : Int32) e0 e1 e2)) - (own_cnt (2 : Int32) e0 e1 e2))), .unset, .val (.int ((((k - (own_cnt (0 : Int32) e0 e1 e2)) - (own_cnt (1 : Int32) e0 e1 e2)) - (own_cnt (2 : Int32) e0 e1 e2)) - (1 : Int32)))]) (st' := [(.int (3 : Int32)), (.int e1)]) (by decide +kernel) rfl ?_
            refine own_icmp S7 C (cd := .le) (o := 14) (by decide +kernel) (pc' := 158) ⟨by decide, by decide⟩ (fun hc144_5 => ?_) (fun hc144_5 => ?_)
            · skip
              rw [if_pos hc144_5] at hr
              refine own_run S7 C [.iconst 2, .istore 10, .iload 10] (pc' := 163) (Ls' := #[.val (.int k), .val (.int sv), .val (.int e0), .val (.int e1), .val (.int e2), .val (.int (own_cnt (0 : Int32) e0 e1 e2)), .val (.int (own_cnt (1 : Int32) e0 e1 e2)), .val (.int (own_cnt (2 : Int32) e0 e1 e2)), .val (.int (3 : Int32)), .val (.int (((k - (own_cnt (0 : Int32) e0 e1 e2)) - (own_cnt (1 : Int32) e0 e1 e2)) - (own_cnt (2 : Int32) e0 e1 e2))), .val (.int (2 : Int32)), .val (.int ((((k - (own_cnt (0 : Int32) e0 e1 e2)) - (own_cnt (1 : Int32) e0 e1 e2)) - (own_cnt (2 : Int32) e0 e1 e2)) - (1 : Int32)))]) (st' := [(.int (2 : Int32))]) (by decide +kernel) rfl ?_
              refine own_if S7 C (cd := .ne) (o := 7) (by decide +kernel) (pc' := 170) ⟨by decide, by decide⟩ (fun _ => ?_) (fun hc => absurd hc (by decide))
              refine own_run S7 C [.iload 10, .iconst 1] (pc' := 173) (Ls' := #[.val (.int k), .val (.int sv), .val (.int e0), .val (.int e1), .val (.int e2), .val (.int (own_cnt (0 : Int32) e0 e1 e2)), .val (.int (own_cnt (1 : Int32) e0 e1 e2)), .val (.int (own_cnt (2 : Int32) e0 e1 e2)), .val (.int (3 : Int32)), .val (.int (((k - (own_cnt (0 : Int32) e0 e1 e2)) - (own_cnt (1 : Int32) e0 e1 e2)) - (own_cnt (2 : Int32) e0 e1 e2))), .val (.int (2 : Int32)), .val (.int ((((k - (own_cnt (0 : Int32) e0 e1 e2)) - (own_cnt (1 : Int32) e0 e1 e2)) - (own_cnt (2 : Int32) e0 e1 e2)) - (1 : Int32)))]) (st' := [(.int (1 : Int32)), (.int (2 : Int32))]) (by decide +kernel) rfl ?_
              refine own_icmp S7 C (cd := .ne) (o := 9) (by decide +kernel) (pc' := 182) ⟨by decide, by decide⟩ (fun _ => ?_) (fun hc => absurd hc (by decide))
              refine own_run S7 C [.iload_n 1, .iload_n 2, .iadd, .iload_n 3, .iadd, .istore 11, .iload 11, .iload 8, .iadd] (pc' := 194) (Ls' := #[.val (.int k), .val (.int sv), .val (.int e0), .val (.int e1), .val (.int e2), .val (.int (own_cnt (0 : Int32) e0 e1 e2)), .val (.int (own_cnt (1 : Int32) e0 e1 e2)), .val (.int (own_cnt (2 : Int32) e0 e1 e2)), .val (.int (3 : Int32)), .val (.int (((k - (own_cnt (0 : Int32) e0 e1 e2)) - (own_cnt (1 : Int32) e0 e1 e2)) - (own_cnt (2 : Int32) e0 e1 e2))), .val (.int (2 : Int32)), .val (.int ((sv + e0) + e1))]) (st' := [(.int (((sv + e0) + e1) + (3 : Int32)))]) (by decide +kernel) rfl ?_
              subst hr
              exact own_reti S7 C (by decide +kernel) (Nat.zero_le _) (Nat.zero_le _) ⟨rfl, rfl⟩
            · skip
              rw [if_neg (Bool.eq_false_iff.mp hc144_5)] at hr
              refine own_run S7 C [.iload 11] (pc' := 149) (Ls' := #[.val (.int k), .val (.int sv), .val (.int e0), .val (.int e1), .val (.int e2), .val (.int (own_cnt (0 : Int32) e0 e1 e2)), .val (.int (own_cnt (1 : Int32) e0 e1 e2)), .val (.int (own_cnt (2 : Int32) e0 e1 e2)), .val (.int (3 : Int32)), .val (.int (((k - (own_cnt (0 : Int32) e0 e1 e2)) - (own_cnt (1 : Int32) e0 e1 e2)) - (own_cnt (2 : Int32) e0 e1 e2))), .unset, .val (.int ((((k - (own_cnt (0 : Int32) e0 e1 e2)) - (own_cnt (1 : Int32) e0 e1 e2)) - (own_cnt (2 : Int32) e0 e1 e2)) - (1 : Int32)))]) (st' := [(.int ((((k - (own_cnt (0 : Int32) e0 e1 e2)) - (own_cnt (1 : Int32) e0 e1 e2)) - (own_cnt (2 : Int32) e0 e1 e2)) - (1 : Int32)))]) (by decide +kernel) rfl ?_
              refine own_if S7 C (cd := .ne) (o := 9) (by decide +kernel) (pc' := 158) ⟨by decide, by decide⟩ (fun hc149_6 => ?_) (fun hc149_6 => ?_)
              · skip
                rw [if_pos hc149_6] at hr
                refine own_run S7 C [.iconst 2, .istore 10, .iload 10] (pc' := 163) (Ls' := #[.val (.int k), .val (.int sv), .val (.int e0), .val (.int e1), .val (.int e2), .val (.int (own_cnt (0 : Int32) e0 e1 e2)), .val (.int (own_cnt (1 : Int32) e0 e1 e2)), .val (.int (own_cnt (2 : Int32) e0 e1 e2)), .val (.int (3 : Int32)), .val (.int (((k - (own_cnt (0 : Int32) e0 e1 e2)) - (own_cnt (1 : Int32) e0 e1 e2)) - (own_cnt (2 : Int32) e0 e1 e2))), .val (.int (2 : Int32)), .val (.int ((((k - (own_cnt (0 : Int32) e0 e1 e2)) - (own_cnt (1 : Int32) e0 e1 e2)) - (own_cnt (2 : Int32) e0 e1 e2)) - (1 : Int32)))]) (st' := [(.int (2 : Int32))]) (by decide +kernel) rfl ?_
                refine own_if S7 C (cd := .ne) (o := 7) (by decide +kernel) (pc' := 170) ⟨by decide, by decide⟩ (fun _ => ?_) (fun hc => absurd hc (by decide))
                refine own_run S7 C [.iload 10, .iconst 1] (pc' := 173) (Ls' := #[.val (.int k), .val (.int sv), .val (.int e0), .val (.int e1), .val (.int e2), .val (.int (own_cnt (0 : Int32) e0 e1 e2)), .val (.int (own_cnt (1 : Int32) e0 e1 e2)), .val (.int (own_cnt (2 : Int32) e0 e1 e2)), .val (.int (3 : Int32)), .val (.int (((k - (own_cnt (0 : Int32) e0 e1 e2)) - (own_cnt (1 : Int32) e0 e1 e2)) - (own_cnt (2 : Int32) e0 e1 e2))), .val (.int (2 : Int32)), .val (.int ((((k - (own_cnt (0 : Int32) e0 e1 e2)) - (own_cnt (1 : Int32) e0 e1 e2)) - (own_cnt (2 : Int32) e0 e1 e2)) - (1 : Int32)))]) (st' := [(.int (1 : Int32)), (.int (2 : Int32))]) (by decide +kernel) rfl ?_
                refine own_icmp S7 C (cd := .ne) (o := 9) (by decide +kernel) (pc' := 182) ⟨by decide, by decide⟩ (fun _ => ?_) (fun hc => absurd hc (by decide))
                refine own_run S7 C [.iload_n 1, .iload_n 2, .iadd, .iload_n 3, .iadd, .istore 11, .iload 11, .iload 8, .iadd] (pc' := 194) (Ls' := #[.val (.int k), .val (.int sv), .val (.int e0), .val (.int e1), .val (.int e2), .val (.int (own_cnt (0 : Int32) e0 e1 e2)), .val (.int (own_cnt (1 : Int32) e0 e1 e2)), .val (.int (own_cnt (2 : Int32) e0 e1 e2)), .val (.int (3 : Int32)), .val (.int (((k - (own_cnt (0 : Int32) e0 e1 e2)) - (own_cnt (1 : Int32) e0 e1 e2)) - (own_cnt (2 : Int32) e0 e1 e2))), .val (.int (2 : Int32)), .val (.int ((sv + e0) + e1))]) (st' := [(.int (((sv + e0) + e1) + (3 : Int32)))]) (by decide +kernel) rfl ?_
                subst hr
                exact own_reti S7 C (by decide +kernel) (Nat.zero_le _) (Nat.zero_le _) ⟨rfl, rfl⟩
              · skip
                rw [if_neg (Bool.eq_false_iff.mp hc149_6)] at hr
                refine own_run S7 C [.iconst 1, .istore 10, .goto 6, .iload 10] (pc' := 163) (Ls' := #[.val (.int k), .val (.int sv), .val (.int e0), .val (.int e1), .val (.int e2), .val (.int (own_cnt (0 : Int32) e0 e1 e2)), .val (.int (own_cnt (1 : Int32) e0 e1 e2)), .val (.int (own_cnt (2 : Int32) e0 e1 e2)), .val (.int (3 : Int32)), .val (.int (((k - (own_cnt (0 : Int32) e0 e1 e2)) - (own_cnt (1 : Int32) e0 e1 e2)) - (own_cnt (2 : Int32) e0 e1 e2))), .val (.int (1 : Int32)), .val (.int ((((k - (own_cnt (0 : Int32) e0 e1 e2)) - (own_cnt (1 : Int32) e0 e1 e2)) - (own_cnt (2 : Int32) e0 e1 e2)) - (1 : Int32)))]) (st' := [(.int (1 : Int32))]) (by decide +kernel) rfl ?_
                refine own_if S7 C (cd := .ne) (o := 7) (by decide +kernel) (pc' := 170) ⟨by decide, by decide⟩ (fun _ => ?_) (fun hc => absurd hc (by decide))
                refine own_run S7 C [.iload 10, .iconst 1] (pc' := 173) (Ls' := #[.val (.int k), .val (.int sv), .val (.int e0), .val (.int e1), .val (.int e2), .val (.int (own_cnt (0 : Int32) e0 e1 e2)), .val (.int (own_cnt (1 : Int32) e0 e1 e2)), .val (.int (own_cnt (2 : Int32) e0 e1 e2)), .val (.int (3 : Int32)), .val (.int (((k - (own_cnt (0 : Int32) e0 e1 e2)) - (own_cnt (1 : Int32) e0 e1 e2)) - (own_cnt (2 : Int32) e0 e1 e2))), .val (.int (1 : Int32)), .val (.int ((((k - (own_cnt (0 : Int32) e0 e1 e2)) - (own_cnt (1 : Int32) e0 e1 e2)) - (own_cnt (2 : Int32) e0 e1 e2)) - (1 : Int32)))]) (st' := [(.int (1 : Int32)), (.int (1 : Int32))]) (by decide +kernel) rfl ?_
                refine own_icmp S7 C (cd := .ne) (o := 9) (by decide +kernel) (pc' := 182) ⟨by decide, by decide⟩ (fun hc => absurd hc (by decide)) (fun _ => ?_)
                refine own_run S7 C [.iload_n 1, .iload_n 2, .iadd, .goto 8, .istore 11, .iload 11, .iload 8, .iadd] (pc' := 194) (Ls' := #[.val (.int k), .val (.int sv), .val (.int e0), .val (.int e1), .val (.int e2), .val (.int (own_cnt (0 : Int32) e0 e1 e2)), .val (.int (own_cnt (1 : Int32) e0 e1 e2)), .val (.int (own_cnt (2 : Int32) e0 e1 e2)), .val (.int (3 : Int32)), .val (.int (((k - (own_cnt (0 : Int32) e0 e1 e2)) - (own_cnt (1 : Int32) e0 e1 e2)) - (own_cnt (2 : Int32) e0 e1 e2))), .val (.int (1 : Int32)), .val (.int (sv + e0))]) (st' := [(.int ((sv + e0) + (3 : Int32)))]) (by decide +kernel) rfl ?_
                subst hr
                exact own_reti S7 C (by decide +kernel) (Nat.zero_le _) (Nat.zero_le _) ⟨rfl, rfl⟩
          · skip
            rw [if_neg (Bool.eq_false_iff.mp hc116_4)] at hr
            refine own_run S7 C [.iconst 0, .istore 10, .goto 39, .iload 10] (pc' := 163) (Ls' := #[.val (.int k), .val (.int sv), .val (.int e0), .val (.int e1), .val (.int e2), .val (.int (own_cnt (0 : Int32) e0 e1 e2)), .val (.int (own_cnt (1 : Int32) e0 e1 e2)), .val (.int (own_cnt (2 : Int32) e0 e1 e2)), .val (.int (3 : Int32)), .val (.int (((k - (own_cnt (0 : Int32) e0 e1 e2)) - (own_cnt (1 : Int32) e0 e1 e2)) - (own_cnt (2 : Int32) e0 e1 e2))), .val (.int (0 : Int32)), .unset]) (st' := [(.int (0 : Int32))]) (by decide +kernel) rfl ?_
            refine own_if S7 C (cd := .ne) (o := 7) (by decide +kernel) (pc' := 170) ⟨by decide, by decide⟩ (fun hc => absurd hc (by decide)) (fun _ => ?_)
            refine own_run S7 C [.iload_n 1, .goto 20, .istore 11, .iload 11, .iload 8, .iadd] (pc' := 194) (Ls' := #[.val (.int k), .val (.int sv), .val (.int e0), .val (.int e1), .val (.int e2), .val (.int (own_cnt (0 : Int32) e0 e1 e2)), .val (.int (own_cnt (1 : Int32) e0 e1 e2)), .val (.int (own_cnt (2 : Int32) e0 e1 e2)), .val (.int (3 : Int32)), .val (.int (((k - (own_cnt (0 : Int32) e0 e1 e2)) - (own_cnt (1 : Int32) e0 e1 e2)) - (own_cnt (2 : Int32) e0 e1 e2))), .val (.int (0 : Int32)), .val (.int sv)]) (st' := [(.int (sv + (3 : Int32)))]) (by decide +kernel) rfl ?_
            subst hr
            exact own_reti S7 C (by decide +kernel) (Nat.zero_le _) (Nat.zero_le _) ⟨rfl, rfl⟩
      · skip
        rw [if_neg (Bool.eq_false_iff.mp hc75_2)] at hr
        refine own_run S7 C [.iconst 2, .istore 8, .iload_n 0, .iload 5, .isub, .iload 6, .isub, .istore 9, .goto 18, .iload_n 2, .iload 8] (pc' := 111) (Ls' := #[.val (.int k), .val (.int sv), .val (.int e0), .val (.int e1), .val (.int e2), .val (.int (own_cnt (0 : Int32) e0 e1 e2)), .val (.int (own_cnt (1 : Int32) e0 e1 e2)), .val (.int (own_cnt (2 : Int32) e0 e1 e2)), .val (.int (2 : Int32)), .val (.int ((k - (own_cnt (0 : Int32) e0 e1 e2)) - (own_cnt (1 : Int32) e0 e1 e2))), .unset, .unset]) (st' := [(.int (2 : Int32)), (.int e0)]) (by decide +kernel) rfl ?_
        refine own_icmp S7 C (cd := .le) (o := 14) (by decide +kernel) (pc' := 125) ⟨by decide, by decide⟩ (fun hc111_3 => ?_) (fun hc111_3 => ?_)
        · skip
          rw [if_pos hc111_3] at hr
          refine own_run S7 C [.iload 9, .iload_n 2, .iload 8] (pc' := 130) (Ls' := #[.val (.int k), .val (.int sv), .val (.int e0), .val (.int e1), .val (.int e2), .val (.int (own_cnt (0 : Int32) e0 e1 e2)), .val (.int (own_cnt (1 : Int32) e0 e1 e2)), .val (.int (own_cnt (2 : Int32) e0 e1 e2)), .val (.int (2 : Int32)), .val (.int ((k - (own_cnt (0 : Int32) e0 e1 e2)) - (own_cnt (1 : Int32) e0 e1 e2))), .unset, .unset]) (st' := [(.int (2 : Int32)), (.int e0), (.int ((k - (own_cnt (0 : Int32) e0 e1 e2)) - (own_cnt (1 : Int32) e0 e1 e2)))]) (by decide +kernel) rfl ?_
          refine own_icmp S7 C (cd := .le) (o := 7) (by decide +kernel) (pc' := 137) ⟨by decide, by decide⟩ (fun _ => ?_) (fun hc => absurd (hc111_3.symm.trans hc) (by decide))
          refine own_run S7 C [.iconst 0, .isub, .istore 11, .iload_n 3, .iload 8] (pc' := 144) (Ls' := #[.val (.int k), .val (.int sv), .val (.int e0), .val (.int e1), .val (.int e2), .val (.int (own_cnt (0 : Int32) e0 e1 e2)), .val (.int (own_cnt (1 : Int32) e0 e1 e2)), .val (.int (own_cnt (2 : Int32) e0 e1 e2)), .val (.int (2 : Int32)), .val (.int ((k - (own_cnt (0 : Int32) e0 e1 e2)) - (own_cnt (1 : Int32) e0 e1 e2))), .unset, .val (.int (((k - (own_cnt (0 : Int32) e0 e1 e2)) - (own_cnt (1 : Int32) e0 e1 e2)) - (0 : Int32)))]) (st' := [(.int (2 : Int32)), (.int e1)]) (by decide +kernel) rfl ?_
          refine own_icmp S7 C (cd := .le) (o := 14) (by decide +kernel) (pc' := 158) ⟨by decide, by decide⟩ (fun hc144_4 => ?_) (fun hc144_4 => ?_)
          · skip
            rw [if_pos hc144_4] at hr
            refine own_run S7 C [.iconst 2, .istore 10, .iload 10] (pc' := 163) (Ls' := #[.val (.int k), .val (.int sv), .val (.int e0), .val (.int e1), .val (.int e2), .val (.int (own_cnt (0 : Int32) e0 e1 e2)), .val (.int (own_cnt (1 : Int32) e0 e1 e2)), .val (.int (own_cnt (2 : Int32) e0 e1 e2)), .val (.int (2 : Int32)), .val (.int ((k - (own_cnt (0 : Int32) e0 e1 e2)) - (own_cnt (1 : Int32) e0 e1 e2))), .val (.int (2 : Int32)), .val (.int (((k - (own_cnt (0 : Int32) e0 e1 e2)) - (own_cnt (1 : Int32) e0 e1 e2)) - (0 : Int32)))]) (st' := [(.int (2 : Int32))]) (by decide +kernel) rfl ?_
            refine own_if S7 C (cd := .ne) (o := 7) (by decide +kernel) (pc' := 170) ⟨by decide, by decide⟩ (fun _ => ?_) (fun hc => absurd hc (by decide))
            refine own_run S7 C [.iload 10, .iconst 1] (pc' := 173) (Ls' := #[.val (.int k), .val (.int sv), .val (.int e0), .val (.int e1), .val (.int e2), .val (.int (own_cnt (0 : Int32) e0 e1 e2)), .val (.int (own_cnt (1 : Int32) e0 e1 e2)), .val (.int (own_cnt (2 : Int32) e0 e1 e2)), .val (.int (2 : Int32)), .val (.int ((k - (own_cnt (0 : Int32) e0 e1 e2)) - (own_cnt (1 : Int32) e0 e1 e2))), .val (.int (2 : Int32)), .val (.int (((k - (own_cnt (0 : Int32) e0 e1 e2)) - (own_cnt (1 : Int32) e0 e1 e2)) - (0 : Int32)))]) (st' := [(.int (1 : Int32)), (.int (2 : Int32))]) (by decide +kernel) rfl ?_
            refine own_icmp S7 C (cd := .ne) (o := 9) (by decide +kernel) (pc' := 182) ⟨by decide, by decide⟩ (fun _ => ?_) (fun hc => absurd hc (by decide))
            refine own_run S7 C [.iload_n 1, .iload_n 2, .iadd, .iload_n 3, .iadd, .istore 11, .iload 11, .iload 8, .iadd] (pc' := 194) (Ls' := #[.val (.int k), .val (.int sv), .val (.int e0), .val (.int e1), .val (.int e2), .val (.int (own_cnt (0 : Int32) e0 e1 e2)), .val (.int (own_cnt (1 : Int32) e0 e1 e2)), .val (.int (own_cnt (2 : Int32) e0 e1 e2)), .val (.int (2 : Int32)), .val (.int ((k - (own_cnt (0 : Int32) e0 e1 e2)) - (own_cnt (1 : Int32) e0 e1 e2))), .val (.int (2 : Int32)), .val (.int ((sv + e0) + e1))]) (st' := [(.int (((sv + e0) + e1) + (2 : Int32)))]) (by decide +kernel) rfl ?_
            subst hr
            exact own_reti S7 C (by decide +kernel) (Nat.zero_le _) (Nat.zero_le _) ⟨rfl, rfl⟩
          · skip
            rw [if_neg (Bool.eq_false_iff.mp hc144_4)] at hr
            refine own_run S7 C [.iload 11] (pc' := 149) (Ls' := #[.val (.int k), .val (.int sv), .val (.int e0), .val (.int e1), .val (.int e2), .val (.int (own_cnt (0 : Int32) e0 e1 e2)), .val (.int (own_cnt (1 : Int32) e0 e1 e2)), .val (.int (own_cnt (2 : Int32) e0 e1 e2)), .val (.int (2 : Int32)), .val (.int ((k - (own_cnt (0 : Int32) e0 e1 e2)) - (own_cnt (1 : Int32) e0 e1 e2))), .unset, .val (.int (((k - (own_cnt (0 : Int32) e0 e1 e2)) - (own_cnt (1 : Int32) e0 e1 e2)) - (0 : Int32)))]) (st' := [(.int (((k - (own_cnt (0 : Int32) e0 e1 e2)) - (own_cnt (1 : Int32) e0 e1 e2)) - (0 : Int32)))]) (by decide +kernel) rfl ?_
            refine own_if S7 C (cd := .ne) (o := 9) (by decide +kernel) (pc' := 158) ⟨by decide, by decide⟩ (fun hc149_5 => ?_) (fun hc149_5 => ?_)
            · skip
              rw [if_pos hc149_5] at hr
              refine own_run S7 C [.iconst 2, .istore 10, .iload 10] (pc' := 163) (Ls' := #[.val (.int k), .val (.int sv), .val (.int e0), .val (.int e1), .val (.int e2), .val (.int (own_cnt (0 : Int32) e0 e1 e2)), .val (.int (own_cnt (1 : Int32) e0 e1 e2)), .val (.int (own_cnt (2 : Int32) e0 e1 e2)), .val (.int (2 : Int32)), .val (.int ((k - (own_cnt (0 : Int32) e0 e1 e2)) - (own_cnt (1 : Int32) e0 e1 e2))), .val (.int (2 : Int32)), .val (.int (((k - (own_cnt (0 : Int32) e0 e1 e2)) - (own_cnt (1 : Int32) e0 e1 e2)) - (0 : Int32)))]) (st' := [(.int (2 : Int32))]) (by decide +kernel) rfl ?_
              refine own_if S7 C (cd := .ne) (o := 7) (by decide +kernel) (pc' := 170) ⟨by decide, by decide⟩ (fun _ => ?_) (fun hc => absurd hc (by decide))
              refine own_run S7 C [.iload 10, .iconst 1] (pc' := 173) (Ls' := #[.val (.int k), .val (.int sv), .val (.int e0), .val (.int e1), .val (.int e2), .val (.int (own_cnt (0 : Int32) e0 e1 e2)), .val (.int (own_cnt (1 : Int32) e0 e1 e2)), .val (.int (own_cnt (2 : Int32) e0 e1 e2)), .val (.int (2 : Int32)), .val (.int ((k - (own_cnt (0 : Int32) e0 e1 e2)) - (own_cnt (1 : Int32) e0 e1 e2))), .val (.int (2 : Int32)), .val (.int (((k - (own_cnt (0 : Int32) e0 e1 e2)) - (own_cnt (1 : Int32) e0 e1 e2)) - (0 : Int32)))]) (st' := [(.int (1 : Int32)), (.int (2 : Int32))]) (by decide +kernel) rfl ?_
              refine own_icmp S7 C (cd := .ne) (o := 9) (by decide +kernel) (pc' := 182) ⟨by decide, by decide⟩ (fun _ => ?_) (fun hc => absurd hc (by decide))
              refine own_run S7 C [.iload_n 1, .iload_n 2, .iadd, .iload_n 3, .iadd, .istore 11, .iload 11, .iload 8, .iadd] (pc' := 194) (Ls' := #[.val (.int k), .val (.int sv), .val (.int e0), .val (.int e1), .val (.int e2), .val (.int (own_cnt (0 : Int32) e0 e1 e2)), .val (.int (own_cnt (1 : Int32) e0 e1 e2)), .val (.int (own_cnt (2 : Int32) e0 e1 e2)), .val (.int (2 : Int32)), .val (.int ((k - (own_cnt (0 : Int32) e0 e1 e2)) - (own_cnt (1 : Int32) e0 e1 e2))), .val (.int (2 : Int32)), .val (.int ((sv + e0) + e1))]) (st' := [(.int (((sv + e0) + e1) + (2 : Int32)))]) (by decide +kernel) rfl ?_
              subst hr
              exact own_reti S7 C (by decide +kernel) (Nat.zero_le _) (Nat.zero_le _) ⟨rfl, rfl⟩
            · skip
              rw [if_neg (Bool.eq_false_iff.mp hc149_5)] at hr
              refine own_run S7 C [.iconst 1, .istore 10, .goto 6, .iload 10] (pc' := 163) (Ls' := #[.val (.int k), .val (.int sv), .val (.int e0), .val (.int e1), .val (.int e2), .val (.int (own_cnt (0 : Int32) e0 e1 e2)), .val (.int (own_cnt (1 : Int32) e0 e1 e2)), .val (.int (own_cnt (2 : Int32) e0 e1 e2)), .val (.int (2 : Int32)), .val (.int ((k - (own_cnt (0 : Int32) e0 e1 e2)) - (own_cnt (1 : Int32) e0 e1 e2))), .val (.int (1 : Int32)), .val (.int (((k - (own_cnt (0 : Int32) e0 e1 e2)) - (own_cnt (1 : Int32) e0 e1 e2)) - (0 : Int32)))]) (st' := [(.int (1 : Int32))]) (by decide +kernel) rfl ?_
              refine own_if S7 C (cd := .ne) (o := 7) (by decide +kernel) (pc' := 170) ⟨by decide, by decide⟩ (fun _ => ?_) (fun hc => absurd hc (by decide))
              refine own_run S7 C [.iload 10, .iconst 1] (pc' := 173) (Ls' := #[.val (.int k), .val (.int sv), .val (.int e0), .val (.int e1), .val (.int e2), .val (.int (own_cnt (0 : Int32) e0 e1 e2)), .val (.int (own_cnt (1 : Int32) e0 e1 e2)), .val (.int (own_cnt (2 : Int32) e0 e1 e2)), .val (.int (2 : Int32)), .val (.int ((k - (own_cnt (0 : Int32) e0 e1 e2)) - (own_cnt (1 : Int32) e0 e1 e2))), .val (.int (1 : Int32)), .val (.int (((k - (own_cnt (0 : Int32) e0 e1 e2)) - (own_cnt (1 : Int32) e0 e1 e2)) - (0 : Int32)))]) (st' := [(.int (1 : Int32)), (.int (1 : Int32))]) (by decide +kernel) rfl ?_
              refine own_icmp S7 C (cd := .ne) (o := 9) (by decide +kernel) (pc' := 182) ⟨by decide, by decide⟩ (fun hc => absurd hc (by decide)) (fun _ => ?_)
              refine own_run S7 C [.iload_n 1, .iload_n 2, .iadd, .goto 8, .istore 11, .iload 11, .iload 8, .iadd] (pc' := 194) (Ls' := #[.val (.int k), .val (.int sv), .val (.int e0), .val (.int e1), .val (.int e2), .val (.int (own_cnt (0 : Int32) e0 e1 e2)), .val (.int (own_cnt (1 : Int32) e0 e1 e2)), .val (.int (own_cnt (2 : Int32) e0 e1 e2)), .val (.int (2 : Int32)), .val (.int ((k - (own_cnt (0 : Int32) e0 e1 e2)) - (own_cnt (1 : Int32) e0 e1 e2))), .val (.int (1 : Int32)), .val (.int (sv + e0))]) (st' := [(.int ((sv + e0) + (2 : Int32)))]) (by decide +kernel) rfl ?_
              subst hr
              exact own_reti S7 C (by decide +kernel) (Nat.zero_le _) (Nat.zero_le _) ⟨rfl, rfl⟩
        · skip
          rw [if_neg (Bool.eq_false_iff.mp hc111_3)] at hr
          refine own_run S7 C [.iload 9] (pc' := 116) (Ls' := #[.val (.int k), .val (.int sv), .val (.int e0), .val (.int e1), .val (.int e2), .val (.int (own_cnt (0 : Int32) e0 e1 e2)), .val (.int (own_cnt (1 : Int32) e0 e1 e2)), .val (.int (own_cnt (2 : Int32) e0 e1 e2)), .val (.int (2 : Int32)), .val (.int ((k - (own_cnt (0 : Int32) e0 e1 e2)) - (own_cnt (1 : Int32) e0 e1 e2))), .unset, .unset]) (st' := [(.int ((k - (own_cnt (0 : Int32) e0 e1 e2)) - (own_cnt (1 : Int32) e0 e1 e2)))]) (by decide +kernel) rfl ?_
          refine own_if S7 C (cd := .ne) (o := 9) (by decide +kernel) (pc' := 125) ⟨by decide, by decide⟩ (fun hc116_4 => ?_) (fun hc116_4 => ?_)
          · skip
            rw [if_pos hc116_4] at hr
            refine own_run S7 C [.iload 9, .iload_n 2, .iload 8] (pc' := 130) (Ls' := #[.val (.int k), .val (.int sv), .val (.int e0), .val (.int e1), .val (.int e2), .val (.int (own_cnt (0 : Int32) e0 e1 e2)), .val (.int (own_cnt (1 : Int32) e0 e1 e2)), .val (.int (own_cnt (2 : Int32) e0 e1 e2)), .val (.int (2 : Int32)), .val (.int ((k - (own_cnt (0 : Int32) e0 e1 e2)) - (own_cnt (1 : Int32) e0 e1 e2))), .unset, .unset]) (st' := [(.int (2 : Int32)), (.int e0), (.int ((k - (own_cnt (0 : Int32) e0 e1 e2)) - (own_cnt (1 : Int32) e0 e1 e2)))]) (by decide +kernel) rfl ?_
            refine own_icmp S7 C (cd := .le) (o := 7) (by decide +kernel) (pc' := 137) ⟨by decide, by decide⟩ (fun hc => absurd (hc111_3.symm.trans hc) (by decide)) (fun _ => ?_)
            refine own_run S7 C [.iconst 1, .goto 4, .isub, .istore 11, .iload_n 3, .iload 8] (pc' := 144) (Ls' := #[.val (.int k), .val (.int sv), .val (.int e0), .val (.int e1), .val (.int e2), .val (.int (own_cnt (0 : Int32) e0 e1 e2)), .val (.int (own_cnt (1 : Int32) e0 e1 e2)), .val (.int (own_cnt (2 : Int32) e0 e1 e2)), .val (.int (2 : Int32)), .val (.int ((k - (own_cnt (0 : Int32) e0 e1 e2)) - (own_cnt (1 : Int32) e0 e1 e2))), .unset, .val (.int (((k - (own_cnt (0 : Int32) e0 e1 e2)) - (own_cnt (1 : Int32) e0 e1 e2)) - (1 : Int32)))]) (st' := [(.int (2 : Int32)), (.int e1)]) (by decide +kernel) rfl ?_
            refine own_icmp S7 C (cd := .le) (o := 14) (by decide +kernel) (pc' := 158) ⟨by decide, by decide⟩ (fun hc144_5 => ?_) (fun hc144_5 => ?_)
            · skip
              rw [if_pos hc144_5] at hr
              refine own_run S7 C [.iconst 2, .istore 10, .iload 10] (pc' := 163) (Ls' := #[.val (.int k), .val (.int sv), .val (.int e0), .val (.int e1), .val (.int e2), .val (.int (own_cnt (0 : Int32) e0 e1 e2)), .val (.int (own_cnt (1 : Int32) e0 e1 e2)), .val (.int (own_cnt (2 : Int32) e0 e1 e2)), .val (.int (2 : Int32)), .val (.int ((k - (own_cnt (0 : Int32) e0 e1 e2)) - (own_cnt (1 : Int32) e0 e1 e2))), .val (.int (2 : Int32)), .val (.int (((k - (own_cnt (0 : Int32) e0 e1 e2)) - (own_cnt (1 : Int32) e0 e1 e2)) - (1 : Int32)))]) (st' := [(.int (2 : Int32))]) (by decide +kernel) rfl ?_
              refine own_if S7 C (cd := .ne) (o := 7) (by decide +kernel) (pc' := 170) ⟨by decide, by decide⟩ (fun _ => ?_) (fun hc => absurd hc (by decide))
              refine own_run S7 C [.iload 10, .iconst 1] (pc' := 173) (Ls' := #[.val (.int k), .val (.int sv), .val (.int e0), .val (.int e1), .val (.int e2), .val (.int (own_cnt (0 : Int32) e0 e1 e2)), .val (.int (own_cnt (1 : Int32) e0 e1 e2)), .val (.int (own_cnt (2 : Int32) e0 e1 e2)), .val (.int (2 : Int32)), .val (.int ((k - (own_cnt (0 : Int32) e0 e1 e2)) - (own_cnt (1 : Int32) e0 e1 e2))), .val (.int (2 : Int32)), .val (.int (((k - (own_cnt (0 : Int32) e0 e1 e2)) - (own_cnt (1 : Int32) e0 e1 e2)) - (1 : Int32)))]) (st' := [(.int (1 : Int32)), (.int (2 : Int32))]) (by decide +kernel) rfl ?_
              refine own_icmp S7 C (cd := .ne) (o := 9) (by decide +kernel) (pc' := 182) ⟨by decide, by decide⟩ (fun _ => ?_) (fun hc => absurd hc (by decide))
              refine own_run S7 C [.iload_n 1, .iload_n 2, .iadd, .iload_n 3, .iadd, .istore 11, .iload 11, .iload 8, .iadd] (pc' := 194) (Ls' := #[.val (.int k), .val (.int sv), .val (.int e0), .val (.int e1), .val (.int e2), .val (.int (own_cnt (0 : Int32) e0 e1 e2)), .val (.int (own_cnt (1 : Int32) e0 e1 e2)), .val (.int (own_cnt (2 : Int32) e0 e1 e2)), .val (.int (2 : Int32)), .val (.int ((k - (own_cnt (0 : Int32) e0 e1 e2)) - (own_cnt (1 : Int32) e0 e1 e2))), .val (.int (2 : Int32)), .val (.int ((sv + e0) + e1))]) (st' := [(.int (((sv + e0) + e1) + (2 : Int32)))]) (by decide +kernel) rfl ?_
              subst hr
              exact own_reti S7 C (by decide +kernel) (Nat.zero_le _) (Nat.zero_le _) ⟨rfl, rfl⟩
            · skip
              rw [if_neg (Bool.eq_false_iff.mp hc144_5)] at hr
              refine own_run S7 C [.iload 11] (pc' := 149) (Ls' := #[.val (.int k), .val (.int sv), .val (.int e0), .val (.int e1), .val (.int e2), .val (.int (own_cnt (0 : Int32) e0 e1 e2)), .val (.int (own_cnt (1 : Int32) e0 e1 e2)), .val (.int (own_cnt (2 : Int32) e0 e1 e2)), .val (.int (2 : Int32)), .val (.int ((k - (own_cnt (0 : Int32) e0 e1 e2)) - (own_cnt (1 : Int32) e0 e1 e2))), .unset, .val (.int (((k - (own_cnt (0 : Int32) e0 e1 e2)) - (own_cnt (1 : Int32) e0 e1 e2)) - (1 : Int32)))]) (st' := [(.int (((k - (own_cnt (0 : Int32) e0 e1 e2)) - (own_cnt (1 : Int32) e0 e1 e2)) - (1 : Int32)))]) (by decide +kernel) rfl ?_
              refine own_if S7 C (cd := .ne) (o := 9) (by decide +kernel) (pc' := 158) ⟨by decide, by decide⟩ (fun hc149_6 => ?_) (fun hc149_6 => ?_)
              · skip
                rw [if_pos hc149_6] at hr
                refine own_run S7 C [.iconst 2, .istore 10, .iload 10] (pc' := 163) (Ls' := #[.val (.int k), .val (.int sv), .val (.int e0), .val (.int e1), .val (.int e2), .val (.int (own_cnt (0 : Int32) e0 e1 e2)), .val (.int (own_cnt (1 : Int32) e0 e1 e2)), .val (.int (own_cnt (2 : Int32) e0 e1 e2)), .val (.int (2 : Int32)), .val (.int ((k - (own_cnt (0 : Int32) e0 e1 e2)) - (own_cnt (1 : Int32) e0 e1 e2))), .val (.int (2 : Int32)), .val (.int (((k - (own_cnt (0 : Int32) e0 e1 e2)) - (own_cnt (1 : Int32) e0 e1 e2)) - (1 : Int32)))]) (st' := [(.int (2 : Int32))]) (by decide +kernel) rfl ?_
                refine own_if S7 C (cd := .ne) (o := 7) (by decide +kernel) (pc' := 170) ⟨by decide, by decide⟩ (fun _ => ?_) (fun hc => absurd hc (by decide))
                refine own_run S7 C [.iload 10, .iconst 1] (pc' := 173) (Ls' := #[.val (.int k), .val (.int sv), .val (.int e0), .val (.int e1), .val (.int e2), .val (.int (own_cnt (0 : Int32) e0 e1 e2)), .val (.int (own_cnt (1 : Int32) e0 e1 e2)), .val (.int (own_cnt (2 : Int32) e0 e1 e2)), .val (.int (2 : Int32)), .val (.int ((k - (own_cnt (0 : Int32) e0 e1 e2)) - (own_cnt (1 : Int32) e0 e1 e2))), .val (.int (2 : Int32)), .val (.int (((k - (own_cnt (0 : Int32) e0 e1 e2)) - (own_cnt (1 : Int32) e0 e1 e2)) - (1 : Int32)))]) (st' := [(.int (1 : Int32)), (.int (2 : Int32))]) (by decide +kernel) rfl ?_
                refine own_icmp S7 C (cd := .ne) (o := 9) (by decide +kernel) (pc' := 182) ⟨by decide, by decide⟩ (fun _ => ?_) (fun hc => absurd hc (by decide))
                refine own_run S7 C [.iload_n 1, .iload_n 2, .iadd, .iload_n 3, .iadd, .istore 11, .iload 11, .iload 8, .iadd] (pc' := 194) (Ls' := #[.val (.int k), .val (.int sv), .val (.int e0), .val (.int e1), .val (.int e2), .val (.int (own_cnt (0 : Int32) e0 e1 e2)), .val (.int (own_cnt (1 : Int32) e0 e1 e2)), .val (.int (own_cnt (2 : Int32) e0 e1 e2)), .val (.int (2 : Int32)), .val (.int ((k - (own_cnt (0 : Int32) e0 e1 e2)) - (own_cnt (1 : Int32) e0 e1 e2))), .val (.int (2 : Int32)), .val (.int ((sv + e0) + e1))]) (st' := [(.int (((sv + e0) + e1) + (2 : Int32)))]) (by decide +kernel) rfl ?_
                subst hr
                exact own_reti S7 C (by decide +kernel) (Nat.zero_le _) (Nat.zero_le _) ⟨rfl, rfl⟩
              · skip
                rw [if_neg (Bool.eq_false_iff.mp hc149_6)] at hr
                refine own_run S7 C [.iconst 1, .istore 10, .goto 6, .iload 10] (pc' := 163) (Ls' := #[.val (.int k), .val (.int sv), .val (.int e0), .val (.int e1), .val (.int e2), .val (.int (own_cnt (0 : Int32) e0 e1 e2)), .val (.int (own_cnt (1 : Int32) e0 e1 e2)), .val (.int (own_cnt (2 : Int32) e0 e1 e2)), .val (.int (2 : Int32)), .val (.int ((k - (own_cnt (0 : Int32) e0 e1 e2)) - (own_cnt (1 : Int32) e0 e1 e2))), .val (.int (1 : Int32)), .val (.int (((k - (own_cnt (0 : Int32) e0 e1 e2)) - (own_cnt (1 : Int32) e0 e1 e2)) - (1 : Int32)))]) (st' := [(.int (1 : Int32))]) (by decide +kernel) rfl ?_
                refine own_if S7 C (cd := .ne) (o := 7) (by decide +kernel) (pc' := 170) ⟨by decide, by decide⟩ (fun _ => ?_) (fun hc => absurd hc (by decide))
                refine own_run S7 C [.iload 10, .iconst 1] (pc' := 173) (Ls' := #[.val (.int k), .val (.int sv), .val (.int e0), .val (.int e1), .val (.int e2), .val (.int (own_cnt (0 : Int32) e0 e1 e2)), .val (.int (own_cnt (1 : Int32) e0 e1 e2)), .val (.int (own_cnt (2 : Int32) e0 e1 e2)), .val (.int (2 : Int32)), .val (.int ((k - (own_cnt (0 : Int32) e0 e1 e2)) - (own_cnt (1 : Int32) e0 e1 e2))), .val (.int (1 : Int32)), .val (.int (((k - (own_cnt (0 : Int32) e0 e1 e2)) - (own_cnt (1 : Int32) e0 e1 e2)) - (1 : Int32)))]) (st' := [(.int (1 : Int32)), (.int (1 : Int32))]) (by decide +kernel) rfl ?_
                refine own_icmp S7 C (cd := .ne) (o := 9) (by decide +kernel) (pc' := 182) ⟨by decide, by decide⟩ (fun hc => absurd hc (by decide)) (fun _ => ?_)
                refine own_run S7 C [.iload_n 1, .iload_n 2, .iadd, .goto 8, .istore 11, .iload 11, .iload 8, .iadd] (pc' := 194) (Ls' := #[.val (.int k), .val (.int sv), .val (.int e0), .val (.int e1), .val (.int e2), .val (.int (own_cnt (0 : Int32) e0 e1 e2)), .val (.int (own_cnt (1 : Int32) e0 e1 e2)), .val (.int (own_cnt (2 : Int32) e0 e1 e2)), .val (.int (2 : Int32)), .val (.int ((k - (own_cnt (0 : Int32) e0 e1 e2)) - (own_cnt (1 : Int32) e0 e1 e2))), .val (.int (1 : Int32)), .val (.int (sv + e0))]) (st' := [(.int ((sv + e0) + (2 : Int32)))]) (by decide +kernel) rfl ?_
                subst hr
                exact own_reti S7 C (by decide +kernel) (Nat.zero_le _) (Nat.zero_le _) ⟨rfl, rfl⟩
          · skip
            rw [if_neg (Bool.eq_false_iff.mp hc116_4)] at hr
            refine own_run S7 C [.iconst 0, .istore 10, .goto 39, .iload 10] (pc' := 163) (Ls' := #[.val (.int k), .val (.int sv), .val (.int e0), .val (.int e1), .val (.int e2), .val (.int (own_cnt (0 : Int32) e0 e1 e2)), .val (.int (own_cnt (1 : Int32) e0 e1 e2)), .val (.int (own_cnt (2 : Int32) e0 e1 e2)), .val (.int (2 : Int32)), .val (.int ((k - (own_cnt (0 : Int32) e0 e1 e2)) - (own_cnt (1 : Int32) e0 e1 e2))), .val (.int (0 : Int32)), .unset]) (st' := [(.int (0 : Int32))]) (by decide +kernel) rfl ?_
            refine own_if S7 C (cd := .ne) (o := 7) (by decide +kernel) (pc' := 170) ⟨by decide, by decide⟩ (fun hc => absurd hc (by decide)) (fun _ => ?_)
            refine own_run S7 C [.iload_n 1, .goto 20, .istore 11, .iload 11, .iload 8, .iadd] (pc' := 194) (Ls' := #[.val (.int k), .val (.int sv), .val (.int e0), .val (.int e1), .val (.int e2), .val (.int (own_cnt (0 : Int32) e0 e1 e2)), .val (.int (own_cnt (1 : Int32) e0 e1 e2)), .val (.int (own_cnt (2 : Int32) e0 e1 e2)), .val (.int (2 : Int32)), .val (.int ((k - (own_cnt (0 : Int32) e0 e1 e2)) - (own_cnt (1 : Int32) e0 e1 e2))), .val (.int (0 : Int32)), .val (.int sv)]) (st' := [(.int (sv + (2 : Int32)))]) (by decide +kernel) rfl ?_
            subst hr
            exact own_reti S7 C (by decide +kernel) (Nat.zero_le _) (Nat.zero_le _) ⟨rfl, rfl⟩
    · skip
      rw [if_neg (Bool.eq_false_iff.mp hc51_1)] at hr
      refine own_run S7 C [.iconst 1, .istore 8, .iload_n 0, .iload 5, .isub, .istore 9, .goto 45, .iload_n 2, .iload 8] (pc' := 111) (Ls' := #[.val (.int k), .val (.int sv), .val (.int e0), .val (.int e1), .val (.int e2), .val (.int (own_cnt (0 : Int32) e0 e1 e2)), .val (.int (own_cnt (1 : Int32) e0 e1 e2)), .val (.int (own_cnt (2 : Int32) e0 e1 e2)), .val (.int (1 : Int32)), .val (.int (k - (own_cnt (0 : Int32) e0 e1 e2))), .unset, .unset]) (st' := [(.int (1 : Int32)), (.int e0)]) (by decide +kernel) rfl ?_
      refine own_icmp S7 C (cd := .le) (o := 14) (by decide +kernel) (pc' := 125) ⟨by decide, by decide⟩ (fun hc111_2 => ?_) (fun hc111_2 => ?_)
      · skip
        rw [if_pos hc111_2] at hr
        refine own_run S7 C [.iload 9, .iload_n 2, .iload 8] (pc' := 130) (Ls' := #[.val (.int k), .val (.int sv), .val (.int e0), .val (.int e1), .val (.int e2), .val (.int (own_cnt (0 : Int32) e0 e1 e2)), .val (.int (own_cnt (1 : Int32) e0 e1 e2)), .val (.int (own_cnt (2 : Int32) e0 e1 e2)), .val (.int (1 : Int32)), .val (.int (k - (own_cnt (0 : Int32) e0 e1 e2))), .unset, .unset]) (st' := [(.int (1 : Int32)), (.int e0), (.int (k - (own_cnt (0 : Int32) e0 e1 e2)))]) (by decide +kernel) rfl ?_
        refine own_icmp S7 C (cd := .le) (o := 7) (by decide +kernel) (pc' := 137) ⟨by decide, by decide⟩ (fun _ => ?_) (fun hc => absurd (hc111_2.symm.trans hc) (by decide))
        refine own_run S7 C [.iconst 0, .isub, .istore 11, .iload_n 3, .iload 8] (pc' := 144) (Ls' := #[.val (.int k), .val (.int sv), .val (.int e0), .val (.int e1), .val (.int e2), .val (.int (own_cnt (0 : Int32) e0 e1 e2)), .val (.int (own_cnt (1 : Int32) e0 e1 e2)), .val (.int (own_cnt (2 : Int32) e0 e1 e2)), .val (.int (1 : Int32)), .val (.int (k - (own_cnt (0 : Int32) e0 e1 e2))), .unset, .val (.int ((k - (own_cnt (0 : Int32) e0 e1 e2)) - (0 : Int32)))]) (st' := [(.int (1 : Int32)), (.int e1)]) (by decide +kernel) rfl ?_
        refine own_icmp S7 C (cd := .le) (o := 14) (by decide +kernel) (pc' := 158) ⟨by decide, by decide⟩ (fun hc144_3 => ?_) (fun hc144_3 => ?_)
        · skip
          rw [if_pos hc144_3] at hr
          refine own_run S7 C [.iconst 2, .istore 10, .iload 10] (pc' := 163) (Ls' := #[.val (.int k), .val (.int sv), .val (.int e0), .val (.int e1), .val (.int e2), .val (.int (own_cnt (0 : Int32) e0 e1 e2)), .val (.int (own_cnt (1 : Int32) e0 e1 e2)), .val (.int (own_cnt (2 : Int32) e0 e1 e2)), .val (.int (1 : Int32)), .val (.int (k - (own_cnt (0 : Int32) e0 e1 e2))), .val (.int (2 : Int32)), .val (.int ((k - (own_cnt (0 : Int32) e0 e1 e2)) - (0 : Int32)))]) (st' := [(.int (2 : Int32))]) (by decide +kernel) rfl ?_
          refine own_if S7 C (cd := .ne) (o := 7) (by decide +kernel) (pc' := 170) ⟨by decide, by decide⟩ (fun _ => ?_) (fun hc => absurd hc (by decide))
          refine own_run S7 C [.iload 10, .iconst 1] (pc' := 173) (Ls' := #[.val (.int k), .val (.int sv), .val (.int e0), .val (.int e1), .val (.int e2), .val (.int (own_cnt (0 : Int32) e0 e1 e2)), .val (.int (own_cnt (1 : Int32) e0 e1 e2)), .val (.int (own_cnt (2 : Int32) e0 e1 e2)), .val (.int (1 : Int32)), .val (.int (k - (own_cnt (0 : Int32) e0 e1 e2))), .val (.int (2 : Int32)), .val (.int ((k - (own_cnt (0 : Int32) e0 e1 e2)) - (0 : Int32)))]) (st' := [(.int (1 : Int32)), (.int (2 : Int32))]) (by decide +kernel) rfl ?_
          refine own_icmp S7 C (cd := .ne) (o := 9) (by decide +kernel) (pc' := 182) ⟨by decide, by decide⟩ (fun _ => ?_) (fun hc => absurd hc (by decide))
          refine own_run S7 C [.iload_n 1, .iload_n 2, .iadd, .iload_n 3, .iadd, .istore 11, .iload 11, .iload 8, .iadd] (pc' := 194) (Ls' := #[.val (.int k), .val (.int sv), .val (.int e0), .val (.int e1), .val (.int e2), .val (.int (own_cnt (0 : Int32) e0 e1 e2)), .val (.int (own_cnt (1 : Int32) e0 e1 e2)), .val (.int (own_cnt (2 : Int32) e0 e1 e2)), .val (.int (1 : Int32)), .val (.int (k - (own_cnt (0 : Int32) e0 e1 e2))), .val (.int (2 : Int32)), .val (.int ((sv + e0) + e1))]) (st' := [(.int (((sv + e0) + e1) + (1 : Int32)))]) (by decide +kernel) rfl ?_
          subst hr
          exact own_reti S7 C (by decide +kernel) (Nat.zero_le _) (Nat.zero_le _) ⟨rfl, rfl⟩
        · skip
          rw [if_neg (Bool.eq_false_iff.mp hc144_3)] at hr
          refine own_run S7 C [.iload 11] (pc' := 149) (Ls' := #[.val (.int k), .val (.int sv), .val (.int e0), .val (.int e1), .val (.int e2), .val (.int (own_cnt (0 : Int32) e0 e1 e2)), .val (.int (own_cnt (1 : Int32) e0 e1 e2)), .val (.int (own_cnt (2 : Int32) e0 e1 e2)), .val (.int (1 : Int32)), .val (.int (k - (own_cnt (0 : Int32) e0 e1 e2))), .unset, .val (.int ((k - (own_cnt (0 : Int32) e0 e1 e2)) - (0 : Int32)))]) (st' := [(.int ((k - (own_cnt (0 : Int32) e0 e1 e2)) - (0 : Int32)))]) (by decide +kernel) rfl ?_
          refine own_if S7 C (cd := .ne) (o := 9) (by decide +kernel) (pc' := 158) ⟨by decide, by decide⟩ (fun hc149_4 => ?_) (fun hc149_4 => ?_)
          · skip
            rw [if_pos hc149_4] at hr
            refine own_run S7 C [.iconst 2, .istore 10, .iload 10] (pc' := 163) (Ls' := #[.val (.int k), .val (.int sv), .val (.int e0), .val (.int e1), .val (.int e2), .val (.int (own_cnt (0 : Int32) e0 e1 e2)), .val (.int (own_cnt (1 : Int32) e0 e1 e2)), .val (.int (own_cnt (2 : Int32) e0 e1 e2)), .val (.int (1 : Int32)), .val (.int (k - (own_cnt (0 : Int32) e0 e1 e2))), .val (.int (2 : Int32)), .val (.int ((k - (own_cnt (0 : Int32) e0 e1 e2)) - (0 : Int32)))]) (st' := [(.int (2 : Int32))]) (by decide +kernel) rfl ?_
            refine own_if S7 C (cd := .ne) (o := 7) (by decide +kernel) (pc' := 170) ⟨by decide, by decide⟩ (fun _ => ?_) (fun hc => absurd hc (by decide))
            refine own_run S7 C [.iload 10, .iconst 1] (pc' := 173) (Ls' := #[.val (.int k), .val (.int sv), .val (.int e0), .val (.int e1), .val (.int e2), .val (.int (own_cnt (0 : Int32) e0 e1 e2)), .val (.int (own_cnt (1 : Int32) e0 e1 e2)), .val (.int (own_cnt (2 : Int32) e0 e1 e2)), .val (.int (1 : Int32)), .val (.int (k - (own_cnt (0 : Int32) e0 e1 e2))), .val (.int (2 : Int32)), .val (.int ((k - (own_cnt (0 : Int32) e0 e1 e2)) - (0 : Int32)))]) (st' := [(.int (1 : Int32)), (.int (2 : Int32))]) (by decide +kernel) rfl ?_
            refine own_icmp S7 C (cd := .ne) (o := 9) (by decide +kernel) (pc' := 182) ⟨by decide, by decide⟩ (fun _ => ?_) (fun hc => absurd hc (by decide))
            refine own_run S7 C [.iload_n 1, .iload_n 2, .iadd, .iload_n 3, .iadd, .istore 11, .iload 11, .iload 8, .iadd] (pc' := 194) (Ls' := #[.val (.int k), .val (.int sv), .val (.int e0), .val (.int e1), .val (.int e2), .val (.int (own_cnt (0 : Int32) e0 e1 e2)), .val (.int (own_cnt (1 : Int32) e0 e1 e2)), .val (.int (own_cnt (2 : Int32) e0 e1 e2)), .val (.int (1 : Int32)), .val (.int (k - (own_cnt (0 : Int32) e0 e1 e2))), .val (.int (2 : Int32)), .val (.int ((sv + e0) + e1))]) (st' := [(.int (((sv + e0) + e1) + (1 : Int32)))]) (by decide +kernel) rfl ?_
            subst hr
            exact own_reti S7 C (by decide +kernel) (Nat.zero_le _) (Nat.zero_le _) ⟨rfl, rfl⟩
          · skip
            rw [if_neg (Bool.eq_false_iff.mp hc149_4)] at hr
            refine own_run S7 C [.iconst 1, .istore 10, .goto 6, .iload 10] (pc' := 163) (Ls' := #[.val (.int k), .val (.int sv), .val (.int e0), .val (.int e1), .val (.int e2), .val (.int (own_cnt (0 : Int32) e0 e1 e2)), .val (.int (own_cnt (1 : Int32) e0 e1 e2)), .val (.int (own_cnt (2 : Int32) e0 e1 e2)), .val (.int (1 : Int32)), .val (.int (k - (own_cnt (0 : Int32) e0 e1 e2))), .val (.int (1 : Int32)), .val (.int ((k - (own_cnt (0 : Int32) e0 e1 e2)) - (0 : Int32)))]) (st' := [(.int (1 : Int32))]) (by decide +kernel) rfl ?_
            refine own_if S7 C (cd := .ne) (o := 7) (by decide +kernel) (pc' := 170) ⟨by decide, by decide⟩ (fun _ => ?_) (fun hc => absurd hc (by decide))
            refine own_run S7 C [.iload 10, .iconst 1] (pc' := 173) (Ls' := #[.val (.int k), .val (.int sv), .val (.int e0), .val (.int e1), .val (.int e2), .val (.int (own_cnt (0 : Int32) e0 e1 e2)), .val (.int (own_cnt (1 : Int32) e0 e1 e2)), .val (.int (own_cnt (2 : Int32) e0 e1 e2)), .val (.int (1 : Int32)), .val (.int (k - (own_cnt (0 : Int32) e0 e1 e2))), .val (.int (1 : Int32)), .val (.int ((k - (own_cnt (0 : Int32) e0 e1 e2)) - (0 : Int32)))]) (st' := [(.int (1 : Int32)), (.int (1 : Int32))]) (by decide +kernel) rfl ?_
            refine own_icmp S7 C (cd := .ne) (o := 9) (by decide +kernel) (pc' := 182) ⟨by decide, by decide⟩ (fun hc => absurd hc (by decide)) (fun _ => ?_)
            refine own_run S7 C [.iload_n 1, .iload_n 2, .iadd, .goto 8, .istore 11, .iload 11, .iload 8, .iadd] (pc' := 194) (Ls' := #[.val (.int k), .val (.int sv), .val (.int e0), .val (.int e1), .val (.int e2), .val (.int (own_cnt (0 : Int32) e0 e1 e2)), .val (.int (own_cnt (1 : Int32) e0 e1 e2)), .val (.int (own_cnt (2 : Int32) e0 e1 e2)), .val (.int (1 : Int32)), .val (.int (k - (own_cnt (0 : Int32) e0 e1 e2))), .val (.int (1 : Int32)), .val (.int (sv + e0))]) (st' := [(.int ((sv + e0) + (1 : Int32)))]) (by decide +kernel) rfl ?_
            subst hr
            exact own_reti S7 C (by decide +kernel) (Nat.zero_le _) (Nat.zero_le _) ⟨rfl, rfl⟩
      · skip
        rw [if_neg (Bool.eq_false_iff.mp hc111_2)] at hr
        refine own_run S7 C [.iload 9] (pc' := 116) (Ls' := #[.val (.int k), .val (.int sv), .val (.int e0), .val (.int e1), .val (.int e2), .val (.int (own_cnt (0 : Int32) e0 e1 e2)), .val (.int (own_cnt (1 : Int32) e0 e1 e2)), .val (.int (own_cnt (2 : Int32) e0 e1 e2)), .val (.int (1 : Int32)), .val (.int (k - (own_cnt (0 : Int32) e0 e1 e2))), .unset, .unset]) (st' := [(.int (k - (own_cnt (0 : Int32) e0 e1 e2)))]) (by decide +kernel) rfl ?_
        refine own_if S7 C (cd := .ne) (o := 9) (by decide +kernel) (pc' := 125) ⟨by decide, by decide⟩ (fun hc116_3 => ?_) (fun hc116_3 => ?_)
        · skip
          rw [if_pos hc116_3] at hr
          refine own_run S7 C [.iload 9, .iload_n 2, .iload 8] (pc' := 130) (Ls' := #[.val (.int k), .val (.int sv), .val (.int e0), .val (.int e1), .val (.int e2), .val (.int (own_cnt (0 : Int32) e0 e1 e2)), .val (.int (own_cnt (1 : Int32) e0 e1 e2)), .val (.int (own_cnt (2 : Int32) e0 e1 e2)), .val (.int (1 : Int32)), .val (.int (k - (own_cnt (0 : Int32) e0 e1 e2))), .unset, .unset]) (st' := [(.int (1 : Int32)), (.int e0), (.int (k - (own_cnt (0 : Int32) e0 e1 e2)))]) (by decide +kernel) rfl ?_
          refine own_icmp S7 C (cd := .le) (o := 7) (by decide +kernel) (pc' := 137) ⟨by decide, by decide⟩ (fun hc => absurd (hc111_2.symm.trans hc) (by decide)) (fun _ => ?_)
          refine own_run S7 C [.iconst 1, .goto 4, .isub, .istore 11, .iload_n 3, .iload 8] (pc' := 144) (Ls' := #[.val (.int k), .val (.int sv), .val (.int e0), .val (.int e1), .val (.int e2), .val (.int (own_cnt (0 : Int32) e0 e1 e2)), .val (.int (own_cnt (1 : Int32) e0 e1 e2)), .val (.int (own_cnt (2 : Int32) e0 e1 e2)), .val (.int (1 : Int32)), .val (.int (k - (own_cnt (0 : Int32) e0 e1 e2))), .unset, .val (.int ((k - (own_cnt (0 : Int32) e0 e1 e2)) - (1 : Int32)))]) (st' := [(.int (1 : Int32)), (.int e1)]) (by decide +kernel) rfl ?_
          refine own_icmp S7 C (cd := .le) (o := 14) (by decide +kernel) (pc' := 158) ⟨by decide, by decide⟩ (fun hc144_4 => ?_) (fun hc144_4 => ?_)
          · skip
            rw [if_pos hc144_4] at hr
            refine own_run S7 C [.iconst 2, .istore 10, .iload 10] (pc' := 163) (Ls' := #[.val (.int k), .val (.int sv), .val (.int e0), .val (.int e1), .val (.int e2), .val (.int (own_cnt (0 : Int32) e0 e1 e2)), .val (.int (own_cnt (1 : Int32) e0 e1 e2)), .val (.int (own_cnt (2 : Int32) e0 e1 e2)), .val (.int (1 : Int32)), .val (.int (k - (own_cnt (0 : Int32) e0 e1 e2))), .val (.int (2 : Int32)), .val (.int ((k - (own_cnt (0 : Int32) e0 e1 e2)) - (1 : Int32)))]) (st' := [(.int (2 : Int32))]) (by decide +kernel) rfl ?_
            refine own_if S7 C (cd := .ne) (o := 7) (by decide +kernel) (pc' := 170) ⟨by decide, by decide⟩ (fun _ => ?_) (fun hc => absurd hc (by decide))
            refine own_run S7 C [.iload 10, .iconst 1] (pc' := 173) (Ls' := #[.val (.int k), .val (.int sv), .val (.int e0), .val (.int e1), .val (.int e2), .val (.int (own_cnt (0 : Int32) e0 e1 e2)), .val (.int (own_cnt (1 : Int32) e0 e1 e2)), .val (.int (own_cnt (2 : Int32) e0 e1 e2)), .val (.int (1 : Int32)), .val (.int (k - (own_cnt (0 : Int32) e0 e1 e2))), .val (.int (2 : Int32)), .val (.int ((k - (own_cnt (0 : Int32) e0 e1 e2)) - (1 : Int32)))]) (st' := [(.int (1 : Int32)), (.int (2 : Int32))]) (by decide +kernel) rfl ?_
            refine own_icmp S7 C (cd := .ne) (o := 9) (by decide +kernel) (pc' := 182) ⟨by decide, by decide⟩ (fun _ => ?_) (fun hc => absurd hc (by decide))
            refine own_run S7 C [.iload_n 1, .iload_n 2, .iadd, .iload_n 3, .iadd, .istore 11, .iload 11, .iload 8, .iadd] (pc' := 194) (Ls' := #[.val (.int k), .val (.int sv), .val (.int e0), .val (.int e1), .val (.int e2), .val (.int (own_cnt (0 : Int32) e0 e1 e2)), .val (.int (own_cnt (1 : Int32) e0 e1 e2)), .val (.int (own_cnt (2 : Int32) e0 e1 e2)), .val (.int (1 : Int32)), .val (.int (k - (own_cnt (0 : Int32) e0 e1 e2))), .val (.int (2 : Int32)), .val (.int ((sv + e0) + e1))]) (st' := [(.int (((sv + e0) + e1) + (1 : Int32)))]) (by decide +kernel) rfl ?_
            subst hr
            exact own_reti S7 C (by decide +kernel) (Nat.zero_le _) (Nat.zero_le _) ⟨rfl, rfl⟩
          · skip
            rw [if_neg (Bool.eq_false_iff.mp hc144_4)] at hr
            refine own_run S7 C [.iload 11] (pc' := 149) (Ls' := #[.val (.int k), .val (.int sv), .val (.int e0), .val (.int e1), .val (.int e2), .val (.int (own_cnt (0 : Int32) e0 e1 e2)), .val (.int (own_cnt (1 : Int32) e0 e1 e2)), .val (.int (own_cnt (2 : Int32) e0 e1 e2)), .val (.int (1 : Int32)), .val (.int (k - (own_cnt (0 : Int32) e0 e1 e2))), .unset, .val (.int ((k - (own_cnt (0 : Int32) e0 e1 e2)) - (1 : Int32)))]) (st' := [(.int ((k - (own_cnt (0 : Int32) e0 e1 e2)) - (1 : Int32)))]) (by decide +kernel) rfl ?_
            refine own_if S7 C (cd := .ne) (o := 9) (by decide +kernel) (pc' := 158) ⟨by decide, by decide⟩ (fun hc149_5 => ?_) (fun hc149_5 => ?_)
            · skip
              rw [if_pos hc149_5] at hr
              refine own_run S7 C [.iconst 2, .istore 10, .iload 10] (pc' := 163) (Ls' := #[.val (.int k), .val (.int sv), .val (.int e0), .val (.int e1), .val (.int e2), .val (.int (own_cnt (0 : Int32) e0 e1 e2)), .val (.int (own_cnt (1 : Int32) e0 e1 e2)), .val (.int (own_cnt (2 : Int32) e0 e1 e2)), .val (.int (1 : Int32)), .val (.int (k - (own_cnt (0 : Int32) e0 e1 e2))), .val (.int (2 : Int32)), .val (.int ((k - (own_cnt (0 : Int32) e0 e1 e2)) - (1 : Int32)))]) (st' := [(.int (2 : Int32))]) (by decide +kernel) rfl ?_
              refine own_if S7 C (cd := .ne) (o := 7) (by decide +kernel) (pc' := 170) ⟨by decide, by decide⟩ (fun _ => ?_) (fun hc => absurd hc (by decide))
              refine own_run S7 C [.iload 10, .iconst 1] (pc' := 173) (Ls' := #[.val (.int k), .val (.int sv), .val (.int e0), .val (.int e1), .val (.int e2), .val (.int (own_cnt (0 : Int32) e0 e1 e2)), .val (.int (own_cnt (1 : Int32) e0 e1 e2)), .val (.int (own_cnt (2 : Int32) e0 e1 e2)), .val (.int (1 : Int32)), .val (.int (k - (own_cnt (0 : Int32) e0 e1 e2))), .val (.int (2 : Int32)), .val (.int ((k - (own_cnt (0 : Int32) e0 e1 e2)) - (1 : Int32)))]) (st' := [(.int (1 : Int32)), (.int (2 : Int32))]) (by decide +kernel) rfl ?_
              refine own_icmp S7 C (cd := .ne) (o := 9) (by decide +kernel) (pc' := 182) ⟨by decide, by decide⟩ (fun _ => ?_) (fun hc => absurd hc (by decide))
              refine own_run S7 C [.iload_n 1, .iload_n 2, .iadd, .iload_n 3, .iadd, .istore 11, .iload 11, .iload 8, .iadd] (pc' := 194) (Ls' := #[.val (.int k), .val (.int sv), .val (.int e0), .val (.int e1), .val (.int e2), .val (.int (own_cnt (0 : Int32) e0 e1 e2)), .val (.int (own_cnt (1 : Int32) e0 e1 e2)), .val (.int (own_cnt (2 : Int32) e0 e1 e2)), .val (.int (1 : Int32)), .val (.int (k - (own_cnt (0 : Int32) e0 e1 e2))), .val (.int (2 : Int32)), .val (.int ((sv + e0) + e1))]) (st' := [(.int (((sv + e0) + e1) + (1 : Int32)))]) (by decide +kernel) rfl ?_
              subst hr
              exact own_reti S7 C (by decide +kernel) (Nat.zero_le _) (Nat.zero_le _) ⟨rfl, rfl⟩
            · skip
              rw [if_neg (Bool.eq_false_iff.mp hc149_5)] at hr
              refine own_run S7 C [.iconst 1, .istore 10, .goto 6, .iload 10] (pc' := 163) (Ls' := #[.val (.int k), .val (.int sv), .val (.int e0), .val (.int e1), .val (.int e2), .val (.int (own_cnt (0 : Int32) e0 e1 e2)), .val (.int (own_cnt (1 : Int32) e0 e1 e2)), .val (.int (own_cnt (2 : Int32) e0 e1 e2)), .val (.int (1 : Int32)), .val (.int (k - (own_cnt (0 : Int32) e0 e1 e2))), .val (.int (1 : Int32)), .val (.int ((k - (own_cnt (0 : Int32) e0 e1 e2)) - (1 : Int32)))]) (st' := [(.int (1 : Int32))]) (by decide +kernel) rfl ?_
              refine own_if S7 C (cd := .ne) (o := 7) (by decide +kernel) (pc' := 170) ⟨by decide, by decide⟩ (fun _ => ?_) (fun hc => absurd hc (by decide))
              refine own_run S7 C [.iload 10, .iconst 1] (pc' := 173) (Ls' := #[.val (.int k), .val (.int sv), .val (.int e0), .val (.int e1), .val (.int e2), .val (.int (own_cnt (0 : Int32) e0 e1 e2)), .val (.int (own_cnt (1 : Int32) e0 e1 e2)), .val (.int (own_cnt (2 : Int32) e0 e1 e2)), .val (.int (1 : Int32)), .val (.int (k - (own_cnt (0 : Int32) e0 e1 e2))), .val (.int (1 : Int32)), .val (.int ((k - (own_cnt (0 : Int32) e0 e1 e2)) - (1 : Int32)))]) (st' := [(.int (1 : Int32)), (.int (1 : Int32))]) (by decide +kernel) rfl ?_
              refine own_icmp S7 C (cd := .ne) (o := 9) (by decide +kernel) (pc' := 182) ⟨by decide, by decide⟩ (fun hc => absurd hc (by decide)) (fun _ => ?_)
              refine own_run S7 C [.iload_n 1, .iload_n 2, .iadd, .goto 8, .istore 11, .iload 11, .iload 8, .iadd] (pc' := 194) (Ls' := #[.val (.int k), .val (.int sv), .val (.int e0), .val (.int e1), .val (.int e2), .val (.int (own_cnt (0 : Int32) e0 e1 e2)), .val (.int (own_cnt (1 : Int32) e0 e1 e2)), .val (.int (own_cnt (2 : Int32) e0 e1 e2)), .val (.int (1 : Int32)), .val (.int (k - (own_cnt (0 : Int32) e0 e1 e2))), .val (.int (1 : Int32)), .val (.int (sv + e0))]) (st' := [(.int ((sv + e0) + (1 : Int32)))]) (by decide +kernel) rfl ?_
              subst hr
              exact own_reti S7 C (by decide +kernel) (Nat.zero_le _) (Nat.zero_le _) ⟨rfl, rfl⟩
        · skip
          rw [if_neg (Bool.eq_false_iff.mp hc116_3)] at hr
          refine own_run S7 C [.iconst 0, .istore 10, .goto 39, .iload 10] (pc' := 163) (Ls' := #[.val (.int k), .val (.int sv), .val (.int e0), .val (.int e1), .val (.int e2), .val (.int (own_cnt (0 : Int32) e0 e1 e2)), .val (.int (own_cnt (1 : Int32) e0 e1 e2)), .val (.int (own_cnt (2 : Int32) e0 e1 e2)), .val (.int (1 : Int32)), .val (.int (k - (own_cnt (0 : Int32) e0 e1 e2))), .val (.int (0 : Int32)), .unset]) (st' := [(.int (0 : Int32))]) (by decide +kernel) rfl ?_
          refine own_if S7 C (cd := .ne) (o := 7) (by decide +kernel) (pc' := 170) ⟨by decide, by decide⟩ (fun hc => absurd hc (by decide)) (fun _ => ?_)
          refine own_run S7 C [.iload_n 1, .goto 20, .istore 11, .iload 11, .iload 8, .iadd] (pc' := 194) (Ls' := #[.val (.int k), .val (.int sv), .val (.int e0), .val (.int e1), .val (.int e2), .val (.int (own_cnt (0 : Int32) e0 e1 e2)), .val (.int (own_cnt (1 : Int32) e0 e1 e2)), .val (.int (own_cnt (2 : Int32) e0 e1 e2)), .val (.int (1 : Int32)), .val (.int (k - (own_cnt (0 : Int32) e0 e1 e2))), .val (.int (0 : Int32)), .val (.int sv)]) (st' := [(.int (sv + (1 : Int32)))]) (by decide +kernel) rfl ?_
          subst hr
          exact own_reti S7 C (by decide +kernel) (Nat.zero_le _) (Nat.zero_le _) ⟨rfl, rfl⟩
  · skip
    rw [if_neg (Bool.eq_false_iff.mp hc33_0)] at hr
    refine own_run S7 C [.iconst 0, .istore 8, .iload_n 0, .istore 9, .goto 66, .iload_n 2, .iload 8] (pc' := 111) (Ls' := #[.val (.int k), .val (.int sv), .val (.int e0), .val (.int e1), .val (.int e2), .val (.int (own_cnt (0 : Int32) e0 e1 e2)), .val (.int (own_cnt (1 : Int32) e0 e1 e2)), .val (.int (own_cnt (2 : Int32) e0 e1 e2)), .val (.int (0 : Int32)), .val (.int k), .unset, .unset]) (st' := [(.int (0 : Int32)), (.int e0)]) (by decide +kernel) rfl ?_
    refine own_icmp S7 C (cd := .le) (o := 14) (by decide +kernel) (pc' := 125) ⟨by decide, by decide⟩ (fun hc111_1 => ?_) (fun hc111_1 => ?_)
    · skip
      rw [if_pos hc111_1] at hr
      refine own_run S7 C [.iload 9, .iload_n 2, .iload 8] (pc' := 130) (Ls' := #[.val (.int k), .val (.int sv), .val (.int e0), .val (.int e1), .val (.int e2), .val (.int (own_cnt (0 : Int32) e0 e1 e2)), .val (.int (own_cnt (1 : Int32) e0 e1 e2)), .val (.int (own_cnt (2 : Int32) e0 e1 e2)), .val (.int (0 : Int32)), .val (.int k), .unset, .unset]) (st' := [(.int (0 : Int32)), (.int e0), (.int k)]) (by decide +kernel) rfl ?_
      refine own_icmp S7 C (cd := .le) (o := 7) (by decide +kernel) (pc' := 137) ⟨by decide, by decide⟩ (fun _ => ?_) (fun hc => absurd (hc111_1.symm.trans hc) (by decide))
      refine own_run S7 C [.iconst 0, .isub, .istore 11, .iload_n 3, .iload 8] (pc' := 144) (Ls' := #[.val (.int k), .val (.int sv), .val (.int e0), .val (.int e1), .val (.int e2), .val (.int (own_cnt (0 : Int32) e0 e1 e2)), .val (.int (own_cnt (1 : Int32) e0 e1 e2)), .val (.int (own_cnt (2 : Int32) e0 e1 e2)), .val (.int (0 : Int32)), .val (.int k), .unset, .val (.int (k - (0 : Int32)))]) (st' := [(.int (0 : Int32)), (.int e1)]) (by decide +kernel) rfl ?_
      refine own_icmp S7 C (cd := .le) (o := 14) (by decide +kernel) (pc' := 158) ⟨by decide, by decide⟩ (fun hc144_2 => ?_) (fun hc144_2 => ?_)
      · skip
        rw [if_pos hc144_2] at hr
        refine own_run S7 C [.iconst 2, .istore 10, .iload 10] (pc' := 163) (Ls' := #[.val (.int k), .val (.int sv), .val (.int e0), .val (.int e1), .val (.int e2), .val (.int (own_cnt (0 : Int32) e0 e1 e2)), .val (.int (own_cnt (1 : Int32) e0 e1 e2)), .val (.int (own_cnt (2 : Int32) e0 e1 e2)), .val (.int (0 : Int32)), .val (.int k), .val (.int (2 : Int32)), .val (.int (k - (0 : Int32)))]) (st' := [(.int (2 : Int32))]) (by decide +kernel) rfl ?_
        refine own_if S7 C (cd := .ne) (o := 7) (by decide +kernel) (pc' := 170) ⟨by decide, by decide⟩ (fun _ => ?_) (fun hc => absurd hc (by decide))
        refine own_run S7 C [.iload 10, .iconst 1] (pc' := 173) (Ls' := #[.val (.int k), .val (.int sv), .val (.int e0), .val (.int e1), .val (.int e2), .val (.int (own_cnt (0 : Int32) e0 e1 e2)), .val (.int (own_cnt (1 : Int32) e0 e1 e2)), .val (.int (own_cnt (2 : Int32) e0 e1 e2)), .val (.int (0 : Int32)), .val (.int k), .val (.int (2 : Int32)), .val (.int (k - (0 : Int32)))]) (st' := [(.int (1 : Int32)), (.int (2 : Int32))]) (by decide +kernel) rfl ?_
        refine own_icmp S7 C (cd := .ne) (o := 9) (by decide +kernel) (pc' := 182) ⟨by decide, by decide⟩ (fun _ => ?_) (fun hc => absurd hc (by decide))
        refine own_run S7 C [.iload_n 1, .iload_n 2, .iadd, .iload_n 3, .iadd, .istore 11, .iload 11, .iload 8, .iadd] (pc' := 194) (Ls' := #[.val (.int k), .val (.int sv), .val (.int e0), .val (.int e1), .val (.int e2), .val (.int (own_cnt (0 : Int32) e0 e1 e2)), .val (.int (own_cnt (1 : Int32) e0 e1 e2)), .val (.int (own_cnt (2 : Int32) e0 e1 e2)), .val (.int (0 : Int32)), .val (.int k), .val (.int (2 : Int32)), .val (.int ((sv + e0) + e1))]) (st' := [(.int (((sv + e0) + e1) + (0 : Int32)))]) (by decide +kernel) rfl ?_
        subst hr
        exact own_reti S7 C (by decide +kernel) (Nat.zero_le _) (Nat.zero_le _) ⟨rfl, rfl⟩
      · skip
        rw [if_neg (Bool.eq_false_iff.mp hc144_2)] at hr
        refine own_run S7 C [.iload 11] (pc' := 149) (Ls' := #[.val (.int k), .val (.int sv), .val (.int e0), .val (.int e1), .val (.int e2), .val (.int (own_cnt (0 : Int32) e0 e1 e2)), .val (.int (own_cnt (1 : Int32) e0 e1 e2)), .val (.int (own_cnt (2 : Int32) e0 e1 e2)), .val (.int (0 : Int32)), .val (.int k), .unset, .val (.int (k - (0 : Int32)))]) (st' := [(.int (k - (0 : Int32)))]) (by decide +kernel) rfl ?_
        refine own_if S7 C (cd := .ne) (o := 9) (by decide +kernel) (pc' := 158) ⟨by decide, by decide⟩ (fun hc149_3 => ?_) (fun hc149_3 => ?_)
        · skip
          rw [if_pos hc149_3] at hr
          refine own_run S7 C [.iconst 2, .istore 10, .iload 10] (pc' := 163) (Ls' := #[.val (.int k), .val (.int sv), .val (.int e0), .val (.int e1), .val (.int e2), .val (.int (own_cnt (0 : Int32) e0 e1 e2)), .val (.int (own_cnt (1 : Int32) e0 e1 e2)), .val (.int (own_cnt (2 : Int32) e0 e1 e2)), .val (.int (0 : Int32)), .val (.int k), .val (.int (2 : Int32)), .val (.int (k - (0 : Int32)))]) (st' := [(.int (2 : Int32))]) (by decide +kernel) rfl ?_
          refine own_if S7 C (cd := .ne) (o := 7) (by decide +kernel) (pc' := 170) ⟨by decide, by decide⟩ (fun _ => ?_) (fun hc => absurd hc (by decide))
          refine own_run S7 C [.iload 10, .iconst 1] (pc' := 173) (Ls' := #[.val (.int k), .val (.int sv), .val (.int e0), .val (.int e1), .val (.int e2), .val (.int (own_cnt (0 : Int32) e0 e1 e2)), .val (.int (own_cnt (1 : Int32) e0 e1 e2)), .val (.int (own_cnt (2 : Int32) e0 e1 e2)), .val (.int (0 : Int32)), .val (.int k), .val (.int (2 : Int32)), .val (.int (k - (0 : Int32)))]) (st' := [(.int (1 : Int32)), (.int (2 : Int32))]) (by decide +kernel) rfl ?_
          refine own_icmp S7 C (cd := .ne) (o := 9) (by decide +kernel) (pc' := 182) ⟨by decide, by decide⟩ (fun _ => ?_) (fun hc => absurd hc (by decide))
          refine own_run S7 C [.iload_n 1, .iload_n 2, .iadd, .iload_n 3, .iadd, .istore 11, .iload 11, .iload 8, .iadd] (pc' := 194) (Ls' := #[.val (.int k), .val (.int sv), .val (.int e0), .val (.int e1), .val (.int e2), .val (.int (own_cnt (0 : Int32) e0 e1 e2)), .val (.int (own_cnt (1 : Int32) e0 e1 e2)), .val (.int (own_cnt (2 : Int32) e0 e1 e2)), .val (.int (0 : Int32)), .val (.int k), .val (.int (2 : Int32)), .val (.int ((sv + e0) + e1))]) (st' := [(.int (((sv + e0) + e1) + (0 : Int32)))]) (by decide +kernel) rfl ?_
          subst hr
          exact own_reti S7 C (by decide +kernel) (Nat.zero_le _) (Nat.zero_le _) ⟨rfl, rfl⟩
        · skip
          rw [if_neg (Bool.eq_false_iff.mp hc149_3)] at hr
          refine own_run S7 C [.iconst 1, .istore 10, .goto 6, .iload 10] (pc' := 163) (Ls' := #[.val (.int k), .val (.int sv), .val (.int e0), .val (.int e1), .val (.int e2), .val (.int (own_cnt (0 : Int32) e0 e1 e2)), .val (.int (own_cnt (1 : Int32) e0 e1 e2)), .val (.int (own_cnt (2 : Int32) e0 e1 e2)), .val (.int (0 : Int32)), .val (.int k), .val (.int (1 : Int32)), .val (.int (k - (0 : Int32)))]) (st' := [(.int (1 : Int32))]) (by decide +kernel) rfl ?_
          refine own_if S7 C (cd := .ne) (o := 7) (by decide +kernel) (pc' := 170) ⟨by decide, by decide⟩ (fun _ => ?_) (fun hc => absurd hc (by decide))
          refine own_run S7 C [.iload 10, .iconst 1] (pc' := 173) (Ls' := #[.val (.int k), .val (.int sv), .val (.int e0), .val (.int e1), .val (.int e2), .val (.int (own_cnt (0 : Int32) e0 e1 e2)), .val (.int (own_cnt (1 : Int32) e0 e1 e2)), .val (.int (own_cnt (2 : Int32) e0 e1 e2)), .val (.int (0 : Int32)), .val (.int k), .val (.int (1 : Int32)), .val (.int (k - (0 : Int32)))]) (st' := [(.int (1 : Int32)), (.int (1 : Int32))]) (by decide +kernel) rfl ?_
          refine own_icmp S7 C (cd := .ne) (o := 9) (by decide +kernel) (pc' := 182) ⟨by decide, by decide⟩ (fun hc => absurd hc (by decide)) (fun _ => ?_)
          refine own_run S7 C [.iload_n 1, .iload_n 2, .iadd, .goto 8, .istore 11, .iload 11, .iload 8, .iadd] (pc' := 194) (Ls' := #[.val (.int k), .val (.int sv), .val (.int e0), .val (.int e1), .val (.int e2), .val (.int (own_cnt (0 : Int32) e0 e1 e2)), .val (.int (own_cnt (1 : Int32) e0 e1 e2)), .val (.int (own_cnt (2 : Int32) e0 e1 e2)), .val (.int (0 : Int32)), .val (.int k), .val (.int (1 : Int32)), .val (.int (sv + e0))]) (st' := [(.int ((sv + e0) + (0 : Int32)))]) (by decide +kernel) rfl ?_
          subst hr
          exact own_reti S7 C (by decide +kernel) (Nat.zero_le _) (Nat.zero_le _) ⟨rfl, rfl⟩
    · skip
      rw [if_neg (Bool.eq_false_iff.mp hc111_1)] at hr
      refine own_run S7 C [.iload 9] (pc' := 116) (Ls' := #[.val (.int k), .val (.int sv), .val (.int e0), .val (.int e1), .val (.int e2), .val (.int (own_cnt (0 : Int32) e0 e1 e2)), .val (.int (own_cnt (1 : Int32) e0 e1 e2)), .val (.int (own_cnt (2 : Int32) e0 e1 e2)), .val (.int (0 : Int32)), .val (.int k), .unset, .unset]) (st' := [(.int k)]) (by decide +kernel) rfl ?_
      refine own_if S7 C (cd := .ne) (o := 9) (by decide +kernel) (pc' := 125) ⟨by decide, by decide⟩ (fun hc116_2 => ?_) (fun hc116_2 => ?_)
      · skip
        rw [if_pos hc116_2] at hr
        refine own_run S7 C [.iload 9, .iload_n 2, .iload 8] (pc' := 130) (Ls' := #[.val (.int k), .val (.int sv), .val (.int e0), .val (.int e1), .val (.int e2), .val (.int (own_cnt (0 : Int32) e0 e1 e2)), .val (.int (own_cnt (1 : Int32) e0 e1 e2)), .val (.int (own_cnt (2 : Int32) e0 e1 e2)), .val (.int (0 : Int32)), .val (.int k), .unset, .unset]) (st' := [(.int (0 : Int32)), (.int e0), (.int k)]) (by decide +kernel) rfl ?_
        refine own_icmp S7 C (cd := .le) (o := 7) (by decide +kernel) (pc' := 137) ⟨by decide, by decide⟩ (fun hc => absurd (hc111_1.symm.trans hc) (by decide)) (fun _ => ?_)
        refine own_run S7 C [.iconst 1, .goto 4, .isub, .istore 11, .iload_n 3, .iload 8] (pc' := 144) (Ls' := #[.val (.int k), .val (.int sv), .val (.int e0), .val (.int e1), .val (.int e2), .val (.int (own_cnt (0 : Int32) e0 e1 e2)), .val (.int (own_cnt (1 : Int32) e0 e1 e2)), .val (.int (own_cnt (2 : Int32) e0 e1 e2)), .val (.int (0 : Int32)), .val (.int k), .unset, .val (.int (k - (1 : Int32)))]) (st' := [(.int (0 : Int32)), (.int e1)]) (by decide +kernel) rfl ?_
        refine own_icmp S7 C (cd := .le) (o := 14) (by decide +kernel) (pc' := 158) ⟨by decide, by decide⟩ (fun hc144_3 => ?_) (fun hc144_3 => ?_)
        · skip
          rw [if_pos hc144_3] at hr
          refine own_run S7 C [.iconst 2, .istore 10, .iload 10] (pc' := 163) (Ls' := #[.val (.int k), .val (.int sv), .val (.int e0), .val (.int e1), .val (.int e2), .val (.int (own_cnt (0 : Int32) e0 e1 e2)), .val (.int (own_cnt (1 : Int32) e0 e1 e2)), .val (.int (own_cnt (2 : Int32) e0 e1 e2)), .val (.int (0 : Int32)), .val (.int k), .val (.int (2 : Int32)), .val (.int (k - (1 : Int32)))]) (st' := [(.int (2 : Int32))]) (by decide +kernel) rfl ?_
          refine own_if S7 C (cd := .ne) (o := 7) (by decide +kernel) (pc' := 170) ⟨by decide, by decide⟩ (fun _ => ?_) (fun hc => absurd hc (by decide))
          refine own_run S7 C [.iload 10, .iconst 1] (pc' := 173) (Ls' := #[.val (.int k), .val (.int sv), .val (.int e0), .val (.int e1), .val (.int e2), .val (.int (own_cnt (0 : Int32) e0 e1 e2)), .val (.int (own_cnt (1 : Int32) e0 e1 e2)), .val (.int (own_cnt (2 : Int32) e0 e1 e2)), .val (.int (0 : Int32)), .val (.int k), .val (.int (2 : Int32)), .val (.int (k - (1 : Int32)))]) (st' := [(.int (1 : Int32)), (.int (2 : Int32))]) (by decide +kernel) rfl ?_
          refine own_icmp S7 C (cd := .ne) (o := 9) (by decide +kernel) (pc' := 182) ⟨by decide, by decide⟩ (fun _ => ?_) (fun hc => absurd hc (by decide))
          refine own_run S7 C [.iload_n 1, .iload_n 2, .iadd, .iload_n 3, .iadd, .istore 11, .iload 11, .iload 8, .iadd] (pc' := 194) (Ls' := #[.val (.int k), .val (.int sv), .val (.int e0), .val (.int e1), .val (.int e2), .val (.int (own_cnt (0 : Int32) e0 e1 e2)), .val (.int (own_cnt (1 : Int32) e0 e1 e2)), .val (.int (own_cnt (2 : Int32) e0 e1 e2)), .val (.int (0 : Int32)), .val (.int k), .val (.int (2 : Int32)), .val (.int ((sv + e0) + e1))]) (st' := [(.int (((sv + e0) + e1) + (0 : Int32)))]) (by decide +kernel) rfl ?_
          subst hr
          exact own_reti S7 C (by decide +kernel) (Nat.zero_le _) (Nat.zero_le _) ⟨rfl, rfl⟩
        · skip
          rw [if_neg (Bool.eq_false_iff.mp hc144_3)] at hr
          refine own_run S7 C [.iload 11] (pc' := 149) (Ls' := #[.val (.int k), .val (.int sv), .val (.int e0), .val (.int e1), .val (.int e2), .val (.int (own_cnt (0 : Int32) e0 e1 e2)), .val (.int (own_cnt (1 : Int32) e0 e1 e2)), .val (.int (own_cnt (2 : Int32) e0 e1 e2)), .val (.int (0 : Int32)), .val (.int k), .unset, .val (.int (k - (1 : Int32)))]) (st' := [(.int (k - (1 : Int32)))]) (by decide +kernel) rfl ?_
          refine own_if S7 C (cd := .ne) (o := 9) (by decide +kernel) (pc' := 158) ⟨by decide, by decide⟩ (fun hc149_4 => ?_) (fun hc149_4 => ?_)
          · skip
            rw [if_pos hc149_4] at hr
            refine own_run S7 C [.iconst 2, .istore 10, .iload 10] (pc' := 163) (Ls' := #[.val (.int k), .val (.int sv), .val (.int e0), .val (.int e1), .val (.int e2), .val (.int (own_cnt (0 : Int32) e0 e1 e2)), .val (.int (own_cnt (1 : Int32) e0 e1 e2)), .val (.int (own_cnt (2 : Int32) e0 e1 e2)), .val (.int (0 : Int32)), .val (.int k), .val (.int (2 : Int32)), .val (.int (k - (1 : Int32)))]) (st' := [(.int (2 : Int32))]) (by decide +kernel) rfl ?_
            refine own_if S7 C (cd := .ne) (o := 7) (by decide +kernel) (pc' := 170) ⟨by decide, by decide⟩ (fun _ => ?_) (fun hc => absurd hc (by decide))
            refine own_run S7 C [.iload 10, .iconst 1] (pc' := 173) (Ls' := #[.val (.int k), .val (.int sv), .val (.int e0), .val (.int e1), .val (.int e2), .val (.int (own_cnt (0 : Int32) e0 e1 e2)), .val (.int (own_cnt (1 : Int32) e0 e1 e2)), .val (.int (own_cnt (2 : Int32) e0 e1 e2)), .val (.int (0 : Int32)), .val (.int k), .val (.int (2 : Int32)), .val (.int (k - (1 : Int32)))]) (st' := [(.int (1 : Int32)), (.int (2 : Int32))]) (by decide +kernel) rfl ?_
            refine own_icmp S7 C (cd := .ne) (o := 9) (by decide +kernel) (pc' := 182) ⟨by decide, by decide⟩ (fun _ => ?_) (fun hc => absurd hc (by decide))
            refine own_run S7 C [.iload_n 1, .iload_n 2, .iadd, .iload_n 3, .iadd, .istore 11, .iload 11, .iload 8, .iadd] (pc' := 194) (Ls' := #[.val (.int k), .val (.int sv), .val (.int e0), .val (.int e1), .val (.int e2), .val (.int (own_cnt (0 : Int32) e0 e1 e2)), .val (.int (own_cnt (1 : Int32) e0 e1 e2)), .val (.int (own_cnt (2 : Int32) e0 e1 e2)), .val (.int (0 : Int32)), .val (.int k), .val (.int (2 : Int32)), .val (.int ((sv + e0) + e1))]) (st' := [(.int (((sv + e0) + e1) + (0 : Int32)))]) (by decide +kernel) rfl ?_
            subst hr
            exact own_reti S7 C (by decide +kernel) (Nat.zero_le _) (Nat.zero_le _) ⟨rfl, rfl⟩
          · skip
            rw [if_neg (Bool.eq_false_iff.mp hc149_4)] at hr
            refine own_run S7 C [.iconst 1, .istore 10, .goto 6, .iload 10] (pc' := 163) (Ls' := #[.val (.int k), .val (.int sv), .val (.int e0), .val (.int e1), .val (.int e2), .val (.int (own_cnt (0 : Int32) e0 e1 e2)), .val (.int (own_cnt (1 : Int32) e0 e1 e2)), .val (.int (own_cnt (2 : Int32) e0 e1 e2)), .val (.int (0 : Int32)), .val (.int k), .val (.int (1 : Int32)), .val (.int (k - (1 : Int32)))]) (st' := [(.int (1 : Int32))]) (by decide +kernel) rfl ?_
            refine own_if S7 C (cd := .ne) (o := 7) (by decide +kernel) (pc' := 170) ⟨by decide, by decide⟩ (fun _ => ?_) (fun hc => absurd hc (by decide))
            refine own_run S7 C [.iload 10, .iconst 1] (pc' := 173) (Ls' := #[.val (.int k), .val (.int sv), .val (.int e0), .val (.int e1), .val (.int e2), .val (.int (own_cnt (0 : Int32) e0 e1 e2)), .val (.int (own_cnt (1 : Int32) e0 e1 e2)), .val (.int (own_cnt (2 : Int32) e0 e1 e2)), .val (.int (0 : Int32)), .val (.int k), .val (.int (1 : Int32)), .val (.int (k - (1 : Int32)))]) (st' := [(.int (1 : Int32)), (.int (1 : Int32))]) (by decide +kernel) rfl ?_
            refine own_icmp S7 C (cd := .ne) (o := 9) (by decide +kernel) (pc' := 182) ⟨by decide, by decide⟩ (fun hc => absurd hc (by decide)) (fun _ => ?_)
            refine own_run S7 C [.iload_n 1, .iload_n 2, .iadd, .goto 8, .istore 11, .iload 11, .iload 8, .iadd] (pc' := 194) (Ls' := #[.val (.int k), .val (.int sv), .val (.int e0), .val (.int e1), .val (.int e2), .val (.int (own_cnt (0 : Int32) e0 e1 e2)), .val (.int (own_cnt (1 : Int32) e0 e1 e2)), .val (.int (own_cnt (2 : Int32) e0 e1 e2)), .val (.int (0 : Int32)), .val (.int k), .val (.int (1 : Int32)), .val (.int (sv + e0))]) (st' := [(.int ((sv + e0) + (0 : Int32)))]) (by decide +kernel) rfl ?_
            subst hr
            exact own_reti S7 C (by decide +kernel) (Nat.zero_le _) (Nat.zero_le _) ⟨rfl, rfl⟩
      · skip
        rw [if_neg (Bool.eq_false_iff.mp hc116_2)] at hr
        refine own_run S7 C [.iconst 0, .istore 10, .goto 39, .iload 10] (pc' := 163) (Ls' := #[.val (.int k), .val (.int sv), .val (.int e0), .val (.int e1), .val (.int e2), .val (.int (own_cnt (0 : Int32) e0 e1 e2)), .val (.int (own_cnt (1 : Int32) e0 e1 e2)), .val (.int (own_cnt (2 : Int32) e0 e1 e2)), .val (.int (0 : Int32)), .val (.int k), .val (.int (0 : Int32)), .unset]) (st' := [(.int (0 : Int32))]) (by decide +kernel) rfl ?_
        refine own_if S7 C (cd := .ne) (o := 7) (by decide +kernel) (pc' := 170) ⟨by decide, by decide⟩ (fun hc => absurd hc (by decide)) (fun _ => ?_)
        refine own_run S7 C [.iload_n 1, .goto 20, .istore 11, .iload 11, .iload 8, .iadd] (pc' := 194) (Ls' := #[.val (.int k), .val (.int sv), .val (.int e0), .val (.int e1), .val (.int e2), .val (.int (own_cnt (0 : Int32) e0 e1 e2)), .val (.int (own_cnt (1 : Int32) e0 e1 e2)), .val (.int (own_cnt (2 : Int32) e0 e1 e2)), .val (.int (0 : Int32)), .val (.int k), .val (.int (0 : Int32)), .val (.int sv)]) (st' := [(.int (sv + (0 : Int32)))]) (by decide +kernel) rfl ?_
        subst hr
        exact own_reti S7 C (by decide +kernel) (Nat.zero_le _) (Nat.zero_le _) ⟨rfl, rfl⟩
theorem ef_at (m : MethodId) (ar : Addr) (i : Int32) (cn : Int32) (of : Int32) (sv : Int32) (e0 : Int32) (e1 : Int32) (e2 : Int32) : entryFrame m #[(.ref ar), (.int i), (.int cn), (.int of), (.int sv), (.int e0), (.int e1), (.int e2)] 8 = mkF m 0 #[.val (.ref ar), .val (.int i), .val (.int cn), .val (.int of), .val (.int sv), .val (.int e0), .val (.int e1), .val (.int e2)] [] := by first | (simp [entryFrame, mkF, argsToLocals, Value.category]; done) | rfl
theorem pn_at : plainFor (⟨"com/example/holdfast/holdfast/fill/UnitOrderNextPinLaw", "at", "([IIIIIIII)Z"⟩ : MethodName) = true := by first | (exact plainFor_of_name (by first | (simp [plainName, overriddenIn]; done) | decide +kernel)) | decide +kernel
set_option maxRecDepth 65536 in
set_option maxHeartbeats 40000000 in
theorem rm_at (l : Launch) (Z : State) (a0 : Array Value) (hw : ∀ d ∈ tables_1, d.before a0 Z = true) (ws : List Jvm.Cond) (ar : Addr) (i : Int32) (cn : Int32) (of : Int32) (sv : Int32) (e0 : Int32) (e1 : Int32) (e2 : Int32) (h : Heap) (n0 : Nat) (Z0 : n0 ≤ h.size) (vs : List Int32) (AA : Ai Z h ar vs) (hp : cn.toInt ≤ i.toInt ∨ (0 ≤ i.toInt ∧ i.toInt < (vs.length : Int) ∧ vs.getD i.toNatClampNeg 0 = own_expd (of + i) sv e0 e1 e2)) :
    Mt l Z (⟨"com/example/holdfast/holdfast/fill/UnitOrderNextPinLaw", "at", "([IIIIIIII)Z"⟩ : MethodName) method_4_code 8 (some .boolean) ws ({ frames := 2, cells := 0, slots := 0, locals := 39 } : Room) #[(.ref ar), (.int i), (.int cn), (.int of), (.int sv), (.int e0), (.int e1), (.int e2)] h n0 (fun v h' => v = some (.int 1) ∧ h' = h) := by
  refine Mt.of (own := "com/example/holdfast/holdfast/fill/UnitOrderNextPinLaw") (nm := "at") pn_at Z0 (Ls := #[.val (.ref ar), .val (.int i), .val (.int cn), .val (.int of), .val (.int sv), .val (.int e0), .val (.int e1), .val (.int e2)]) (fun m => ef_at m ar i cn of sv e0 e1 e2) rfl rfl (fun p e s m below meth c T C S => ?_)
  refine own_run S C [.iload_n 1, .iload_n 2] (pc' := 2) (Ls' := #[.val (.ref ar), .val (.int i), .val (.int cn), .val (.int of), .val (.int sv), .val (.int e0), .val (.int e1), .val (.int e2)]) (st' := [(.int cn), (.int i)]) (by decide +kernel) rfl ?_
  refine own_icmp S C (cd := .ge) (o := 23) (by decide +kernel) (pc' := 25) ⟨by decide, by decide⟩ (fun hc2 => ?_) (fun hc2 => ?_)
  · skip
    have k2 : i.toInt ≥ cn.toInt := (hh_ge).1.mp hc2
    refine own_run S C [.iconst 1, .goto 4] (pc' := 30) (Ls' := #[.val (.ref ar), .val (.int i), .val (.int cn), .val (.int of), .val (.int sv), .val (.int e0), .val (.int e1), .val (.int e2)]) (st' := [(.int (1 : Int32))]) (by decide +kernel) rfl ?_
    exact own_retz S C (z' := (1 : Int32)) (by decide) (by decide +kernel) (Nat.zero_le _) (Nat.zero_le _) ⟨rfl, rfl⟩
  · skip
    have k2 : i.toInt < cn.toInt := (hh_ge).2.mp hc2
    rcases hp with hp | ⟨q1, q2, q3⟩
    · omega
    refine own_run S C [.aload_n 0, .iload_n 1] (pc' := 7) (Ls' := #[.val (.ref ar), .val (.int i), .val (.int cn), .val (.int of), .val (.int sv), .val (.int e0), .val (.int e1), .val (.int e2)]) (st' := [(.int i), (.ref ar)]) (by decide +kernel) rfl ?_
    refine own_iaload S C AA (by decide +kernel) (j := i) (v := (own_expd (of + i) sv e0 e1 e2)) ⟨q1, q2⟩ q3 ?_
    show Con p e below _ (mkF m 8 #[.val (.ref ar), .val (.int i), .val (.int cn), .val (.int of), .val (.int sv), .val (.int e0), .val (.int e1), .val (.int e2)] [(.int (own_expd (of + i) sv e0 e1 e2))]) _
    refine own_run S C [.iload_n 3, .iload_n 1, .iadd, .iload 4, .iload 5, .iload 6, .iload 7] (pc' := 19) (Ls' := #[.val (.ref ar), .val (.int i), .val (.int cn), .val (.int of), .val (.int sv), .val (.int e0), .val (.int e1), .val (.int e2)]) (st' := [(.int e2), (.int e1), (.int e0), (.int sv), (.int (of + i)), (.int (own_expd (of + i) sv e0 e1 e2))]) (by decide +kernel) rfl ?_
    refine own_callS S C (y := (⟨"com/example/holdfast/holdfast/fill/UnitOrderNextPinLaw", "expected", "(IIIII)I"⟩ : MethodName)) (hw _ (List.mem_of_getElem? (i := 40) rfl)) (hw _ (List.mem_of_getElem? (i := 41) rfl)) (hw _ (List.mem_of_getElem? (i := 9) rfl)) (hw _ (List.mem_of_getElem? (i := 42) rfl)) (by decide) (rm_own_expd l Z a0 hw [] (of + i) sv e0 e1 e2 h n0 Z0) 1 (by decide) (by decide) (ps := [.int, .int, .int, .int, .int]) (r := (some .int)) (by decide +kernel) [(.int (of + i)), (.int sv), (.int e0), (.int e1), (.int e2)] [(.int (own_expd (of + i) sv e0 e1 e2))] rfl rfl rfl (Nat.le_of_eq rfl) rfl (by decide +kernel) (by decide) (by decide) (fun v TE hE SE q => ?_)
    obtain ⟨rfl, hh⟩ := q
    rw [hh] at SE
    show Con p e below _ (mkF m 22 #[.val (.ref ar), .val (.int i), .val (.int cn), .val (.int of), .val (.int sv), .val (.int e0), .val (.int e1), .val (.int e2)] [(.int (own_expd (of + i) sv e0 e1 e2)), (.int (own_expd (of + i) sv e0 e1 e2))]) _
    refine own_icmp SE C (cd := .ne) (o := 7) (by decide +kernel) (pc' := 29) ⟨by decide, by decide⟩ (fun hc22 => absurd ((hh_ne).1.mp hc22) (show ¬ ((own_expd (of + i) sv e0 e1 e2).toInt ≠ (own_expd (of + i) sv e0 e1 e2).toInt) by omega)) (fun _ => ?_)
    refine own_run SE C [.iconst 1, .goto 4] (pc' := 30) (Ls' := #[.val (.ref ar), .val (.int i), .val (.int cn), .val (.int of), .val (.int sv), .val (.int e0), .val (.int e1), .val (.int e2)]) (st' := [(.int (1 : Int32))]) (by decide +kernel) rfl ?_
    exact own_retz SE C (z' := (1 : Int32)) (by decide) (by decide +kernel) (Nat.zero_le _) (Nat.zero_le _) ⟨rfl, rfl⟩
theorem ef_arr (m : MethodId) (E : Int32) : entryFrame m #[(.int E)] 1 = mkF m 0 #[.val (.int E)] [] := by first | (simp [entryFrame, mkF, argsToLocals, Value.category]; done) | rfl
theorem pn_arr : plainFor (⟨"com/example/holdfast/holdfast/fill/UnitOrderNextPinLaw", "arr", "(I)[I"⟩ : MethodName) = true := by first | (exact plainFor_of_name (by first | (simp [plainName, overriddenIn]; done) | decide +kernel)) | decide +kernel
set_option maxRecDepth 65536 in
set_option maxHeartbeats 40000000 in
theorem rm_arr (l : Launch) (Z : State) (a0 : Array Value) (hw : ∀ d ∈ tables_1, d.before a0 Z = true) (ws : List Jvm.Cond) (k : Nat) (hk : k ≤ 4) (h : Heap) (n0 : Nat) (Z0 : n0 ≤ h.size) :
    Mt l Z (⟨"com/example/holdfast/holdfast/fill/UnitOrderNextPinLaw", "arr", "(I)[I"⟩ : MethodName) method_3_code 1 (some (.array .int)) ws ({ frames := 0, cells := 1, slots := 4, locals := 0 } : Room) #[(.int (Int32.ofNat k))] h n0 (fun v h' => ∃ r, v = some (.ref r) ∧ r = h.size ∧ Ext h h' ∧ Ai Z h' r (List.replicate k (0 : Int32))) := by
  refine Mt.of (own := "com/example/holdfast/holdfast/fill/UnitOrderNextPinLaw") (nm := "arr") pn_arr Z0 (Ls := #[.val (.int (Int32.ofNat k))]) (fun m => ef_arr m _) rfl rfl (fun p e s m below meth c T C S => ?_)
  have qk := own_n2 (n := k) (by omega)
  refine own_run S C [.iload_n 0] (pc' := 1) (Ls' := #[.val (.int (Int32.ofNat k))]) (st' := [(.int (Int32.ofNat k))]) (by decide +kernel) rfl ?_
  refine own_if S C (cd := .ne) (o := 7) (by decide +kernel) (pc' := 8) ⟨by decide, by decide⟩ (fun hc1 => ?_) (fun hc1 => ?_)
  · skip
    have k1 : (Int32.ofNat k).toInt ≠ (0 : Int) := (hh_ne).1.mp hc1
    refine own_run S C [.iload_n 0, .iconst 1] (pc' := 10) (Ls' := #[.val (.int (Int32.ofNat k))]) (st' := [(.int (1 : Int32)), (.int (Int32.ofNat k))]) (by decide +kernel) rfl ?_
    refine own_icmp S C (cd := .ne) (o := 7) (by decide +kernel) (pc' := 17) ⟨by decide, by decide⟩ (fun hc10 => ?_) (fun hc10 => ?_)
    · skip
      have k10 : (Int32.ofNat k).toInt ≠ (1 : Int) := (hh_ne).1.mp hc10
      refine own_run S C [.iload_n 0, .iconst 2] (pc' := 19) (Ls' := #[.val (.int (Int32.ofNat k))]) (st' := [(.int (2 : Int32)), (.int (Int32.ofNat k))]) (by decide +kernel) rfl ?_
      refine own_icmp S C (cd := .ne) (o := 7) (by decide +kernel) (pc' := 26) ⟨by decide, by decide⟩ (fun hc19 => ?_) (fun hc19 => ?_)
      · skip
        have k19 : (Int32.ofNat k).toInt ≠ (2 : Int) := (hh_ne).1.mp hc19
        refine own_run S C [.iload_n 0, .iconst 3] (pc' := 28) (Ls' := #[.val (.int (Int32.ofNat k))]) (st' := [(.int (3 : Int32)), (.int (Int32.ofNat k))]) (by decide +kernel) rfl ?_
        refine own_icmp S C (cd := .ne) (o := 7) (by decide +kernel) (pc' := 35) ⟨by decide, by decide⟩ (fun hc28 => ?_) (fun hc28 => ?_)
        · skip
          have k28 : (Int32.ofNat k).toInt ≠ (3 : Int) := (hh_ne).1.mp hc28
          refine own_run S C [.iconst 4] (pc' := 36) (Ls' := #[.val (.int (Int32.ofNat k))]) (st' := [(.int (4 : Int32))]) (by decide +kernel) rfl ?_
          obtain rfl : k = 4 := by omega
          refine own_newarray S C (hw _ (List.mem_of_getElem? (i := 5) rfl)) (by decide +kernel) (n := (4 : Int32)) (by decide) 4 (by decide) (by decide) (by decide) (by decide) (vs := [(0 : Int32), (0 : Int32), (0 : Int32), (0 : Int32)]) rfl (fun T1 h1 b1 e1 S1 E1 g1 A1 => ?_)
          exact own_reta S1 C rfl (by decide +kernel) (by decide) (by decide) ⟨b1, rfl, e1, E1, A1⟩
        · skip
          have k28 : (Int32.ofNat k).toInt = (3 : Int) := (hh_ne).2.mp hc28
          refine own_run S C [.iconst 3] (pc' := 32) (Ls' := #[.val (.int (Int32.ofNat k))]) (st' := [(.int (3 : Int32))]) (by decide +kernel) rfl ?_
          obtain rfl : k = 3 := by omega
          refine own_newarray S C (hw _ (List.mem_of_getElem? (i := 5) rfl)) (by decide +kernel) (n := (3 : Int32)) (by decide) 4 (by decide) (by decide) (by decide) (by decide) (vs := [(0 : Int32), (0 : Int32), (0 : Int32)]) rfl (fun T2 h2 b2 e2 S2 E2 g2 A2 => ?_)
          exact own_reta S2 C rfl (by decide +kernel) (by decide) (by decide) ⟨b2, rfl, e2, E2, A2⟩
      · skip
        have k19 : (Int32.ofNat k).toInt = (2 : Int) := (hh_ne).2.mp hc19
        refine own_run S C [.iconst 2] (pc' := 23) (Ls' := #[.val (.int (Int32.ofNat k))]) (st' := [(.int (2 : Int32))]) (by decide +kernel) rfl ?_
        obtain rfl : k = 2 := by omega
        refine own_newarray S C (hw _ (List.mem_of_getElem? (i := 5) rfl)) (by decide +kernel) (n := (2 : Int32)) (by decide) 4 (by decide) (by decide) (by decide) (by decide) (vs := [(0 : Int32), (0 : Int32)]) rfl (fun T3 h3 b3 e3 S3 E3 g3 A3 => ?_)
        exact own_reta S3 C rfl (by decide +kernel) (by decide) (by decide) ⟨b3, rfl, e3, E3, A3⟩
    · skip
      have k10 : (Int32.ofNat k).toInt = (1 : Int) := (hh_ne).2.mp hc10
      refine own_run S C [.iconst 1] (pc' := 14) (Ls' := #[.val (.int (Int32.ofNat k))]) (st' := [(.int (1 : Int32))]) (by decide +kernel) rfl ?_
      obtain rfl : k = 1 := by omega
      refine own_newarray S C (hw _ (List.mem_of_getElem? (i := 5) rfl)) (by decide +kernel) (n := (1 : Int32)) (by decide) 4 (by decide) (by decide) (by decide) (by decide) (vs := [(0 : Int32)]) rfl (fun T4 h4 b4 e4 S4 E4 g4 A4 => ?_)
      exact own_reta S4 C rfl (by decide +kernel) (by decide) (by decide) ⟨b4, rfl, e4, E4, A4⟩
  · skip
    have k1 : (Int32.ofNat k).toInt = (0 : Int) := (hh_ne).2.mp hc1
    refine own_run S C [.iconst 0] (pc' := 5) (Ls' := #[.val (.int (Int32.ofNat k))]) (st' := [(.int (0 : Int32))]) (by decide +kernel) rfl ?_
    obtain rfl : k = 0 := by omega
    refine own_newarray S C (hw _ (List.mem_of_getElem? (i := 5) rfl)) (by decide +kernel) (n := (0 : Int32)) (by decide) 4 (by decide) (by decide) (by decide) (by decide) (vs := []) rfl (fun T5 h5 b5 e5 S5 E5 g5 A5 => ?_)
    exact own_reta S5 C rfl (by decide +kernel) (by decide) (by decide) ⟨b5, rfl, e5, E5, A5⟩

/-! what UnitOrder.next computes, in numbers relative to the first unit: fol (the list of blocks left), hd (its head), pv (the block before: 0 for none, else its number and one), bl (the block), pl (the place) -/
def own_pv (pv : Nat) : Int32 := if pv = 0 then -1 else Int32.ofNat (pv - 1)
abbrev own_more (F : List Nat) (bl pl : Nat) : Prop := F.getD bl 0 + pl + 1 < F.getD (bl + 1) 0
def own_fol (F fol : List Nat) (pv bl pl : Nat) : List Nat := if own_more F bl pl then fol else if pv = 0 then fol else fol.set (pv - 1) (fol.getD bl 0)
def own_hd (F fol : List Nat) (hd pv bl pl : Nat) : Nat := if own_more F bl pl then hd else if pv = 0 then fol.getD bl 0 else hd
def own_pw (F : List Nat) (pv bl pl : Nat) : Nat := if own_more F bl pl then bl + 1 else pv
def own_mrun (F : List Nat) : Nat → List Nat → Nat → Nat → Nat → Nat → Option (List Nat × List Nat × Nat × Nat × Nat × Nat)
  | 0, fol, hd, pv, bl, pl => some ([], fol, hd, pv, bl, pl)
  | n + 1, fol, hd, pv, bl, pl =>
    if bl < fol.length then
      (if F.length = fol.length + 1 ∧ fol.length ≤ 3 ∧ F.getD bl 0 + pl ≤ 12 ∧ F.getD (bl + 1) 0 ≤ 12 ∧ fol.getD bl 0 ≤ fol.length ∧ hd ≤ fol.length ∧ pv ≤ fol.length then
        (if fol.getD bl 0 = fol.length then own_mrun F n (own_fol F fol pv bl pl) (own_hd F fol hd pv bl pl) 0 (own_hd F fol hd pv bl pl) (pl + 1)
         else own_mrun F n (own_fol F fol pv bl pl) (own_hd F fol hd pv bl pl) (own_pw F pv bl pl) (fol.getD bl 0) pl).map fun r => ((F.getD bl 0 + pl) :: r.1, r.2)
       else none)
    else some ([], fol, hd, pv, bl, pl)
def own_u (sv : Int32) (u : Nat) : Int32 := sv + Int32.ofNat u
theorem own_fol_len (F fol : List Nat) (pv bl pl : Nat) : (own_fol F fol pv bl pl).length = fol.length := by
  unfold own_fol; split
  · rfl
  · split
    · rfl
    · rw [List.length_set]
theorem own_hd_le {F fol : List Nat} {hd pv bl pl : Nat} (h1 : hd ≤ fol.length) (h2 : fol.getD bl 0 ≤ fol.length) : own_hd F fol hd pv bl pl ≤ fol.length := by
  unfold own_hd; split
  · exact h1
  · split
    · exact h2
    · exact h1
theorem own_pset (vs : List Int32) (z : Nat) (v : Int32) (h : 0 < z) : (vs ++ List.replicate z (0 : Int32)).set vs.length v = (vs ++ [v]) ++ List.replicate (z - 1) (0 : Int32) := by
  obtain ⟨k, rfl⟩ : ∃ k, z = k + 1 := ⟨z - 1, by omega⟩
  rw [List.replicate_succ, List.set_append_right _ _ (Nat.le_refl _)]
  simp
theorem own_map_get (f : Nat → Int32) (L : List Nat) (i : Nat) (h : i < L.length) : (L.map f).getD i 0 = f (L.getD i 0) := by
  rw [List.getD_eq_getElem?_getD, List.getD_eq_getElem?_getD, List.getElem?_map, List.getElem?_eq_getElem h]; rfl
theorem own_uu {sv : Int32} {u : Nat} (hs : sv.toInt ≤ 2147483634) (hu : u ≤ 13) : (own_u sv u).toInt = sv.toInt + u := by
  have e := own_n2 (n := u) (by omega)
  have h0 := sv.le_toInt
  unfold own_u
  rw [own_add (by rw [e]; omega) (by rw [e]; omega), e]
theorem own_u_add (sv : Int32) (a b : Nat) : own_u sv a + Int32.ofNat b = own_u sv (a + b) := by
  unfold own_u; rw [Int32.ofNat_add, Int32.add_assoc]
def Uo (Z : State) (h : Heap) (ob fa fo : Addr) (sv : Int32) (F fol : List Nat) (hd pv bl pl : Nat) : Prop :=
  Exa Z h ob "com/example/holdfast/holdfast/fill/UnitOrder" ∧ Fld Z h ob "com/example/holdfast/holdfast/fill/UnitOrder" "first" "[I" (.ref fa) ∧ Fld Z h ob "com/example/holdfast/holdfast/fill/UnitOrder" "following" "[I" (.ref fo) ∧ Fld Z h ob "com/example/holdfast/holdfast/fill/UnitOrder" "head" "I" (.int (Int32.ofNat hd)) ∧ Fld Z h ob "com/example/holdfast/holdfast/fill/UnitOrder" "previous" "I" (.int (own_pv pv)) ∧ Fld Z h ob "com/example/holdfast/holdfast/fill/UnitOrder" "block" "I" (.int (Int32.ofNat bl)) ∧ Fld Z h ob "com/example/holdfast/holdfast/fill/UnitOrder" "place" "I" (.int (Int32.ofNat pl)) ∧ Ai Z h fa (F.map (own_u sv)) ∧ Ai Z h fo (fol.map Int32.ofNat)
theorem Uo.keep {Z : State} {h h' : Heap} {ob fa fo : Addr} {sv : Int32} {F fol : List Nat} {hd pv bl pl : Nat} {ws : List Addr} (U : Uo Z h ob fa fo sv F fol hd pv bl pl) (K : Keep h h' ws) (q1 : ob ∉ ws) (q2 : fa ∉ ws) (q3 : fo ∉ ws) : Uo Z h' ob fa fo sv F fol hd pv bl pl := by
  obtain ⟨E, F1, F2, F3, F4, F5, F6, A1, A2⟩ := U
  exact ⟨E.keep K, F1.keep K q1, F2.keep K q1, F3.keep K q1, F4.keep K q1, F5.keep K q1, F6.keep K q1, A1.keep K q2, A2.keep K q3⟩
set_option maxRecDepth 65536 in
set_option maxHeartbeats 400000000 in
theorem own_loop {p : Program} {l : Launch} {e : Env} {s : State} {m : MethodId} {args : Array Value} {below : List Frame} {meth : Method} {c : Code} {n0 : Nat} {Z : State} {a0 : Array Value} (C : Cx p s Z m meth c prog_76_method_7_code "com/example/holdfast/holdfast/fill/UnitOrder" 5 (some .int) "next") (hw : ∀ d ∈ tables_1, d.before a0 Z = true) {hA : Heap} {ob fa fo us : Addr} {sv : Int32} (hsv : sv.toInt ≤ 2147483634) {F : List Nat} {len : Nat} (hlen : len ≤ 12) (go : n0 ≤ ob) (gf : n0 ≤ fo) (gu : n0 ≤ us)
    (m1 : fa ≠ ob) (m2 : fo ≠ ob) (m3 : us ≠ ob) (m4 : fa ≠ fo) (m5 : us ≠ fo) (m6 : fa ≠ us) {cnt : Nat} {fin : List Int32} {fol' : List Nat} {hd' pv' bl' pl' : Nat} :
    ∀ n (acc : List Int32) fol hd pv bl pl outs (s3 s4 : Slot) (T : State) (h : Heap), Sl s3 → Sl s4 → St p l e ({ frames := 0, cells := 0, slots := 0, locals := 0 } : Room) s m args below meth c n0 T h 0 0 → Keep hA h [ob, fo, us] → own_mrun F n fol hd pv bl pl = some (outs, fol', hd', pv', bl', pl') → bl ≤ fol.length → fol.length ≤ 3 → acc.length + n = len → Uo Z h ob fa fo sv F fol hd pv bl pl → Ai Z h us (acc ++ List.replicate n (0 : Int32)) →
      acc.length + outs.length = cnt → acc ++ outs.map (own_u sv) ++ List.replicate (n - outs.length) (0 : Int32) = fin → Con p e below T (mkF m 2 #[.val (.ref ob), .val (.ref us), .val (.int (Int32.ofNat acc.length)), s3, s4] []) (Pq s ({ frames := 0, cells := 0, slots := 0, locals := 0 } : Room) n0 (fun v h' => v = some (.int (Int32.ofNat cnt)) ∧ Keep hA h' [ob, fo, us] ∧ Uo Z h' ob fa fo sv F fol' hd' pv' bl' pl' ∧ Ai Z h' us fin)) := by
  intro n
  induction n with
  | zero =>
    intro acc fol hd pv bl pl outs s3 s4 T h h3 h4 S K hg hbl hf3 hacc U AU hcnt hfin
    unfold own_mrun at hg
    have hcnt2 : acc.length = cnt := by cases hg; simpa using hcnt
    have q1 := own_n2 (n := acc.length) (by omega)
    refine own_run S C [.iload_n 2, .aload_n 1] (pc' := 4) (Ls' := #[.val (.ref ob), .val (.ref us), .val (.int (Int32.ofNat acc.length)), s3, s4]) (st' := [(.ref us), (.int (Int32.ofNat acc.length))]) (by decide +kernel) rfl ?_
    have hl : (acc ++ List.replicate 0 (0 : Int32)).length = acc.length := by simp
    refine own_alen S C AU (by decide +kernel) (v := (Int32.ofNat acc.length)) (by rw [hl]) ?_
    show Con p e below _ (mkF m 5 #[.val (.ref ob), .val (.ref us), .val (.int (Int32.ofNat acc.length)), s3, s4] [(.int (Int32.ofNat acc.length)), (.int (Int32.ofNat acc.length))]) _
    refine own_icmp S C (cd := .ge) (o := 147) (by decide +kernel) (pc' := 152) ⟨by decide, by decide⟩ (fun _ => ?_) (fun hc5 => absurd ((hh_ge).2.mp hc5) (show ¬ ((Int32.ofNat acc.length).toInt < (Int32.ofNat acc.length).toInt) by omega))
    refine own_run S C [.iload_n 2] (pc' := 153) (Ls' := #[.val (.ref ob), .val (.ref us), .val (.int (Int32.ofNat acc.length)), s3, s4]) (st' := [(.int (Int32.ofNat acc.length))]) (by decide +kernel) rfl ?_
    exact own_reti S C (by decide +kernel) (Nat.zero_le _) (Nat.zero_le _) ⟨by rw [hcnt2], K, by cases hg; exact U, by cases hg; rw [← hfin]; simpa using AU⟩
  | succ n ih =>
    intro acc fol hd pv bl pl outs s3 s4 T h h3 h4 S K hg hbl hf3 hacc U AU hcnt hfin
    unfold own_mrun at hg
    have q1 := own_n2 (n := acc.length) (by omega)
    have q2 := own_n2 (n := len) (by omega)
    have q3 := own_n2 (n := bl) (by omega)
    have q4 := own_n2 (n := fol.length) (by omega)
    have q5 := own_n3 (n := bl) (by omega)
    have hl : (acc ++ List.replicate (n + 1) (0 : Int32)).length = len := by rw [List.length_append, List.length_replicate]; omega
    have hU := U
    obtain ⟨E, F1, F2, F3, F4, F5, F6, A1, A2⟩ := U
    have hl2 : (fol.map Int32.ofNat).length = fol.length := by rw [List.length_map]
    refine own_run S C [.iload_n 2, .aload_n 1] (pc' := 4) (Ls' := #[.val (.ref ob), .val (.ref us), .val (.int (Int32.ofNat acc.length)), s3, s4]) (st' := [(.ref us), (.int (Int32.ofNat acc.length))]) (by decide +kernel) rfl ?_
    refine own_alen S C AU (by decide +kernel) (v := (Int32.ofNat len)) (by rw [hl]) ?_
    show Con p e below _ (mkF m 5 #[.val (.ref ob), .val (.ref us), .val (.int (Int32.ofNat acc.length)), s3, s4] [(.int (Int32.ofNat len)), (.int (Int32.ofNat acc.length))]) _
    refine own_icmp S C (cd := .ge) (o := 147) (by decide +kernel) (pc' := 152) ⟨by decide, by decide⟩ (fun hc5 => absurd ((hh_ge).1.mp hc5) (show ¬ ((Int32.ofNat acc.length).toInt ≥ (Int32.ofNat len).toInt) by omega)) (fun _ => ?_)
    refine own_run S C [.aload_n 0] (pc' := 9) (Ls' := #[.val (.ref ob), .val (.ref us), .val (.int (Int32.ofNat acc.length)), s3, s4]) (st' := [(.ref ob)]) (by decide +kernel) rfl ?_
    refine own_getf S C (hw _ (List.mem_of_getElem? (i := 31) rfl)) F5 (by decide +kernel) (fun T1 S1 => ?_)
    show Con p e below _ (mkF m 12 #[.val (.ref ob), .val (.ref us), .val (.int (Int32.ofNat acc.length)), s3, s4] [(.int (Int32.ofNat bl))]) _
    refine own_run S1 C [.aload_n 0] (pc' := 13) (Ls' := #[.val (.ref ob), .val (.ref us), .val (.int (Int32.ofNat acc.length)), s3, s4]) (st' := [(.ref ob), (.int (Int32.ofNat bl))]) (by decide +kernel) rfl ?_
    refine own_getf S1 C (hw _ (List.mem_of_getElem? (i := 24) rfl)) F2 (by decide +kernel) (fun T2 S2 => ?_)
    show Con p e below _ (mkF m 16 #[.val (.ref ob), .val (.ref us), .val (.int (Int32.ofNat acc.length)), s3, s4] [(.ref fo), (.int (Int32.ofNat bl))]) _
    refine own_alen S2 C A2 (by decide +kernel) (v := (Int32.ofNat fol.length)) (by rw [hl2]) ?_
    show Con p e below _ (mkF m 17 #[.val (.ref ob), .val (.ref us), .val (.int (Int32.ofNat acc.length)), s3, s4] [(.int (Int32.ofNat fol.length)), (.int (Int32.ofNat bl))]) _
    refine own_icmp S2 C (cd := .ge) (o := 135) (by decide +kernel) (pc' := 152) ⟨by decide, by decide⟩ (fun hc17 => ?_) (fun hc17 => ?_)
    · skip
      have k17 : (Int32.ofNat bl).toInt ≥ (Int32.ofNat fol.length).toInt := (hh_ge).1.mp hc17
      rw [if_neg (by omega)] at hg
      have hcnt2 : acc.length = cnt := by cases hg; simpa using hcnt
      refine own_run S2 C [.iload_n 2] (pc' := 153) (Ls' := #[.val (.ref ob), .val (.ref us), .val (.int (Int32.ofNat acc.length)), s3, s4]) (st' := [(.int (Int32.ofNat acc.length))]) (by decide +kernel) rfl ?_
      exact own_reti S2 C (by decide +kernel) (Nat.zero_le _) (Nat.zero_le _) ⟨by rw [hcnt2], K, by cases hg; exact hU, by cases hg; rw [← hfin]; simpa using AU⟩
    · skip
      have k17 : (Int32.ofNat bl).toInt < (Int32.ofNat fol.length).toInt := (hh_ge).2.mp hc17
      rw [if_pos (by omega)] at hg
      split at hg
      · rename_i hc
        obtain ⟨c1, c2, c3, c4, c5, c6, c7⟩ := hc
        have q6 := own_n2 (n := fol.getD bl 0) (by omega)
        have hlF : (F.map (own_u sv)).length = F.length := by rw [List.length_map]
        refine own_run S2 C [.aload_n 0] (pc' := 21) (Ls' := #[.val (.ref ob), .val (.ref us), .val (.int (Int32.ofNat acc.length)), s3, s4]) (st' := [(.ref ob)]) (by decide +kernel) rfl ?_
        refine own_getf S2 C (hw _ (List.mem_of_getElem? (i := 22) rfl)) F1 (by decide +kernel) (fun T3 S3 => ?_)
        show Con p e below _ (mkF m 24 #[.val (.ref ob), .val (.ref us), .val (.int (Int32.ofNat acc.length)), s3, s4] [(.ref fa)]) _
        refine own_run S3 C [.aload_n 0] (pc' := 25) (Ls' := #[.val (.ref ob), .val (.ref us), .val (.int (Int32.ofNat acc.length)), s3, s4]) (st' := [(.ref ob), (.ref fa)]) (by decide +kernel) rfl ?_
        refine own_getf S3 C (hw _ (List.mem_of_getElem? (i := 31) rfl)) F5 (by decide +kernel) (fun T4 S4 => ?_)
        show Con p e below _ (mkF m 28 #[.val (.ref ob), .val (.ref us), .val (.int (Int32.ofNat acc.length)), s3, s4] [(.int (Int32.ofNat bl)), (.ref fa)]) _
        refine own_iaload S4 C A1 (by decide +kernel) (j := (Int32.ofNat bl)) (v := (own_u sv (F.getD bl 0))) (by rw [hlF]; omega) (by rw [q5]; exact own_map_get _ _ _ (by omega)) ?_
        show Con p e below _ (mkF m 29 #[.val (.ref ob), .val (.ref us), .val (.int (Int32.ofNat acc.length)), s3, s4] [(.int (own_u sv (F.getD bl 0)))]) _
        refine own_run S4 C [.aload_n 0] (pc' := 30) (Ls' := #[.val (.ref ob), .val (.ref us), .val (.int (Int32.ofNat acc.length)), s3, s4]) (st' := [(.ref ob), (.int (own_u sv (F.getD bl 0)))]) (by decide +kernel) rfl ?_
        refine own_getf S4 C (hw _ (List.mem_of_getElem? (i := 33) rfl)) F6 (by decide +kernel) (fun T5 S5 => ?_)
        show Con p e below _ (mkF m 33 #[.val (.ref ob), .val (.ref us), .val (.int (Int32.ofNat acc.length)), s3, s4] [(.int (Int32.ofNat pl)), (.int (own_u sv (F.getD bl 0)))]) _
        refine own_run S5 C [.iadd] (pc' := 34) (Ls' := #[.val (.ref ob), .val (.ref us), .val (.int (Int32.ofNat acc.length)), s3, s4]) (st' := [(.int ((own_u sv (F.getD bl 0)) + (Int32.ofNat pl)))]) (by decide +kernel) rfl ?_
        rw [own_u_add]
        obtain ⟨u, hu⟩ : ∃ u, u = F.getD bl 0 + pl := ⟨_, rfl⟩
        rw [← hu] at hg c3 ⊢
        refine own_istoreGN S5 C (k := 3) (o := s3) h3 (by decide +kernel) rfl (Ls' := #[.val (.ref ob), .val (.ref us), .val (.int (Int32.ofNat acc.length)), .val (.int (own_u sv u)), s4]) rfl ?_
        show Con p e below _ (mkF m 35 #[.val (.ref ob), .val (.ref us), .val (.int (Int32.ofNat acc.length)), .val (.int (own_u sv u)), s4] []) _
        refine own_run S5 C [.aload_n 0] (pc' := 36) (Ls' := #[.val (.ref ob), .val (.ref us), .val (.int (Int32.ofNat acc.length)), .val (.int (own_u sv u)), s4]) (st' := [(.ref ob)]) (by decide +kernel) rfl ?_
        refine own_getf S5 C (hw _ (List.mem_of_getElem? (i := 24) rfl)) F2 (by decide +kernel) (fun T6 S6 => ?_)
        show Con p e below _ (mkF m 39 #[.val (.ref ob), .val (.ref us), .val (.int (Int32.ofNat acc.length)), .val (.int (own_u sv u)), s4] [(.ref fo)]) _
        refine own_run S6 C [.aload_n 0] (pc' := 40) (Ls' := #[.val (.ref ob), .val (.ref us), .val (.int (Int32.ofNat acc.length)), .val (.int (own_u sv u)), s4]) (st' := [(.ref ob), (.ref fo)]) (by decide +kernel) rfl ?_
        refine own_getf S6 C (hw _ (List.mem_of_getElem? (i := 31) rfl)) F5 (by decide +kernel) (fun T7 S7 => ?_)
        show Con p e below _ (mkF m 43 #[.val (.ref ob), .val (.ref us), .val (.int (Int32.ofNat acc.length)), .val (.int (own_u sv u)), s4] [(.int (Int32.ofNat bl)), (.ref fo)]) _
        refine own_iaload S7 C A2 (by decide +kernel) (j := (Int32.ofNat bl)) (v := (Int32.ofNat (fol.getD bl 0))) (by rw [hl2]; omega) (by rw [q5]; exact own_map_get _ _ _ (by omega)) ?_
        show Con p e below _ (mkF m 44 #[.val (.ref ob), .val (.ref us), .val (.int (Int32.ofNat acc.length)), .val (.int (own_u sv u)), s4] [(.int (Int32.ofNat (fol.getD bl 0)))]) _
        refine own_istoreG S7 C (k := 4) (o := s4) h4 (by decide +kernel) rfl (Ls' := #[.val (.ref ob), .val (.ref us), .val (.int (Int32.ofNat acc.length)), .val (.int (own_u sv u)), .val (.int (Int32.ofNat (fol.getD bl 0)))]) rfl ?_
        show Con p e below _ (mkF m 46 #[.val (.ref ob), .val (.ref us), .val (.int (Int32.ofNat acc.length)), .val (.int (own_u sv u)), .val (.int (Int32.ofNat (fol.getD bl 0)))] []) _
        have qu := own_uu (u := u) hsv (by omega)
        have qn := own_uu (u := F.getD (bl + 1) 0) hsv (by omega)
        have qu1 := own_uu (u := u + 1) hsv (by omega)
        have j142 : ∀ (T' : State) (h' : Heap) (f2 : List Nat) (d2 p2 b2 l2 : Nat), St p l e ({ frames := 0, cells := 0, slots := 0, locals := 0 } : Room) s m args below meth c n0 T' h' 0 0 → Keep hA h' [ob, fo, us] → Uo Z h' ob fa fo sv F f2 d2 p2 b2 l2 → Ai Z h' us (acc ++ List.replicate (n + 1) (0 : Int32)) → f2.length = fol.length → b2 ≤ fol.length → (own_mrun F n f2 d2 p2 b2 l2).map (fun r => (u :: r.1, r.2)) = some (outs, fol', hd', pv', bl', pl') → Con p e below T' (mkF m 142 #[.val (.ref ob), .val (.ref us), .val (.int (Int32.ofNat acc.length)), .val (.int (own_u sv u)), .val (.int (Int32.ofNat (fol.getD bl 0)))] []) (Pq s ({ frames := 0, cells := 0, slots := 0, locals := 0 } : Room) n0 (fun v h' => v = some (.int (Int32.ofNat cnt)) ∧ Keep hA h' [ob, fo, us] ∧ Uo Z h' ob fa fo sv F fol' hd' pv' bl' pl' ∧ Ai Z h' us fin)) := by
          intro T' h' f2 d2 p2 b2 l2 SS K2 U2 AU2 hf2 hb2 hr
          have q8 := own_n3 (n := acc.length) (by omega)
          refine own_run SS C [.aload_n 1, .iload_n 2, .iinc 2 1, .iload_n 3] (pc' := 148) (Ls' := #[.val (.ref ob), .val (.ref us), .val (.int ((Int32.ofNat acc.length) + (1 : Int32))), .val (.int (own_u sv u)), .val (.int (Int32.ofNat (fol.getD bl 0)))]) (st' := [(.int (own_u sv u)), (.int (Int32.ofNat acc.length)), (.ref us)]) (by decide +kernel) rfl ?_
          refine own_iastore SS C AU2 (by decide +kernel) (j := (Int32.ofNat acc.length)) (x := (own_u sv u)) (by rw [q1, hl]; omega) gu (vs' := (acc ++ [own_u sv u]) ++ List.replicate n (0 : Int32)) (by rw [q8, own_pset _ _ _ (by omega)]; rfl) (fun TB hB SB KB AB => ?_)
          refine own_run SB C [.goto (-147)] (pc' := 2) (Ls' := #[.val (.ref ob), .val (.ref us), .val (.int ((Int32.ofNat acc.length) + (1 : Int32))), .val (.int (own_u sv u)), .val (.int (Int32.ofNat (fol.getD bl 0)))]) (st' := []) (by decide +kernel) rfl ?_
          rw [own_succ]
          have ee : acc.length + 1 = (acc ++ [own_u sv u]).length := by rw [List.length_append, List.length_singleton]
          rw [ee]
          have U3 := U2.keep KB (ninS m3.symm nin0) (ninS m6 nin0) (ninS m5.symm nin0)
          obtain ⟨⟨o1, fq, dq, pq, bq, lq⟩, hr1, hr2⟩ := Option.map_eq_some_iff.mp hr
          simp only [Prod.mk.injEq] at hr2
          obtain ⟨rfl, rfl, rfl, rfl, rfl, rfl⟩ := hr2
          refine ih (acc ++ [own_u sv u]) f2 d2 p2 b2 l2 o1 _ _ TB hB (Sl.i _) (Sl.i _) SB (K2.trans KB (allS (Or.inl (by simp)) all0)) hr1 (by omega) (by omega) (by rw [← ee]; omega) U3 AB (by rw [← ee, ← hcnt, List.length_cons]; omega) ?_
          rw [← hfin, List.map_cons, List.length_cons, Nat.add_sub_add_right]; simp
        have j101 : ∀ (T' : State) (h' : Heap), St p l e ({ frames := 0, cells := 0, slots := 0, locals := 0 } : Room) s m args below meth c n0 T' h' 0 0 → Keep hA h' [ob, fo, us] → Uo Z h' ob fa fo sv F (own_fol F fol pv bl pl) (own_hd F fol hd pv bl pl) (own_pw F pv bl pl) bl pl → Ai Z h' us (acc ++ List.replicate (n + 1) (0 : Int32)) → Con p e below T' (mkF m 101 #[.val (.ref ob), .val (.ref us), .val (.int (Int32.ofNat acc.length)), .val (.int (own_u sv u)), .val (.int (Int32.ofNat (fol.getD bl 0)))] []) (Pq s ({ frames := 0, cells := 0, slots := 0, locals := 0 } : Room) n0 (fun v h' => v = some (.int (Int32.ofNat cnt)) ∧ Keep hA h' [ob, fo, us] ∧ Uo Z h' ob fa fo sv F fol' hd' pv' bl' pl' ∧ Ai Z h' us fin)) := by
          intro T' h' SS K2 U2 AU2
          have hfl := own_fol_len F fol pv bl pl
          have hhd := own_hd_le (F := F) (pv := pv) (bl := bl) (pl := pl) c6 c5
          generalize own_fol F fol pv bl pl = f1 at hg hfl U2 ⊢
          generalize own_hd F fol hd pv bl pl = d1 at hg hhd U2 ⊢
          generalize own_pw F pv bl pl = p1 at hg U2 ⊢
          obtain ⟨E, F1, F2, F3, F4, F5, F6, A1, A2⟩ := U2
          have hl3 : (f1.map Int32.ofNat).length = fol.length := by rw [List.length_map, hfl]
          refine own_run SS C [.aload_n 0, .iload 4] (pc' := 104) (Ls' := #[.val (.ref ob), .val (.ref us), .val (.int (Int32.ofNat acc.length)), .val (.int (own_u sv u)), .val (.int (Int32.ofNat (fol.getD bl 0)))]) (st' := [(.int (Int32.ofNat (fol.getD bl 0))), (.ref ob)]) (by decide +kernel) rfl ?_
          refine own_putf SS C (hw _ (List.mem_of_getElem? (i := 31) rfl)) F5 E (Or.inl (hw _ (List.mem_of_getElem? (i := 32) rfl))) (hw _ (List.mem_of_getElem? (i := 12) rfl)) (ty := .int) (by decide) rfl rfl go (by decide +kernel) (fun T8 h8 S8 W8 => ?_)
          have Ffirst_8 := F1.other W8 (Or.inr (slot_ne (Or.inr (hw _ (List.mem_of_getElem? (i := 23) rfl))) (Or.inl (hw _ (List.mem_of_getElem? (i := 32) rfl))) (by decide) (t := (.array .int)) (t' := .int) (by decide) (by decide)))
          have Ffollowing_8 := F2.other W8 (Or.inr (slot_ne (Or.inr (hw _ (List.mem_of_getElem? (i := 25) rfl))) (Or.inl (hw _ (List.mem_of_getElem? (i := 32) rfl))) (by decide) (t := (.array .int)) (t' := .int) (by decide) (by decide)))
          have Fhead_8 := F3.other W8 (Or.inr (slot_ne (Or.inl (hw _ (List.mem_of_getElem? (i := 36) rfl))) (Or.inl (hw _ (List.mem_of_getElem? (i := 32) rfl))) (by decide) (t := .int) (t' := .int) (by decide) (by decide)))
          have Fprevious_8 := F4.other W8 (Or.inr (slot_ne (Or.inl (hw _ (List.mem_of_getElem? (i := 21) rfl))) (Or.inl (hw _ (List.mem_of_getElem? (i := 32) rfl))) (by decide) (t := .int) (t' := .int) (by decide) (by decide)))
          have Fblock_8 := F5.same W8
          have Fplace_8 := F6.other W8 (Or.inr (slot_ne (Or.inl (hw _ (List.mem_of_getElem? (i := 34) rfl))) (Or.inl (hw _ (List.mem_of_getElem? (i := 32) rfl))) (by decide) (t := .int) (t' := .int) (by decide) (by decide)))
          have E_8 := E.wr W8
          have A9 := A1.other W8 m1
          have A10 := A2.other W8 m2
          have A11 := AU2.other W8 m3
          refine own_run S8 C [.aload_n 0] (pc' := 108) (Ls' := #[.val (.ref ob), .val (.ref us), .val (.int (Int32.ofNat acc.length)), .val (.int (own_u sv u)), .val (.int (Int32.ofNat (fol.getD bl 0)))]) (st' := [(.ref ob)]) (by decide +kernel) rfl ?_
          refine own_getf S8 C (hw _ (List.mem_of_getElem? (i := 31) rfl)) Fblock_8 (by decide +kernel) (fun T12 S12 => ?_)
          show Con p e below _ (mkF m 111 #[.val (.ref ob), .val (.ref us), .val (.int (Int32.ofNat acc.length)), .val (.int (own_u sv u)), .val (.int (Int32.ofNat (fol.getD bl 0)))] [(.int (Int32.ofNat (fol.getD bl 0)))]) _
          refine own_run S12 C [.aload_n 0] (pc' := 112) (Ls' := #[.val (.ref ob), .val (.ref us), .val (.int (Int32.ofNat acc.length)), .val (.int (own_u sv u)), .val (.int (Int32.ofNat (fol.getD bl 0)))]) (st' := [(.ref ob), (.int (Int32.ofNat (fol.getD bl 0)))]) (by decide +kernel) rfl ?_
          refine own_getf S12 C (hw _ (List.mem_of_getElem? (i := 24) rfl)) Ffollowing_8 (by decide +kernel) (fun T13 S13 => ?_)
          show Con p e below _ (mkF m 115 #[.val (.ref ob), .val (.ref us), .val (.int (Int32.ofNat acc.length)), .val (.int (own_u sv u)), .val (.int (Int32.ofNat (fol.getD bl 0)))] [(.ref fo), (.int (Int32.ofNat (fol.getD bl 0)))]) _
          refine own_alen S13 C A10 (by decide +kernel) (v := (Int32.ofNat fol.length)) (by rw [hl3]) ?_
          show Con p e below _ (mkF m 116 #[.val (.ref ob), .val (.ref us), .val (.int (Int32.ofNat acc.length)), .val (.int (own_u sv u)), .val (.int (Int32.ofNat (fol.getD bl 0)))] [(.int (Int32.ofNat fol.length)), (.int (Int32.ofNat (fol.getD bl 0)))]) _
          have K3 : Keep hA h8 [ob, fo, us] := K2.wr W8 (Or.inl (by simp))
          refine own_icmp S13 C (cd := .ne) (o := 26) (by decide +kernel) (pc' := 142) ⟨by decide, by decide⟩ (fun hc116 => ?_) (fun hc116 => ?_)
          · skip
            have k116 : (Int32.ofNat (fol.getD bl 0)).toInt ≠ (Int32.ofNat fol.length).toInt := (hh_ne).1.mp hc116
            rw [if_neg (by omega)] at hg
            exact j142 _ _ f1 d1 p1 (fol.getD bl 0) pl S13 K3 ⟨E_8, Ffirst_8, Ffollowing_8, Fhead_8, Fprevious_8, Fblock_8, Fplace_8, A9, A10⟩ A11 hfl c5 hg
          · skip
            have k116 : (Int32.ofNat (fol.getD bl 0)).toInt = (Int32.ofNat fol.length).toInt := (hh_ne).2.mp hc116
            rw [if_pos (by omega)] at hg
            refine own_run S13 C [.aload_n 0, .dup] (pc' := 121) (Ls' := #[.val (.ref ob), .val (.ref us), .val (.int (Int32.ofNat acc.length)), .val (.int (own_u sv u)), .val (.int (Int32.ofNat (fol.getD bl 0)))]) (st' := [(.ref ob), (.ref ob)]) (by decide +kernel) rfl ?_
            refine own_getf S13 C (hw _ (List.mem_of_getElem? (i := 33) rfl)) Fplace_8 (by decide +kernel) (fun T14 S14 => ?_)
            show Con p e below _ (mkF m 124 #[.val (.ref ob), .val (.ref us), .val (.int (Int32.ofNat acc.length)), .val (.int (own_u sv u)), .val (.int (Int32.ofNat (fol.getD bl 0)))] [(.int (Int32.ofNat pl)), (.ref ob)]) _
            refine own_run S14 C [.iconst 1, .iadd] (pc' := 126) (Ls' := #[.val (.ref ob), .val (.ref us), .val (.int (Int32.ofNat acc.length)), .val (.int (own_u sv u)), .val (.int (Int32.ofNat (fol.getD bl 0)))]) (st' := [(.int ((Int32.ofNat pl) + (1 : Int32))), (.ref ob)]) (by decide +kernel) rfl ?_
            rw [own_succ]
            refine own_putf S14 C (hw _ (List.mem_of_getElem? (i := 33) rfl)) Fplace_8 E_8 (Or.inl (hw _ (List.mem_of_getElem? (i := 34) rfl))) (hw _ (List.mem_of_getElem? (i := 12) rfl)) (ty := .int) (by decide) rfl rfl go (by decide +kernel) (fun T15 h15 S15 W15 => ?_)
            have Ffirst_15 := Ffirst_8.other W15 (Or.inr (slot_ne (Or.inr (hw _ (List.mem_of_getElem? (i := 23) rfl))) (Or.inl (hw _ (List.mem_of_getElem? (i := 34) rfl))) (by decide) (t := (.array .int)) (t' := .int) (by decide) (by decide)))
            have Ffollowing_15 := Ffollowing_8.other W15 (Or.inr (slot_ne (Or.inr (hw _ (List.mem_of_getElem? (i := 25) rfl))) (Or.inl (hw _ (List.mem_of_getElem? (i := 34) rfl))) (by decide) (t := (.array .int)) (t' := .int) (by decide) (by decide)))
            have Fhead_15 := Fhead_8.other W15 (Or.inr (slot_ne (Or.inl (hw _ (List.mem_of_getElem? (i := 36) rfl))) (Or.inl (hw _ (List.mem_of_getElem? (i := 34) rfl))) (by decide) (t := .int) (t' := .int) (by decide) (by decide)))
            have Fprevious_15 := Fprevious_8.other W15 (Or.inr (slot_ne (Or.inl (hw _ (List.mem_of_getElem? (i := 21) rfl))) (Or.inl (hw _ (List.mem_of_getElem? (i := 34) rfl))) (by decide) (t := .int) (t' := .int) (by decide) (by decide)))
            have Fblock_15 := Fblock_8.other W15 (Or.inr (slot_ne (Or.inl (hw _ (List.mem_of_getElem? (i := 32) rfl))) (Or.inl (hw _ (List.mem_of_getElem? (i := 34) rfl))) (by decide) (t := .int) (t' := .int) (by decide) (by decide)))
            have Fplace_15 := Fplace_8.same W15
            have E_15 := E_8.wr W15
            have A16 := A9.other W15 m1
            have A17 := A10.other W15 m2
            have A18 := A11.other W15 m3
            refine own_run S15 C [.aload_n 0, .aload_n 0] (pc' := 131) (Ls' := #[.val (.ref ob), .val (.ref us), .val (.int (Int32.ofNat acc.length)), .val (.int (own_u sv u)), .val (.int (Int32.ofNat (fol.getD bl 0)))]) (st' := [(.ref ob), (.ref ob)]) (by decide +kernel) rfl ?_
            refine own_getf S15 C (hw _ (List.mem_of_getElem? (i := 35) rfl)) Fhead_15 (by decide +kernel) (fun T19 S19 => ?_)
            show Con p e below _ (mkF m 134 #[.val (.ref ob), .val (.ref us), .val (.int (Int32.ofNat acc.length)), .val (.int (own_u sv u)), .val (.int (Int32.ofNat (fol.getD bl 0)))] [(.int (Int32.ofNat d1)), (.ref ob)]) _
            refine own_putf S19 C (hw _ (List.mem_of_getElem? (i := 31) rfl)) Fblock_15 E_15 (Or.inl (hw _ (List.mem_of_getElem? (i := 32) rfl))) (hw _ (List.mem_of_getElem? (i := 12) rfl)) (ty := .int) (by decide) rfl rfl go (by decide +kernel) (fun T20 h20 S20 W20 => ?_)
            have Ffirst_20 := Ffirst_15.other W20 (Or.inr (slot_ne (Or.inr (hw _ (List.mem_of_getElem? (i := 23) rfl))) (Or.inl (hw _ (List.mem_of_getElem? (i := 32) rfl))) (by decide) (t := (.array .int)) (t' := .int) (by decide) (by decide)))
            have Ffollowing_20 := Ffollowing_15.other W20 (Or.inr (slot_ne (Or.inr (hw _ (List.mem_of_getElem? (i := 25) rfl))) (Or.inl (hw _ (List.mem_of_getElem? (i := 32) rfl))) (by decide) (t := (.array .int)) (t' := .int) (by decide) (by decide)))
            have Fhead_20 := Fhead_15.other W20 (Or.inr (slot_ne (Or.inl (hw _ (List.mem_of_getElem? (i := 36) rfl))) (Or.inl (hw _ (List.mem_of_getElem? (i := 32) rfl))) (by decide) (t := .int) (t' := .int) (by decide) (by decide)))
            have Fprevious_20 := Fprevious_15.other W20 (Or.inr (slot_ne (Or.inl (hw _ (List.mem_of_getElem? (i := 21) rfl))) (Or.inl (hw _ (List.mem_of_getElem? (i := 32) rfl))) (by decide) (t := .int) (t' := .int) (by decide) (by decide)))
            have Fblock_20 := Fblock_15.same W20
            have Fplace_20 := Fplace_15.other W20 (Or.inr (slot_ne (Or.inl (hw _ (List.mem_of_getElem? (i := 34) rfl))) (Or.inl (hw _ (List.mem_of_getElem? (i := 32) rfl))) (by decide) (t := .int) (t' := .int) (by decide) (by decide)))
            have E_20 := E_15.wr W20
            have A21 := A16.other W20 m1
            have A22 := A17.other W20 m2
            have A23 := A18.other W20 m3
            refine own_run S20 C [.aload_n 0, .iconst (-1)] (pc' := 139) (Ls' := #[.val (.ref ob), .val (.ref us), .val (.int (Int32.ofNat acc.length)), .val (.int (own_u sv u)), .val (.int (Int32.ofNat (fol.getD bl 0)))]) (st' := [(.int (-1 : Int32)), (.ref ob)]) (by decide +kernel) rfl ?_
            refine own_putf S20 C (hw _ (List.mem_of_getElem? (i := 20) rfl)) Fprevious_20 E_20 (Or.inl (hw _ (List.mem_of_getElem? (i := 21) rfl))) (hw _ (List.mem_of_getElem? (i := 12) rfl)) (ty := .int) (by decide) rfl rfl go (by decide +kernel) (fun T24 h24 S24 W24 => ?_)
            have Ffirst_24 := Ffirst_20.other W24 (Or.inr (slot_ne (Or.inr (hw _ (List.mem_of_getElem? (i := 23) rfl))) (Or.inl (hw _ (List.mem_of_getElem? (i := 21) rfl))) (by decide) (t := (.array .int)) (t' := .int) (by decide) (by decide)))
            have Ffollowing_24 := Ffollowing_20.other W24 (Or.inr (slot_ne (Or.inr (hw _ (List.mem_of_getElem? (i := 25) rfl))) (Or.inl (hw _ (List.mem_of_getElem? (i := 21) rfl))) (by decide) (t := (.array .int)) (t' := .int) (by decide) (by decide)))
            have Fhead_24 := Fhead_20.other W24 (Or.inr (slot_ne (Or.inl (hw _ (List.mem_of_getElem? (i := 36) rfl))) (Or.inl (hw _ (List.mem_of_getElem? (i := 21) rfl))) (by decide) (t := .int) (t' := .int) (by decide) (by decide)))
            have Fprevious_24 := Fprevious_20.same W24
            have Fblock_24 := Fblock_20.other W24 (Or.inr (slot_ne (Or.inl (hw _ (List.mem_of_getElem? (i := 32) rfl))) (Or.inl (hw _ (List.mem_of_getElem? (i := 21) rfl))) (by decide) (t := .int) (t' := .int) (by decide) (by decide)))
            have Fplace_24 := Fplace_20.other W24 (Or.inr (slot_ne (Or.inl (hw _ (List.mem_of_getElem? (i := 34) rfl))) (Or.inl (hw _ (List.mem_of_getElem? (i := 21) rfl))) (by decide) (t := .int) (t' := .int) (by decide) (by decide)))
            have E_24 := E_20.wr W24
            have A25 := A21.other W24 m1
            have A26 := A22.other W24 m2
            have A27 := A23.other W24 m3
            have K4 : Keep hA h24 [ob, fo, us] := ((K3.wr W15 (Or.inl (by simp))).wr W20 (Or.inl (by simp))).wr W24 (Or.inl (by simp))
            exact j142 _ _ f1 d1 0 d1 (pl + 1) S24 K4 ⟨E_24, Ffirst_24, Ffollowing_24, Fhead_24, Fprevious_24, Fblock_24, Fplace_24, A25, A26⟩ A27 hfl hhd hg
        refine own_run S7 C [.iload_n 3, .iconst 1, .iadd, .aload_n 0] (pc' := 50) (Ls' := #[.val (.ref ob), .val (.ref us), .val (.int (Int32.ofNat acc.length)), .val (.int (own_u sv u)), .val (.int (Int32.ofNat (fol.getD bl 0)))]) (st' := [(.ref ob), (.int ((own_u sv u) + (1 : Int32)))]) (by decide +kernel) rfl ?_
        refine own_getf S7 C (hw _ (List.mem_of_getElem? (i := 22) rfl)) F1 (by decide +kernel) (fun T28 S28 => ?_)
        show Con p e below _ (mkF m 53 #[.val (.ref ob), .val (.ref us), .val (.int (Int32.ofNat acc.length)), .val (.int (own_u sv u)), .val (.int (Int32.ofNat (fol.getD bl 0)))] [(.ref fa), (.int ((own_u sv u) + (1 : Int32)))]) _
        refine own_run S28 C [.aload_n 0] (pc' := 54) (Ls' := #[.val (.ref ob), .val (.ref us), .val (.int (Int32.ofNat acc.length)), .val (.int (own_u sv u)), .val (.int (Int32.ofNat (fol.getD bl 0)))]) (st' := [(.ref ob), (.ref fa), (.int ((own_u sv u) + (1 : Int32)))]) (by decide +kernel) rfl ?_
        refine own_getf S28 C (hw _ (List.mem_of_getElem? (i := 31) rfl)) F5 (by decide +kernel) (fun T29 S29 => ?_)
        show Con p e below _ (mkF m 57 #[.val (.ref ob), .val (.ref us), .val (.int (Int32.ofNat acc.length)), .val (.int (own_u sv u)), .val (.int (Int32.ofNat (fol.getD bl 0)))] [(.int (Int32.ofNat bl)), (.ref fa), (.int ((own_u sv u) + (1 : Int32)))]) _
        refine own_run S29 C [.iconst 1, .iadd] (pc' := 59) (Ls' := #[.val (.ref ob), .val (.ref us), .val (.int (Int32.ofNat acc.length)), .val (.int (own_u sv u)), .val (.int (Int32.ofNat (fol.getD bl 0)))]) (st' := [(.int ((Int32.ofNat bl) + (1 : Int32))), (.ref fa), (.int ((own_u sv u) + (1 : Int32)))]) (by decide +kernel) rfl ?_
        rw [own_succ]
        rw [show own_u sv u + (1 : Int32) = own_u sv (u + 1) from own_u_add sv u 1]
        have q9 := own_n2 (n := bl + 1) (by omega)
        have q10 := own_n3 (n := bl + 1) (by omega)
        refine own_iaload S29 C A1 (by decide +kernel) (j := (Int32.ofNat (bl + 1))) (v := (own_u sv (F.getD (bl + 1) 0))) (by rw [hlF, q9]; omega) (by rw [q10]; exact own_map_get _ _ _ (by omega)) ?_
        show Con p e below _ (mkF m 60 #[.val (.ref ob), .val (.ref us), .val (.int (Int32.ofNat acc.length)), .val (.int (own_u sv u)), .val (.int (Int32.ofNat (fol.getD bl 0)))] [(.int (own_u sv (F.getD (bl + 1) 0))), (.int (own_u sv (u + 1)))]) _
        refine own_icmp S29 C (cd := .ge) (o := 14) (by decide +kernel) (pc' := 74) ⟨by decide, by decide⟩ (fun hc60 => ?_) (fun hc60 => ?_)
        · skip
          have k60 : (own_u sv (u + 1)).toInt ≥ (own_u sv (F.getD (bl + 1) 0)).toInt := (hh_ge).1.mp hc60
          have nm : ¬ own_more F bl pl := by unfold own_more; omega
          refine own_run S29 C [.aload_n 0] (pc' := 75) (Ls' := #[.val (.ref ob), .val (.ref us), .val (.int (Int32.ofNat acc.length)), .val (.int (own_u sv u)), .val (.int (Int32.ofNat (fol.getD bl 0)))]) (st' := [(.ref ob)]) (by decide +kernel) rfl ?_
          refine own_getf S29 C (hw _ (List.mem_of_getElem? (i := 20) rfl)) F4 (by decide +kernel) (fun T30 S30 => ?_)
          show Con p e below _ (mkF m 78 #[.val (.ref ob), .val (.ref us), .val (.int (Int32.ofNat acc.length)), .val (.int (own_u sv u)), .val (.int (Int32.ofNat (fol.getD bl 0)))] [(.int (own_pv pv))]) _
          refine own_if S30 C (cd := .ge) (o := 12) (by decide +kernel) (pc' := 90) ⟨by decide, by decide⟩ (fun hc78 => ?_) (fun hc78 => ?_)
          · skip
            have k78 : (own_pv pv).toInt ≥ (0 : Int) := (hh_ge).1.mp hc78
            have hp0 : pv ≠ 0 := fun z => by rw [z] at k78; exact absurd k78 (by decide)
            have ep : own_pv pv = Int32.ofNat (pv - 1) := if_neg hp0
            rw [ep] at F4
            refine own_run S30 C [.aload_n 0] (pc' := 91) (Ls' := #[.val (.ref ob), .val (.ref us), .val (.int (Int32.ofNat acc.length)), .val (.int (own_u sv u)), .val (.int (Int32.ofNat (fol.getD bl 0)))]) (st' := [(.ref ob)]) (by decide +kernel) rfl ?_
            refine own_getf S30 C (hw _ (List.mem_of_getElem? (i := 24) rfl)) F2 (by decide +kernel) (fun T31 S31 => ?_)
            show Con p e below _ (mkF m 94 #[.val (.ref ob), .val (.ref us), .val (.int (Int32.ofNat acc.length)), .val (.int (own_u sv u)), .val (.int (Int32.ofNat (fol.getD bl 0)))] [(.ref fo)]) _
            refine own_run S31 C [.aload_n 0] (pc' := 95) (Ls' := #[.val (.ref ob), .val (.ref us), .val (.int (Int32.ofNat acc.length)), .val (.int (own_u sv u)), .val (.int (Int32.ofNat (fol.getD bl 0)))]) (st' := [(.ref ob), (.ref fo)]) (by decide +kernel) rfl ?_
            refine own_getf S31 C (hw _ (List.mem_of_getElem? (i := 20) rfl)) F4 (by decide +kernel) (fun T32 S32 => ?_)
            show Con p e below _ (mkF m 98 #[.val (.ref ob), .val (.ref us), .val (.int (Int32.ofNat acc.length)), .val (.int (own_u sv u)), .val (.int (Int32.ofNat (fol.getD bl 0)))] [(.int (Int32.ofNat (pv - 1))), (.ref fo)]) _
            refine own_run S32 C [.iload 4] (pc' := 100) (Ls' := #[.val (.ref ob), .val (.ref us), .val (.int (Int32.ofNat acc.length)), .val (.int (own_u sv u)), .val (.int (Int32.ofNat (fol.getD bl 0)))]) (st' := [(.int (Int32.ofNat (fol.getD bl 0))), (.int (Int32.ofNat (pv - 1))), (.ref fo)]) (by decide +kernel) rfl ?_
            have q11 := own_n2 (n := pv - 1) (by omega)
            have q12 := own_n3 (n := pv - 1) (by omega)
            refine own_iastore S32 C A2 (by decide +kernel) (j := (Int32.ofNat (pv - 1))) (x := (Int32.ofNat (fol.getD bl 0))) (by rw [q11, hl2]; omega) gf (vs' := (fol.set (pv - 1) (fol.getD bl 0)).map Int32.ofNat) (by rw [q12, List.map_set]) (fun TB hB SB KB AB => ?_)
            have b1 : ob ∉ [fo] := ninS m2.symm nin0
            refine j101 TB hB SB (K.trans KB (allS (Or.inl (by simp)) all0)) ?_ (AU.keep KB (ninS m5 nin0))
            rw [show own_fol F fol pv bl pl = fol.set (pv - 1) (fol.getD bl 0) by rw [own_fol, if_neg nm, if_neg hp0], show own_hd F fol hd pv bl pl = hd by rw [own_hd, if_neg nm, if_neg hp0], show own_pw F pv bl pl = pv by rw [own_pw, if_neg nm]]
            rw [← ep] at F4
            exact ⟨E.keep KB, F1.keep KB b1, F2.keep KB b1, F3.keep KB b1, F4.keep KB b1, F5.keep KB b1, F6.keep KB b1, A1.keep KB (ninS m4 nin0), AB⟩
          · skip
            have k78 : (own_pv pv).toInt < (0 : Int) := (hh_ge).2.mp hc78
            have hp0 : pv = 0 := by
              refine Decidable.byContradiction fun z => ?_
              rw [show own_pv pv = Int32.ofNat (pv - 1) from if_neg z, own_n2 (by omega)] at k78
              omega
            refine own_run S30 C [.aload_n 0, .iload 4] (pc' := 84) (Ls' := #[.val (.ref ob), .val (.ref us), .val (.int (Int32.ofNat acc.length)), .val (.int (own_u sv u)), .val (.int (Int32.ofNat (fol.getD bl 0)))]) (st' := [(.int (Int32.ofNat (fol.getD bl 0))), (.ref ob)]) (by decide +kernel) rfl ?_
            refine own_putf S30 C (hw _ (List.mem_of_getElem? (i := 35) rfl)) F3 E (Or.inl (hw _ (List.mem_of_getElem? (i := 36) rfl))) (hw _ (List.mem_of_getElem? (i := 12) rfl)) (ty := .int) (by decide) rfl rfl go (by decide +kernel) (fun T33 h33 S33 W33 => ?_)
            have Ffirst_33 := F1.other W33 (Or.inr (slot_ne (Or.inr (hw _ (List.mem_of_getElem? (i := 23) rfl))) (Or.inl (hw _ (List.mem_of_getElem? (i := 36) rfl))) (by decide) (t := (.array .int)) (t' := .int) (by decide) (by decide)))
            have Ffollowing_33 := F2.other W33 (Or.inr (slot_ne (Or.inr (hw _ (List.mem_of_getElem? (i := 25) rfl))) (Or.inl (hw _ (List.mem_of_getElem? (i := 36) rfl))) (by decide) (t := (.array .int)) (t' := .int) (by decide) (by decide)))
            have Fhead_33 := F3.same W33
            have Fprevious_33 := F4.other W33 (Or.inr (slot_ne (Or.inl (hw _ (List.mem_of_getElem? (i := 21) rfl))) (Or.inl (hw _ (List.mem_of_getElem? (i := 36) rfl))) (by decide) (t := .int) (t' := .int) (by decide) (by decide)))
            have Fblock_33 := F5.other W33 (Or.inr (slot_ne (Or.inl (hw _ (List.mem_of_getElem? (i := 32) rfl))) (Or.inl (hw _ (List.mem_of_getElem? (i := 36) rfl))) (by decide) (t := .int) (t' := .int) (by decide) (by decide)))
            have Fplace_33 := F6.other W33 (Or.inr (slot_ne (Or.inl (hw _ (List.mem_of_getElem? (i := 34) rfl))) (Or.inl (hw _ (List.mem_of_getElem? (i := 36) rfl))) (by decide) (t := .int) (t' := .int) (by decide) (by decide)))
            have E_33 := E.wr W33
            have A34 := A1.other W33 m1
            have A35 := A2.other W33 m2
            have A36 := AU.other W33 m3
            refine own_run S33 C [.goto 14] (pc' := 101) (Ls' := #[.val (.ref ob), .val (.ref us), .val (.int (Int32.ofNat acc.length)), .val (.int (own_u sv u)), .val (.int (Int32.ofNat (fol.getD bl 0)))]) (st' := []) (by decide +kernel) rfl ?_
            refine j101 T33 h33 S33 (K.wr W33 (Or.inl (by simp))) ?_ A36
            rw [show own_fol F fol pv bl pl = fol by rw [own_fol, if_neg nm, if_pos hp0], show own_hd F fol hd pv bl pl = fol.getD bl 0 by rw [own_hd, if_neg nm, if_pos hp0], show own_pw F pv bl pl = pv by rw [own_pw, if_neg nm]]
            exact ⟨E_33, Ffirst_33, Ffollowing_33, Fhead_33, Fprevious_33, Fblock_33, Fplace_33, A34, A35⟩
        · skip
          have k60 : (own_u sv (u + 1)).toInt < (own_u sv (F.getD (bl + 1) 0)).toInt := (hh_ge).2.mp hc60
          have nm : own_more F bl pl := by unfold own_more; omega
          refine own_run S29 C [.aload_n 0, .aload_n 0] (pc' := 65) (Ls' := #[.val (.ref ob), .val (.ref us), .val (.int (Int32.ofNat acc.length)), .val (.int (own_u sv u)), .val (.int (Int32.ofNat (fol.getD bl 0)))]) (st' := [(.ref ob), (.ref ob)]) (by decide +kernel) rfl ?_
          refine own_getf S29 C (hw _ (List.mem_of_getElem? (i := 31) rfl)) F5 (by decide +kernel) (fun T37 S37 => ?_)
          show Con p e below _ (mkF m 68 #[.val (.ref ob), .val (.ref us), .val (.int (Int32.ofNat acc.length)), .val (.int (own_u sv u)), .val (.int (Int32.ofNat (fol.getD bl 0)))] [(.int (Int32.ofNat bl)), (.ref ob)]) _
          refine own_putf S37 C (hw _ (List.mem_of_getElem? (i := 20) rfl)) F4 E (Or.inl (hw _ (List.mem_of_getElem? (i := 21) rfl))) (hw _ (List.mem_of_getElem? (i := 12) rfl)) (ty := .int) (by decide) rfl rfl go (by decide +kernel) (fun T38 h38 S38 W38 => ?_)
          have Ffirst_38 := F1.other W38 (Or.inr (slot_ne (Or.inr (hw _ (List.mem_of_getElem? (i := 23) rfl))) (Or.inl (hw _ (List.mem_of_getElem? (i := 21) rfl))) (by decide) (t := (.array .int)) (t' := .int) (by decide) (by decide)))
          have Ffollowing_38 := F2.other W38 (Or.inr (slot_ne (Or.inr (hw _ (List.mem_of_getElem? (i := 25) rfl))) (Or.inl (hw _ (List.mem_of_getElem? (i := 21) rfl))) (by decide) (t := (.array .int)) (t' := .int) (by decide) (by decide)))
          have Fhead_38 := F3.other W38 (Or.inr (slot_ne (Or.inl (hw _ (List.mem_of_getElem? (i := 36) rfl))) (Or.inl (hw _ (List.mem_of_getElem? (i := 21) rfl))) (by decide) (t := .int) (t' := .int) (by decide) (by decide)))
          have Fprevious_38 := F4.same W38
          have Fblock_38 := F5.other W38 (Or.inr (slot_ne (Or.inl (hw _ (List.mem_of_getElem? (i := 32) rfl))) (Or.inl (hw _ (List.mem_of_getElem? (i := 21) rfl))) (by decide) (t := .int) (t' := .int) (by decide) (by decide)))
          have Fplace_38 := F6.other W38 (Or.inr (slot_ne (Or.inl (hw _ (List.mem_of_getElem? (i := 34) rfl))) (Or.inl (hw _ (List.mem_of_getElem? (i := 21) rfl))) (by decide) (t := .int) (t' := .int) (by decide) (by decide)))
          have E_38 := E.wr W38
          have A39 := A1.other W38 m1
          have A40 := A2.other W38 m2
          have A41 := AU.other W38 m3
          refine own_run S38 C [.goto 30] (pc' := 101) (Ls' := #[.val (.ref ob), .val (.ref us), .val (.int (Int32.ofNat acc.length)), .val (.int (own_u sv u)), .val (.int (Int32.ofNat (fol.getD bl 0)))]) (st' := []) (by decide +kernel) rfl ?_
          refine j101 T38 h38 S38 (K.wr W38 (Or.inl (by simp))) ?_ A41
          rw [show own_fol F fol pv bl pl = fol by rw [own_fol, if_pos nm], show own_hd F fol hd pv bl pl = hd by rw [own_hd, if_pos nm], show own_pw F pv bl pl = bl + 1 by rw [own_pw, if_pos nm]]
          exact ⟨E_38, Ffirst_38, Ffollowing_38, Fhead_38, Fprevious_38, Fblock_38, Fplace_38, A39, A40⟩
      · cases hg
theorem ef_next (m : MethodId) (ob : Addr) (us : Addr) : entryFrame m #[(.ref ob), (.ref us)] 5 = mkF m 0 #[.val (.ref ob), .val (.ref us), .unset, .unset, .unset] [] := by first | (simp [entryFrame, mkF, argsToLocals, Value.category]; done) | rfl
theorem pn_next : plainFor (⟨"com/example/holdfast/holdfast/fill/UnitOrder", "next", "([I)I"⟩ : MethodName) = true := by first | (exact plainFor_of_name (by first | (simp [plainName, overriddenIn]; done) | decide +kernel)) | decide +kernel
set_option maxRecDepth 65536 in
set_option maxHeartbeats 40000000 in
theorem rm_next (l : Launch) (Z : State) (a0 : Array Value) (hw : ∀ d ∈ tables_1, d.before a0 Z = true) (ws : List Jvm.Cond) (ob us : Addr) (h : Heap) (n0 : Nat) (Z0 : n0 ≤ h.size) (fa fo : Addr) (sv : Int32) (hsv : sv.toInt ≤ 2147483634) (F : List Nat) (len : Nat) (hlen : len ≤ 12) (go : n0 ≤ ob) (gf : n0 ≤ fo) (gu : n0 ≤ us) (m1 : fa ≠ ob) (m2 : fo ≠ ob) (m3 : us ≠ ob) (m4 : fa ≠ fo) (m5 : us ≠ fo) (m6 : fa ≠ us) (fol : List Nat) (hd pv bl pl : Nat) (outs fol' : List Nat) (hd' pv' bl' pl' : Nat) (hg : own_mrun F len fol hd pv bl pl = some (outs, fol', hd', pv', bl', pl')) (hbl : bl ≤ fol.length) (hf3 : fol.length ≤ 3) (U : Uo Z h ob fa fo sv F fol hd pv bl pl) (AU : Ai Z h us (List.replicate len (0 : Int32))) :
    Mt l Z (⟨"com/example/holdfast/holdfast/fill/UnitOrder", "next", "([I)I"⟩ : MethodName) prog_76_method_7_code 5 (some .int) ws ({ frames := 0, cells := 0, slots := 0, locals := 0 } : Room) #[(.ref ob), (.ref us)] h n0 (fun v h' => v = some (.int (Int32.ofNat outs.length)) ∧ Keep h h' [ob, fo, us] ∧ Uo Z h' ob fa fo sv F fol' hd' pv' bl' pl' ∧ Ai Z h' us (outs.map (own_u sv) ++ List.replicate (len - outs.length) (0 : Int32))) := by
  refine Mt.of (own := "com/example/holdfast/holdfast/fill/UnitOrder") (nm := "next") pn_next Z0 (Ls := #[.val (.ref ob), .val (.ref us), .unset, .unset, .unset]) (fun m => ef_next m ob us) rfl rfl (fun p e s m below meth c T C S => ?_)
  refine own_run S C [.iconst 0, .istore_n 2] (pc' := 2) (Ls' := #[.val (.ref ob), .val (.ref us), .val (.int (0 : Int32)), .unset, .unset]) (st' := []) (by decide +kernel) rfl ?_
  exact own_loop C hw hsv hlen go gf gu m1 m2 m3 m4 m5 m6 len [] fol hd pv bl pl outs _ _ T h Sl.u Sl.u S (Keep.refl h _) hg hbl hf3 (by simp) U (by simpa using AU) (by simp) (by simp)

def own_fol0 (nb : Nat) : List Nat := (List.range nb).map (· + 1)
def own_fo (i nb : Nat) : List Int32 := (own_fol0 i).map Int32.ofNat ++ List.replicate (nb - i) (0 : Int32)
theorem own_fol0_len (nb : Nat) : (own_fol0 nb).length = nb := by unfold own_fol0; rw [List.length_map, List.length_range]
theorem own_fo_len {i nb : Nat} (h : i ≤ nb) : (own_fo i nb).length = nb := by unfold own_fo; rw [List.length_append, List.length_map, own_fol0_len, List.length_replicate]; omega
theorem own_fo_set {i nb : Nat} (h : i < nb) : (own_fo i nb).set i (Int32.ofNat (i + 1)) = own_fo (i + 1) nb := by
  have e := own_pset ((own_fol0 i).map Int32.ofNat) (nb - i) (Int32.ofNat (i + 1)) (by omega)
  rw [List.length_map, own_fol0_len] at e
  unfold own_fo
  rw [e, Nat.sub_sub]
  congr 1
  unfold own_fol0
  rw [List.range_succ]; simp
set_option maxRecDepth 65536 in
set_option maxHeartbeats 40000000 in
theorem own_iloop {p : Program} {l : Launch} {e : Env} {s : State} {m : MethodId} {args : Array Value} {below : List Frame} {meth : Method} {c : Code} {n0 : Nat} {Z : State} {a0 : Array Value} (C : Cx p s Z m meth c prog_76_method_1_code "com/example/holdfast/holdfast/fill/UnitOrder" 3 none "<init>") (hw : ∀ d ∈ tables_1, d.before a0 Z = true) {hA : Heap} {ob fa fo : Addr} {sv : Int32} {F : List Nat} {nb : Nat} (hnb : nb ≤ 3) (gf : n0 ≤ fo) (hfo : hA.size ≤ fo) (m2 : fo ≠ ob) (m4 : fa ≠ fo) :
    ∀ k i (T : State) (h : Heap), i + k = nb → St p l e ({ frames := 1, cells := 1, slots := 3, locals := 12 } : Room) s m args below meth c n0 T h 1 3 → Keep hA h [ob] → Exa Z h ob "com/example/holdfast/holdfast/fill/UnitOrder" → Fld Z h ob "com/example/holdfast/holdfast/fill/UnitOrder" "first" "[I" (.ref fa) → Fld Z h ob "com/example/holdfast/holdfast/fill/UnitOrder" "following" "[I" (.ref fo) → Fld Z h ob "com/example/holdfast/holdfast/fill/UnitOrder" "head" "I" (.int (Int32.ofNat 0)) → Fld Z h ob "com/example/holdfast/holdfast/fill/UnitOrder" "previous" "I" (.int (own_pv 0)) → Fld Z h ob "com/example/holdfast/holdfast/fill/UnitOrder" "block" "I" (.int (Int32.ofNat 0)) → Fld Z h ob "com/example/holdfast/holdfast/fill/UnitOrder" "place" "I" (.int (Int32.ofNat 0)) → Ai Z h fa (F.map (own_u sv)) → Ai Z h fo (own_fo i nb) → Con p e below T (mkF m 26 #[.val (.ref ob), .val (.ref fa), .val (.int (Int32.ofNat i))] []) (Pq s ({ frames := 1, cells := 1, slots := 3, locals := 12 } : Room) n0 (fun v h' => v = none ∧ Keep hA h' [ob] ∧ Uo Z h' ob fa fo sv F (own_fol0 nb) 0 0 0 0)) := by
  intro k
  induction k with
  | zero =>
    intro i T h hi S K E F1 F2 F3 F4 F5 F6 A1 A2
    have q1 := own_n2 (n := i) (by omega)
    have q2 := own_n2 (n := nb) (by omega)
    have hl := own_fo_len (i := i) (nb := nb) (by omega)
    refine own_run S C [.iload_n 2, .aload_n 0] (pc' := 28) (Ls' := #[.val (.ref ob), .val (.ref fa), .val (.int (Int32.ofNat i))]) (st' := [(.ref ob), (.int (Int32.ofNat i))]) (by decide +kernel) rfl ?_
    refine own_getf S C (hw _ (List.mem_of_getElem? (i := 24) rfl)) F2 (by decide +kernel) (fun T1 S1 => ?_)
    show Con p e below _ (mkF m 31 #[.val (.ref ob), .val (.ref fa), .val (.int (Int32.ofNat i))] [(.ref fo), (.int (Int32.ofNat i))]) _
    refine own_alen S1 C A2 (by decide +kernel) (v := (Int32.ofNat nb)) (by rw [hl]) ?_
    show Con p e below _ (mkF m 32 #[.val (.ref ob), .val (.ref fa), .val (.int (Int32.ofNat i))] [(.int (Int32.ofNat nb)), (.int (Int32.ofNat i))]) _
    refine own_icmp S1 C (cd := .ge) (o := 18) (by decide +kernel) (pc' := 50) ⟨by decide, by decide⟩ (fun _ => ?_) (fun hc32 => absurd ((hh_ge).2.mp hc32) (show ¬ ((Int32.ofNat i).toInt < (Int32.ofNat nb).toInt) by omega))
    obtain rfl : i = nb := by omega
    have A3 : Ai Z h fo ((own_fol0 i).map Int32.ofNat) := by
      have e : own_fo i i = (own_fol0 i).map Int32.ofNat := by unfold own_fo; simp
      rw [← e]; exact A2
    exact own_retv S1 C (by decide +kernel) (by decide) (by decide) ⟨rfl, K, E, F1, F2, F3, F4, F5, F6, A1, A3⟩
  | succ k ih =>
    intro i T h hi S K E F1 F2 F3 F4 F5 F6 A1 A2
    have q1 := own_n2 (n := i) (by omega)
    have q2 := own_n2 (n := nb) (by omega)
    have hl := own_fo_len (i := i) (nb := nb) (by omega)
    have q3 := own_n3 (n := i) (by omega)
    refine own_run S C [.iload_n 2, .aload_n 0] (pc' := 28) (Ls' := #[.val (.ref ob), .val (.ref fa), .val (.int (Int32.ofNat i))]) (st' := [(.ref ob), (.int (Int32.ofNat i))]) (by decide +kernel) rfl ?_
    refine own_getf S C (hw _ (List.mem_of_getElem? (i := 24) rfl)) F2 (by decide +kernel) (fun T2 S2 => ?_)
    show Con p e below _ (mkF m 31 #[.val (.ref ob), .val (.ref fa), .val (.int (Int32.ofNat i))] [(.ref fo), (.int (Int32.ofNat i))]) _
    refine own_alen S2 C A2 (by decide +kernel) (v := (Int32.ofNat nb)) (by rw [hl]) ?_
    show Con p e below _ (mkF m 32 #[.val (.ref ob), .val (.ref fa), .val (.int (Int32.ofNat i))] [(.int (Int32.ofNat nb)), (.int (Int32.ofNat i))]) _
    refine own_icmp S2 C (cd := .ge) (o := 18) (by decide +kernel) (pc' := 50) ⟨by decide, by decide⟩ (fun hc32 => absurd ((hh_ge).1.mp hc32) (show ¬ ((Int32.ofNat i).toInt ≥ (Int32.ofNat nb).toInt) by omega)) (fun _ => ?_)
    refine own_run S2 C [.aload_n 0] (pc' := 36) (Ls' := #[.val (.ref ob), .val (.ref fa), .val (.int (Int32.ofNat i))]) (st' := [(.ref ob)]) (by decide +kernel) rfl ?_
    refine own_getf S2 C (hw _ (List.mem_of_getElem? (i := 24) rfl)) F2 (by decide +kernel) (fun T3 S3 => ?_)
    show Con p e below _ (mkF m 39 #[.val (.ref ob), .val (.ref fa), .val (.int (Int32.ofNat i))] [(.ref fo)]) _
    refine own_run S3 C [.iload_n 2, .iload_n 2, .iconst 1, .iadd] (pc' := 43) (Ls' := #[.val (.ref ob), .val (.ref fa), .val (.int (Int32.ofNat i))]) (st' := [(.int ((Int32.ofNat i) + (1 : Int32))), (.int (Int32.ofNat i)), (.ref fo)]) (by decide +kernel) rfl ?_
    rw [own_succ]
    refine own_iastore S3 C A2 (by decide +kernel) (j := (Int32.ofNat i)) (x := (Int32.ofNat (i + 1))) (by rw [q1, hl]; omega) gf (vs' := own_fo (i + 1) nb) (by rw [q3]; exact own_fo_set (by omega)) (fun TB hB SB KB AB => ?_)
    refine own_run SB C [.iinc 2 1, .goto (-21)] (pc' := 26) (Ls' := #[.val (.ref ob), .val (.ref fa), .val (.int ((Int32.ofNat i) + (1 : Int32)))]) (st' := []) (by decide +kernel) rfl ?_
    rw [own_succ]
    have b1 : ob ∉ [fo] := ninS m2.symm nin0
    exact ih (i + 1) TB hB (by omega) SB (K.trans KB (allS (Or.inr hfo) all0)) (E.keep KB) (F1.keep KB b1) (F2.keep KB b1) (F3.keep KB b1) (F4.keep KB b1) (F5.keep KB b1) (F6.keep KB b1) (A1.keep KB (ninS m4 nin0)) AB
theorem own_wr_size {h h' : Heap} {a : Addr} {sl : Nat} {v : Value} (W : Wr h h' a sl v) : h'.size = h.size := by
  obtain ⟨cell, -, -, -, rfl⟩ := W; simp
theorem ef_init (m : MethodId) (ob : Addr) (fa : Addr) : entryFrame m #[(.ref ob), (.ref fa)] 3 = mkF m 0 #[.val (.ref ob), .val (.ref fa), .unset] [] := by first | (simp [entryFrame, mkF, argsToLocals, Value.category]; done) | rfl
theorem pn_init : plainFor (⟨"com/example/holdfast/holdfast/fill/UnitOrder", "<init>", "([I)V"⟩ : MethodName) = true := by first | (exact plainFor_of_name (by first | (simp [plainName, overriddenIn]; done) | decide +kernel)) | decide +kernel
set_option maxRecDepth 65536 in
set_option maxHeartbeats 40000000 in
theorem rm_init (l : Launch) (Z : State) (a0 : Array Value) (hw : ∀ d ∈ tables_1, d.before a0 Z = true) (ws : List Jvm.Cond) (ob : Addr) (fa : Addr) (h : Heap) (n0 : Nat) (Z0 : n0 ≤ h.size) (sv : Int32) (F : List Nat) (nb : Nat) (hnb : nb ≤ 3) (hF : F.length = nb + 1) (go : n0 ≤ ob) (m1 : fa ≠ ob) (E : Exa Z h ob "com/example/holdfast/holdfast/fill/UnitOrder") (F1 : Fld Z h ob "com/example/holdfast/holdfast/fill/UnitOrder" "first" "[I" .null) (F2 : Fld Z h ob "com/example/holdfast/holdfast/fill/UnitOrder" "following" "[I" .null) (F3 : Fld Z h ob "com/example/holdfast/holdfast/fill/UnitOrder" "head" "I" (.int (0 : Int32))) (F4 : Fld Z h ob "com/example/holdfast/holdfast/fill/UnitOrder" "previous" "I" (.int (0 : Int32))) (F5 : Fld Z h ob "com/example/holdfast/holdfast/fill/UnitOrder" "block" "I" (.int (0 : Int32))) (F6 : Fld Z h ob "com/example/holdfast/holdfast/fill/UnitOrder" "place" "I" (.int (0 : Int32))) (A1 : Ai Z h fa (F.map (own_u sv))) :
    Mt l Z (⟨"com/example/holdfast/holdfast/fill/UnitOrder", "<init>", "([I)V"⟩ : MethodName) prog_76_method_1_code 3 none ws ({ frames := 1, cells := 1, slots := 3, locals := 12 } : Room) #[(.ref ob), (.ref fa)] h n0 (fun v h' => v = none ∧ Keep h h' [ob] ∧ Uo Z h' ob fa h.size sv F (own_fol0 nb) 0 0 0 0) := by
  refine Mt.of (own := "com/example/holdfast/holdfast/fill/UnitOrder") (nm := "<init>") pn_init Z0 (Ls := #[.val (.ref ob), .val (.ref fa), .unset]) (fun m => ef_init m ob fa) rfl rfl (fun p e s m below meth c T C S => ?_)
  have q1 := own_n2 (n := nb) (by omega)
  have q2 := own_n3 (n := nb) (by omega)
  have hlF : (F.map (own_u sv)).length = nb + 1 := by rw [List.length_map, hF]
  have hob := E.lt
  refine own_run S C [.aload_n 0] (pc' := 1) (Ls' := #[.val (.ref ob), .val (.ref fa), .unset]) (st' := [(.ref ob)]) (by decide +kernel) rfl ?_
  refine own_initO S C (hw _ (List.mem_of_getElem? (i := 17) rfl)) (hw _ (List.mem_of_getElem? (i := 18) rfl)) (hw _ (List.mem_of_getElem? (i := 19) rfl)) (by decide +kernel) (by decide) rfl 0 (Nat.le_of_eq rfl) (by decide) (fun T1 S1 => ?_)
  refine own_run S1 C [.aload_n 0, .iconst (-1)] (pc' := 6) (Ls' := #[.val (.ref ob), .val (.ref fa), .unset]) (st' := [(.int (-1 : Int32)), (.ref ob)]) (by decide +kernel) rfl ?_
  refine own_putf S1 C (hw _ (List.mem_of_getElem? (i := 20) rfl)) F4 E (Or.inl (hw _ (List.mem_of_getElem? (i := 21) rfl))) (hw _ (List.mem_of_getElem? (i := 12) rfl)) (ty := .int) (by decide) rfl rfl go (by decide +kernel) (fun T2 h2 S2 W2 => ?_)
  have Ffirst_2 := F1.other W2 (Or.inr (slot_ne (Or.inr (hw _ (List.mem_of_getElem? (i := 23) rfl))) (Or.inl (hw _ (List.mem_of_getElem? (i := 21) rfl))) (by decide) (t := (.array .int)) (t' := .int) (by decide) (by decide)))
  have Ffollowing_2 := F2.other W2 (Or.inr (slot_ne (Or.inr (hw _ (List.mem_of_getElem? (i := 25) rfl))) (Or.inl (hw _ (List.mem_of_getElem? (i := 21) rfl))) (by decide) (t := (.array .int)) (t' := .int) (by decide) (by decide)))
  have Fhead_2 := F3.other W2 (Or.inr (slot_ne (Or.inl (hw _ (List.mem_of_getElem? (i := 36) rfl))) (Or.inl (hw _ (List.mem_of_getElem? (i := 21) rfl))) (by decide) (t := .int) (t' := .int) (by decide) (by decide)))
  have Fprevious_2 := F4.same W2
  have Fblock_2 := F5.other W2 (Or.inr (slot_ne (Or.inl (hw _ (List.mem_of_getElem? (i := 32) rfl))) (Or.inl (hw _ (List.mem_of_getElem? (i := 21) rfl))) (by decide) (t := .int) (t' := .int) (by decide) (by decide)))
  have Fplace_2 := F6.other W2 (Or.inr (slot_ne (Or.inl (hw _ (List.mem_of_getElem? (i := 34) rfl))) (Or.inl (hw _ (List.mem_of_getElem? (i := 21) rfl))) (by decide) (t := .int) (t' := .int) (by decide) (by decide)))
  have E_2 := E.wr W2
  have A3 := A1.other W2 m1
  refine own_run S2 C [.aload_n 0, .aload_n 1] (pc' := 11) (Ls' := #[.val (.ref ob), .val (.ref fa), .unset]) (st' := [(.ref fa), (.ref ob)]) (by decide +kernel) rfl ?_
  refine own_putf S2 C (hw _ (List.mem_of_getElem? (i := 22) rfl)) Ffirst_2 E_2 (Or.inr ⟨(hw _ (List.mem_of_getElem? (i := 23) rfl)), rfl, rfl⟩) (hw _ (List.mem_of_getElem? (i := 12) rfl)) (ty := (.array .int)) (by decide) rfl rfl go (by decide +kernel) (fun T4 h4 S4 W4 => ?_)
  have Ffirst_4 := Ffirst_2.same W4
  have Ffollowing_4 := Ffollowing_2.other W4 (Or.inr (slot_ne (Or.inr (hw _ (List.mem_of_getElem? (i := 25) rfl))) (Or.inr (hw _ (List.mem_of_getElem? (i := 23) rfl))) (by decide) (t := (.array .int)) (t' := (.array .int)) (by decide) (by decide)))
  have Fhead_4 := Fhead_2.other W4 (Or.inr (slot_ne (Or.inl (hw _ (List.mem_of_getElem? (i := 36) rfl))) (Or.inr (hw _ (List.mem_of_getElem? (i := 23) rfl))) (by decide) (t := .int) (t' := (.array .int)) (by decide) (by decide)))
  have Fprevious_4 := Fprevious_2.other W4 (Or.inr (slot_ne (Or.inl (hw _ (List.mem_of_getElem? (i := 21) rfl))) (Or.inr (hw _ (List.mem_of_getElem? (i := 23) rfl))) (by decide) (t := .int) (t' := (.array .int)) (by decide) (by decide)))
  have Fblock_4 := Fblock_2.other W4 (Or.inr (slot_ne (Or.inl (hw _ (List.mem_of_getElem? (i := 32) rfl))) (Or.inr (hw _ (List.mem_of_getElem? (i := 23) rfl))) (by decide) (t := .int) (t' := (.array .int)) (by decide) (by decide)))
  have Fplace_4 := Fplace_2.other W4 (Or.inr (slot_ne (Or.inl (hw _ (List.mem_of_getElem? (i := 34) rfl))) (Or.inr (hw _ (List.mem_of_getElem? (i := 23) rfl))) (by decide) (t := .int) (t' := (.array .int)) (by decide) (by decide)))
  have E_4 := E_2.wr W4
  have A5 := A3.other W4 m1
  refine own_run S4 C [.aload_n 0, .aload_n 1] (pc' := 16) (Ls' := #[.val (.ref ob), .val (.ref fa), .unset]) (st' := [(.ref fa), (.ref ob)]) (by decide +kernel) rfl ?_
  refine own_alen S4 C A5 (by decide +kernel) (v := (Int32.ofNat (nb + 1))) (by rw [hlF]) ?_
  show Con p e below _ (mkF m 17 #[.val (.ref ob), .val (.ref fa), .unset] [(.int (Int32.ofNat (nb + 1))), (.ref ob)]) _
  refine own_run S4 C [.iconst 1, .isub] (pc' := 19) (Ls' := #[.val (.ref ob), .val (.ref fa), .unset]) (st' := [(.int ((Int32.ofNat (nb + 1)) - (1 : Int32))), (.ref ob)]) (by decide +kernel) rfl ?_
  rw [show Int32.ofNat (nb + 1) - (1 : Int32) = Int32.ofNat nb by rw [← own_succ, Int32.add_sub_cancel]]
  have K0 : Keep h h4 [ob] := ((Keep.refl h [ob]).wr W2 (Or.inl (by simp))).wr W4 (Or.inl (by simp))
  have hsz : h4.size = h.size := by rw [own_wr_size W4, own_wr_size W2]
  refine own_newarray S4 C (hw _ (List.mem_of_getElem? (i := 5) rfl)) (by decide +kernel) (n := (Int32.ofNat nb)) (by omega) 3 (by omega) (by decide) (by decide) (by decide) (vs := (own_fo 0 nb)) (by rw [q2]; unfold own_fo own_fol0; simp) (fun T6 h6 b6 e6 S6 E6 g6 A6 => ?_)
  have n_fa_b6 : fa ≠ b6 := own_ne A5.lt e6
  have A7 := A5.ext E6
  have K1 := K0.ext E6
  have m2 : b6 ≠ ob := by rw [e6, hsz]; exact Nat.ne_of_gt hob
  have G_first := Ffirst_4.ext E6
  have G_following := Ffollowing_4.ext E6
  have G_head := Fhead_4.ext E6
  have G_previous := Fprevious_4.ext E6
  have G_block := Fblock_4.ext E6
  have G_place := Fplace_4.ext E6
  have EX := E_4.ext E6
  refine own_putf S6 C (hw _ (List.mem_of_getElem? (i := 24) rfl)) G_following EX (Or.inr ⟨(hw _ (List.mem_of_getElem? (i := 25) rfl)), rfl, rfl⟩) (hw _ (List.mem_of_getElem? (i := 12) rfl)) (ty := (.array .int)) (by decide) rfl rfl go (by decide +kernel) (fun T8 h8 S8 W8 => ?_)
  have Ffirst_8 := G_first.other W8 (Or.inr (slot_ne (Or.inr (hw _ (List.mem_of_getElem? (i := 23) rfl))) (Or.inr (hw _ (List.mem_of_getElem? (i := 25) rfl))) (by decide) (t := (.array .int)) (t' := (.array .int)) (by decide) (by decide)))
  have Ffollowing_8 := G_following.same W8
  have Fhead_8 := G_head.other W8 (Or.inr (slot_ne (Or.inl (hw _ (List.mem_of_getElem? (i := 36) rfl))) (Or.inr (hw _ (List.mem_of_getElem? (i := 25) rfl))) (by decide) (t := .int) (t' := (.array .int)) (by decide) (by decide)))
  have Fprevious_8 := G_previous.other W8 (Or.inr (slot_ne (Or.inl (hw _ (List.mem_of_getElem? (i := 21) rfl))) (Or.inr (hw _ (List.mem_of_getElem? (i := 25) rfl))) (by decide) (t := .int) (t' := (.array .int)) (by decide) (by decide)))
  have Fblock_8 := G_block.other W8 (Or.inr (slot_ne (Or.inl (hw _ (List.mem_of_getElem? (i := 32) rfl))) (Or.inr (hw _ (List.mem_of_getElem? (i := 25) rfl))) (by decide) (t := .int) (t' := (.array .int)) (by decide) (by decide)))
  have Fplace_8 := G_place.other W8 (Or.inr (slot_ne (Or.inl (hw _ (List.mem_of_getElem? (i := 34) rfl))) (Or.inr (hw _ (List.mem_of_getElem? (i := 25) rfl))) (by decide) (t := .int) (t' := (.array .int)) (by decide) (by decide)))
  have E_8 := EX.wr W8
  have A9 := A7.other W8 m1
  have A10 := A6.other W8 m2
  refine own_run S8 C [.iconst 0, .istore_n 2] (pc' := 26) (Ls' := #[.val (.ref ob), .val (.ref fa), .val (.int (0 : Int32))]) (st' := []) (by decide +kernel) rfl ?_
  rw [hsz] at e6
  subst e6
  refine own_iloop C hw hnb Z0 (Nat.le_refl _) m2 n_fa_b6 nb 0 _ _ (by omega) S8 (K1.wr W8 (Or.inl (by simp))) E_8 Ffirst_8 Ffollowing_8 Fhead_8 Fprevious_8 Fblock_8 Fplace_8 A9 A10

/-! the plain law, over small numbers -/
def own_F (E0 E1 E2 : Nat) : List Nat := if E1 = 0 then [0, E0] else if E2 = 0 then [0, E0, E0 + E1] else [0, E0, E0 + E1, E0 + E1 + E2]
def own_cN (k E0 E1 E2 : Nat) : Nat := (if k < E0 then 1 else 0) + (if k < E1 then 1 else 0) + (if k < E2 then 1 else 0)
def own_blk (k E0 E1 ix : Nat) : Nat := if k < E0 ∧ ix = 0 then 0 else if k < E1 ∧ ix - (if k < E0 then 1 else 0) = 0 then E0 else E0 + E1
def own_eN (k E0 E1 E2 : Nat) : Nat :=
  if k < own_cN 0 E0 E1 E2 then own_blk 0 E0 E1 k
  else if k < own_cN 0 E0 E1 E2 + own_cN 1 E0 E1 E2 then own_blk 1 E0 E1 (k - own_cN 0 E0 E1 E2) + 1
  else if k < own_cN 0 E0 E1 E2 + own_cN 1 E0 E1 E2 + own_cN 2 E0 E1 E2 then own_blk 2 E0 E1 (k - own_cN 0 E0 E1 E2 - own_cN 1 E0 E1 E2) + 2
  else own_blk 3 E0 E1 (k - own_cN 0 E0 E1 E2 - own_cN 1 E0 E1 E2 - own_cN 2 E0 E1 E2) + 3
def own_same (o : List Nat) (f E0 E1 E2 : Nat) : Bool := (List.range o.length).all fun i => decide (o.getD i 0 = own_eN (f + i) E0 E1 E2)
def own_chk (E0 E1 E2 L1 L2 : Nat) : Bool :=
  match own_mrun (own_F E0 E1 E2) L1 (own_fol0 ((own_F E0 E1 E2).length - 1)) 0 0 0 0 with
  | some (o1, f1, d1, p1, b1, l1) =>
    match own_mrun (own_F E0 E1 E2) L2 f1 d1 p1 b1 l1 with
    | some (o2, f2, d2, p2, b2, l2) =>
      match own_mrun (own_F E0 E1 E2) 12 f2 d2 p2 b2 l2 with
      | some (o3, f3, d3, p3, b3, l3) =>
        match own_mrun (own_F E0 E1 E2) 1 f3 d3 p3 b3 l3 with
        | some (o4, f4, d4, p4, b4, l4) =>
          decide (b1 ≤ f1.length ∧ f1.length ≤ 3 ∧ b2 ≤ f2.length ∧ f2.length ≤ 3 ∧ b3 ≤ f3.length ∧ f3.length ≤ 3 ∧ o1.length = min L1 (E0 + E1 + E2) ∧ o2.length = min L2 (E0 + E1 + E2 - o1.length) ∧ o3.length = E0 + E1 + E2 - o1.length - o2.length ∧ o4.length = 0) &&
          (own_same o1 0 E0 E1 E2 && own_same o2 o1.length E0 E1 E2 && own_same o3 (o1.length + o2.length) E0 E1 E2)
        | none => false
      | none => false
    | none => false
  | none => false
def own_dom (E0 E1 E2 : Nat) : Prop := 1 ≤ E0 ∧ E0 ≤ 4 ∧ E1 ≤ 4 ∧ E2 ≤ 4 ∧ (E1 = 0 → E2 = 0)
theorem own_chk_all : ((List.range 4).all fun a => (List.range 5).all fun b => (List.range 5).all fun c => (List.range 5).all fun d => (List.range 5).all fun f => (decide (b = 0 ∧ c ≠ 0)) || own_chk (a + 1) b c d f) = true := by decide +kernel
theorem own_e_all : ((List.range 12).all fun k => (List.range 4).all fun a => (List.range 5).all fun b => (List.range 5).all fun c => decide (own_expd (Int32.ofNat k) (0 : Int32) (Int32.ofNat (a + 1)) (Int32.ofNat b) (Int32.ofNat c) = Int32.ofNat (own_eN k (a + 1) b c)) || decide (b = 0 ∧ c ≠ 0) || decide (a + 1 + b + c ≤ k)) = true := by decide +kernel
theorem own_e_ok {k E0 E1 E2 : Nat} (hd : own_dom E0 E1 E2) (hk : k < E0 + E1 + E2) : own_expd (Int32.ofNat k) (0 : Int32) (Int32.ofNat E0) (Int32.ofNat E1) (Int32.ofNat E2) = Int32.ofNat (own_eN k E0 E1 E2) := by
  obtain ⟨h1, h2, h3, h4, h5⟩ := hd
  have q := own_e_all
  simp only [List.all_eq_true, List.mem_range, Bool.or_eq_true, decide_eq_true_eq] at q
  have q := q k (by omega) (E0 - 1) (by omega) E1 (by omega) E2 (by omega)
  rw [show E0 - 1 + 1 = E0 by omega] at q
  rcases q with (q | q) | q
  · exact q
  · exact absurd (h5 q.1) q.2
  · omega
theorem own_shift (k sv e0 e1 e2 : Int32) : own_expd k sv e0 e1 e2 = sv + own_expd k 0 e0 e1 e2 := by
  unfold own_expd
  repeat' split
  all_goals simp only [Int32.zero_add, Int32.add_assoc]
theorem own_plain {E0 E1 E2 L1 L2 : Nat} (hd : own_dom E0 E1 E2) (h1 : L1 ≤ 4) (h2 : L2 ≤ 4) :
    ∃ o1 f1 d1 p1 b1 l1 o2 f2 d2 p2 b2 l2 o3 f3 d3 p3 b3 l3 o4 f4 d4 p4 b4 l4,
      own_mrun (own_F E0 E1 E2) L1 (own_fol0 ((own_F E0 E1 E2).length - 1)) 0 0 0 0 = some (o1, f1, d1, p1, b1, l1) ∧
      own_mrun (own_F E0 E1 E2) L2 f1 d1 p1 b1 l1 = some (o2, f2, d2, p2, b2, l2) ∧
      own_mrun (own_F E0 E1 E2) 12 f2 d2 p2 b2 l2 = some (o3, f3, d3, p3, b3, l3) ∧
      own_mrun (own_F E0 E1 E2) 1 f3 d3 p3 b3 l3 = some (o4, f4, d4, p4, b4, l4) ∧
      (b1 ≤ f1.length ∧ f1.length ≤ 3 ∧ b2 ≤ f2.length ∧ f2.length ≤ 3 ∧ b3 ≤ f3.length ∧ f3.length ≤ 3 ∧ o1.length = min L1 (E0 + E1 + E2) ∧ o2.length = min L2 (E0 + E1 + E2 - o1.length) ∧ o3.length = E0 + E1 + E2 - o1.length - o2.length ∧ o4.length = 0) ∧
      (∀ i, i < o1.length → o1.getD i 0 = own_eN (0 + i) E0 E1 E2) ∧ (∀ i, i < o2.length → o2.getD i 0 = own_eN (o1.length + i) E0 E1 E2) ∧ (∀ i, i < o3.length → o3.getD i 0 = own_eN (o1.length + o2.length + i) E0 E1 E2) := by
  obtain ⟨g1, g2, g3, g4, g5⟩ := hd
  have q := own_chk_all
  simp only [List.all_eq_true, List.mem_range, Bool.or_eq_true, decide_eq_true_eq] at q
  have q := q (E0 - 1) (by omega) E1 (by omega) E2 (by omega) L1 (by omega) L2 (by omega)
  rw [show E0 - 1 + 1 = E0 by omega] at q
  rcases q with q | q
  · exact absurd (g5 q.1) q.2
  · unfold own_chk at q
    split at q
    · rename_i o1 f1 d1 p1 b1 l1 e1
      split at q
      · rename_i o2 f2 d2 p2 b2 l2 e2
        split at q
        · rename_i o3 f3 d3 p3 b3 l3 e3
          split at q
          · rename_i o4 f4 d4 p4 b4 l4 e4
            simp only [own_same, Bool.and_eq_true, List.all_eq_true, List.mem_range, decide_eq_true_eq] at q
            obtain ⟨q1, ⟨q2, q3⟩, q4⟩ := q
            exact ⟨o1, f1, d1, p1, b1, l1, o2, f2, d2, p2, b2, l2, o3, f3, d3, p3, b3, l3, o4, f4, d4, p4, b4, l4, e1, e2, e3, e4, q1, q2, q3, q4⟩
          · cases q
        · cases q
      · cases q
    · cases q
theorem own_at_ok {o : List Nat} {len f E0 E1 E2 : Nat} (sv : Int32) (hd : own_dom E0 E1 E2) (hl : o.length ≤ len) (hl2 : len ≤ 12) (hf : f + o.length ≤ E0 + E1 + E2) (H : ∀ i, i < o.length → o.getD i 0 = own_eN (f + i) E0 E1 E2) (i : Nat) (hi : i < 12) :
    (Int32.ofNat o.length).toInt ≤ (Int32.ofNat i).toInt ∨ (0 ≤ (Int32.ofNat i).toInt ∧ (Int32.ofNat i).toInt < ((o.map (own_u sv) ++ List.replicate (len - o.length) (0 : Int32)).length : Int) ∧
      (o.map (own_u sv) ++ List.replicate (len - o.length) (0 : Int32)).getD (Int32.ofNat i).toNatClampNeg 0 = own_expd (Int32.ofNat f + Int32.ofNat i) sv (Int32.ofNat E0) (Int32.ofNat E1) (Int32.ofNat E2)) := by
  have q1 := own_n2 (n := o.length) (by omega)
  have q2 := own_n2 (n := i) (by omega)
  have q3 := own_n3 (n := i) (by omega)
  by_cases hlt : i < o.length
  · refine Or.inr ⟨by omega, by rw [q2, List.length_append, List.length_map, List.length_replicate]; omega, ?_⟩
    rw [q3, List.getD_eq_getElem?_getD, List.getElem?_append_left (by rw [List.length_map]; exact hlt), ← List.getD_eq_getElem?_getD, own_map_get _ _ _ hlt, H i hlt, own_shift, ← Int32.ofNat_add, own_e_ok hd (by omega)]
    rfl
  · exact Or.inl (by omega)
theorem own_min_nat {a b : Nat} (ha : a < 100) (hb : b < 100) : own_min (Int32.ofNat a) (Int32.ofNat b) = Int32.ofNat (min a b) := by
  have q1 := own_n2 (n := a) (by omega)
  have q2 := own_n2 (n := b) (by omega)
  unfold own_min
  simp only [(hh_gt).1, q1, q2]
  split
  · rw [Nat.min_eq_right (by omega)]
  · rw [Nat.min_eq_left (by omega)]
theorem own_min_le (a b : Int32) : (own_min a b).toInt ≤ b.toInt := by
  unfold own_min
  simp only [(hh_gt).1]
  split <;> omega
theorem own_subn {a b : Nat} (h : b ≤ a) : Int32.ofNat a - Int32.ofNat b = Int32.ofNat (a - b) := by
  have e : Int32.ofNat (a - b) + Int32.ofNat b = Int32.ofNat a := by rw [← Int32.ofNat_add, Nat.sub_add_cancel h]
  rw [← e, Int32.add_sub_cancel]
theorem own_e4 (x : Int32) : ∃ n : Nat, 1 ≤ n ∧ n ≤ 4 ∧ (x &&& (3 : Int32)) + (1 : Int32) = Int32.ofNat n := by
  have q := own_and_le x (3 : Int32) (by decide)
  rw [show (3 : Int32).toInt = 3 from rfl] at q
  rw [own_ofNat q.1, own_succ]
  exact ⟨_, by omega, by omega, rfl⟩
theorem own_m3 (x : Int32) : ∃ n : Nat, 1 ≤ n ∧ n ≤ 3 ∧ (XT.ushr x (6 : Int32) - XT.ushr x (6 : Int32) / (3 : Int32) * (3 : Int32)) + (1 : Int32) = Int32.ofNat n := by
  have u := own_ushr x (6 : Int32) 6 (by decide) (by decide) (by decide)
  have r := own_rem (y := (3 : Int32)) u.1 (by decide)
  rw [show (3 : Int32).toInt = 3 from rfl] at r
  rw [own_ofNat (x := (XT.ushr x (6 : Int32) - XT.ushr x (6 : Int32) / (3 : Int32) * (3 : Int32))) (by omega), own_succ]
  exact ⟨_, by omega, by omega, rfl⟩
theorem own_m5 (x : Int32) : ∃ n : Nat, n ≤ 4 ∧ ((x &&& (2147483647 : Int32)) - (x &&& (2147483647 : Int32)) / (5 : Int32) * (5 : Int32)) = Int32.ofNat n := by
  have q := own_and_le x (2147483647 : Int32) (by decide)
  have r := own_rem (y := (5 : Int32)) q.1 (by decide)
  rw [show (5 : Int32).toInt = 5 from rfl] at r
  exact ⟨_, by omega, own_ofNat (by omega)⟩
theorem ef_law (m : MethodId) (x0 : Int32) (x1 : Int32) (x2 : Int32) (x3 : Int32) : entryFrame m #[(.int x0), (.int x1), (.int x2), (.int x3)] maxLocals = mkF m 0 #[.val (.int x0), .val (.int x1), .val (.int x2), .val (.int x3), .unset, .unset, .unset, .unset, .unset, .unset, .unset, .unset, .unset, .unset, .unset, .unset, .unset, .unset, .unset, .unset, .unset, .unset, .unset, .unset, .unset, .unset, .unset, .unset, .unset] [] := by first | (simp [entryFrame, mkF, argsToLocals, Value.category, maxLocals]; done) | rfl
theorem pn_law : plainFor (⟨"com/example/holdfast/holdfast/fill/UnitOrderNextPinLaw", "law", "(IIII)Z"⟩ : MethodName) = true := by first | (exact plainFor_of_name (by first | (simp [plainName, overriddenIn]; done) | decide +kernel)) | decide +kernel
set_option maxRecDepth 65536 in
set_option maxHeartbeats 40000000 in
theorem rm_law (l : Launch) (Z : State) (a0 : Array Value) (hw : ∀ d ∈ tables_1, d.before a0 Z = true) (ws : List Jvm.Cond) (x0 : Int32) (x1 : Int32) (x2 : Int32) (x3 : Int32) (h : Heap) (n0 : Nat) (Z0 : n0 ≤ h.size) :
    Mt l Z x code maxLocals ret ws room_1 #[(.int x0), (.int x1), (.int x2), (.int x3)] h n0 (fun v _ => v = some (.int 1)) := by
  refine Mt.of (own := "com/example/holdfast/holdfast/fill/UnitOrderNextPinLaw") (nm := "law") pn_law Z0 (Ls := #[.val (.int x0), .val (.int x1), .val (.int x2), .val (.int x3), .unset, .unset, .unset, .unset, .unset, .unset, .unset, .unset, .unset, .unset, .unset, .unset, .unset, .unset, .unset, .unset, .unset, .unset, .unset, .unset, .unset, .unset, .unset, .unset, .unset]) (fun m => ef_law m x0 x1 x2 x3) rfl rfl (fun p e s m below meth c T C S => ?_)
  refine own_run S C [.iload_n 0] (pc' := 1) (Ls' := #[.val (.int x0), .val (.int x1), .val (.int x2), .val (.int x3), .unset, .unset, .unset, .unset, .unset, .unset, .unset, .unset, .unset, .unset, .unset, .unset, .unset, .unset, .unset, .unset, .unset, .unset, .unset, .unset, .unset, .unset, .unset, .unset, .unset]) (st' := [(.int x0)]) (by decide +kernel) rfl ?_
  refine own_ldc S C (hw _ (List.mem_of_getElem? (i := 0) rfl)) (by decide +kernel) ?_
  show Con p e below _ (mkF m 3 #[.val (.int x0), .val (.int x1), .val (.int x2), .val (.int x3), .unset, .unset, .unset, .unset, .unset, .unset, .unset, .unset, .unset, .unset, .unset, .unset, .unset, .unset, .unset, .unset, .unset, .unset, .unset, .unset, .unset, .unset, .unset, .unset, .unset] [(.int (2147483634 : Int32)), (.int x0)]) _
  refine own_callS S C (y := (⟨"java/lang/Math", "min", "(II)I"⟩ : MethodName)) (hw _ (List.mem_of_getElem? (i := 1) rfl)) (hw _ (List.mem_of_getElem? (i := 2) rfl)) (hw _ (List.mem_of_getElem? (i := 3) rfl)) (hw _ (List.mem_of_getElem? (i := 4) rfl)) (by decide) (rm_own_min l Z a0 hw [] x0 (2147483634 : Int32) h n0 Z0) 0 (by decide) (by decide) (ps := [.int, .int]) (r := (some .int)) (by decide +kernel) [(.int x0), (.int (2147483634 : Int32))] [] rfl rfl rfl (Nat.le_of_eq rfl) rfl (by decide +kernel) (by decide) (by decide) (fun v TM hM SM q => ?_)
  obtain ⟨rfl, hh⟩ := q
  rw [hh] at SM
  show Con p e below _ (mkF m 6 #[.val (.int x0), .val (.int x1), .val (.int x2), .val (.int x3), .unset, .unset, .unset, .unset, .unset, .unset, .unset, .unset, .unset, .unset, .unset, .unset, .unset, .unset, .unset, .unset, .unset, .unset, .unset, .unset, .unset, .unset, .unset, .unset, .unset] [(.int (own_min x0 (2147483634 : Int32)))]) _
  have hsv := own_min_le x0 (2147483634 : Int32)
  rw [show (2147483634 : Int32).toInt = 2147483634 from rfl] at hsv
  generalize own_min x0 (2147483634 : Int32) = sv at hsv ⊢
  refine own_run SM C [.istore 4, .iload_n 1, .iconst 3, .iand, .iconst 1, .iadd, .istore 5, .iload_n 1, .iconst 2, .iushr, .iconst 3, .iand, .iconst 1, .iadd] (pc' := 22) (Ls' := #[.val (.int x0), .val (.int x1), .val (.int x2), .val (.int x3), .val (.int sv), .val (.int ((x1 &&& (3 : Int32)) + (1 : Int32))), .unset, .unset, .unset, .unset, .unset, .unset, .unset, .unset, .unset, .unset, .unset, .unset, .unset, .unset, .unset, .unset, .unset, .unset, .unset, .unset, .unset, .unset, .unset]) (st' := [(.int (((XT.ushr x1 (2 : Int32)) &&& (3 : Int32)) + (1 : Int32)))]) (by decide +kernel) rfl ?_
  refine own_run SM C [.istore 6, .iload_n 1, .iconst 4, .iushr, .iconst 3, .iand, .iconst 1, .iadd, .istore 7, .iload_n 1, .bipush 6, .iushr, .iconst 3, .irem] (pc' := 39) (Ls' := #[.val (.int x0), .val (.int x1), .val (.int x2), .val (.int x3), .val (.int sv), .val (.int ((x1 &&& (3 : Int32)) + (1 : Int32))), .val (.int (((XT.ushr x1 (2 : Int32)) &&& (3 : Int32)) + (1 : Int32))), .val (.int (((XT.ushr x1 (4 : Int32)) &&& (3 : Int32)) + (1 : Int32))), .unset, .unset, .unset, .unset, .unset, .unset, .unset, .unset, .unset, .unset, .unset, .unset, .unset, .unset, .unset, .unset, .unset, .unset, .unset, .unset, .unset]) (st' := [(.int ((XT.ushr x1 (6 : Int32)) - (XT.ushr x1 (6 : Int32)) / (3 : Int32) * (3 : Int32)))]) (by decide +kernel) rfl ?_
  refine own_run SM C [.iconst 1, .iadd, .istore 8] (pc' := 43) (Ls' := #[.val (.int x0), .val (.int x1), .val (.int x2), .val (.int x3), .val (.int sv), .val (.int ((x1 &&& (3 : Int32)) + (1 : Int32))), .val (.int (((XT.ushr x1 (2 : Int32)) &&& (3 : Int32)) + (1 : Int32))), .val (.int (((XT.ushr x1 (4 : Int32)) &&& (3 : Int32)) + (1 : Int32))), .val (.int (((XT.ushr x1 (6 : Int32)) - (XT.ushr x1 (6 : Int32)) / (3 : Int32) * (3 : Int32)) + (1 : Int32))), .unset, .unset, .unset, .unset, .unset, .unset, .unset, .unset, .unset, .unset, .unset, .unset, .unset, .unset, .unset, .unset, .unset, .unset, .unset, .unset]) (st' := []) (by decide +kernel) rfl ?_
  obtain ⟨E0, a1, a2, hE0⟩ := own_e4 x1
  obtain ⟨N1, a3, a4, hN1⟩ := own_e4 (XT.ushr x1 (2 : Int32))
  obtain ⟨N2, a5, a6, hN2⟩ := own_e4 (XT.ushr x1 (4 : Int32))
  obtain ⟨nb, a7, a8, hnb⟩ := own_m3 x1
  rw [hE0, hN1, hN2, hnb]
  show Con p e below _ (mkF m 43 #[.val (.int x0), .val (.int x1), .val (.int x2), .val (.int x3), .val (.int sv), .val (.int (Int32.ofNat E0)), .val (.int (Int32.ofNat N1)), .val (.int (Int32.ofNat N2)), .val (.int (Int32.ofNat nb)), .unset, .unset, .unset, .unset, .unset, .unset, .unset, .unset, .unset, .unset, .unset, .unset, .unset, .unset, .unset, .unset, .unset, .unset, .unset, .unset] []) _
  have cont : ∀ (nv : Int32) (E1 E2 : Nat) (fa : Addr) (T' : State) (h' : Heap), own_dom E0 E1 E2 → St p l e room_1 s m #[(.int x0), (.int x1), (.int x2), (.int x3)] below meth c n0 T' h' 1 4 → n0 ≤ fa → Ai Z h' fa ((own_F E0 E1 E2).map (own_u sv)) → Con p e below T' (mkF m 179 #[.val (.int x0), .val (.int x1), .val (.int x2), .val (.int x3), .val (.int sv), .val (.int (Int32.ofNat E0)), .val (.int (Int32.ofNat N1)), .val (.int (Int32.ofNat N2)), .val (.int nv), .val (.int (Int32.ofNat E1)), .val (.int (Int32.ofNat E2)), .val (.ref fa), .unset, .unset, .unset, .unset, .unset, .unset, .unset, .unset, .unset, .unset, .unset, .unset, .unset, .unset, .unset, .unset, .unset] []) (Pq s room_1 n0 (fun v _ => v = some (.int 1))) := by
    intro nv E1 E2 fa T' h' hdom SS gfa AF
    have hdom' := hdom
    obtain ⟨b1, b2, b3, b4, b5⟩ := hdom'
    have lfa := AF.lt
    refine own_run SS C [.iload_n 2] (pc' := 180) (Ls' := #[.val (.int x0), .val (.int x1), .val (.int x2), .val (.int x3), .val (.int sv), .val (.int (Int32.ofNat E0)), .val (.int (Int32.ofNat N1)), .val (.int (Int32.ofNat N2)), .val (.int nv), .val (.int (Int32.ofNat E1)), .val (.int (Int32.ofNat E2)), .val (.ref fa), .unset, .unset, .unset, .unset, .unset, .unset, .unset, .unset, .unset, .unset, .unset, .unset, .unset, .unset, .unset, .unset, .unset]) (st' := [(.int x2)]) (by decide +kernel) rfl ?_
    refine own_ldc SS C (hw _ (List.mem_of_getElem? (i := 6) rfl)) (by decide +kernel) ?_
    show Con p e below _ (mkF m 182 #[.val (.int x0), .val (.int x1), .val (.int x2), .val (.int x3), .val (.int sv), .val (.int (Int32.ofNat E0)), .val (.int (Int32.ofNat N1)), .val (.int (Int32.ofNat N2)), .val (.int nv), .val (.int (Int32.ofNat E1)), .val (.int (Int32.ofNat E2)), .val (.ref fa), .unset, .unset, .unset, .unset, .unset, .unset, .unset, .unset, .unset, .unset, .unset, .unset, .unset, .unset, .unset, .unset, .unset] [(.int (2147483647 : Int32)), (.int x2)]) _
    refine own_run SS C [.iand, .iconst 5, .irem] (pc' := 185) (Ls' := #[.val (.int x0), .val (.int x1), .val (.int x2), .val (.int x3), .val (.int sv), .val (.int (Int32.ofNat E0)), .val (.int (Int32.ofNat N1)), .val (.int (Int32.ofNat N2)), .val (.int nv), .val (.int (Int32.ofNat E1)), .val (.int (Int32.ofNat E2)), .val (.ref fa), .unset, .unset, .unset, .unset, .unset, .unset, .unset, .unset, .unset, .unset, .unset, .unset, .unset, .unset, .unset, .unset, .unset]) (st' := [(.int ((x2 &&& (2147483647 : Int32)) - (x2 &&& (2147483647 : Int32)) / (5 : Int32) * (5 : Int32)))]) (by decide +kernel) rfl ?_
    obtain ⟨L1, hL1, eL1⟩ := own_m5 x2
    rw [eL1]
    refine own_run SS C [.istore 12, .iload_n 3] (pc' := 188) (Ls' := #[.val (.int x0), .val (.int x1), .val (.int x2), .val (.int x3), .val (.int sv), .val (.int (Int32.ofNat E0)), .val (.int (Int32.ofNat N1)), .val (.int (Int32.ofNat N2)), .val (.int nv), .val (.int (Int32.ofNat E1)), .val (.int (Int32.ofNat E2)), .val (.ref fa), .val (.int (Int32.ofNat L1)), .unset, .unset, .unset, .unset, .unset, .unset, .unset, .unset, .unset, .unset, .unset, .unset, .unset, .unset, .unset, .unset]) (st' := [(.int x3)]) (by decide +kernel) rfl ?_
    refine own_ldc SS C (hw _ (List.mem_of_getElem? (i := 6) rfl)) (by decide +kernel) ?_
    show Con p e below _ (mkF m 190 #[.val (.int x0), .val (.int x1), .val (.int x2), .val (.int x3), .val (.int sv), .val (.int (Int32.ofNat E0)), .val (.int (Int32.ofNat N1)), .val (.int (Int32.ofNat N2)), .val (.int nv), .val (.int (Int32.ofNat E1)), .val (.int (Int32.ofNat E2)), .val (.ref fa), .val (.int (Int32.ofNat L1)), .unset, .unset, .unset, .unset, .unset, .unset, .unset, .unset, .unset, .unset, .unset, .unset, .unset, .unset, .unset, .unset] [(.int (2147483647 : Int32)), (.int x3)]) _
    refine own_run SS C [.iand, .iconst 5, .irem] (pc' := 193) (Ls' := #[.val (.int x0), .val (.int x1), .val (.int x2), .val (.int x3), .val (.int sv), .val (.int (Int32.ofNat E0)), .val (.int (Int32.ofNat N1)), .val (.int (Int32.ofNat N2)), .val (.int nv), .val (.int (Int32.ofNat E1)), .val (.int (Int32.ofNat E2)), .val (.ref fa), .val (.int (Int32.ofNat L1)), .unset, .unset, .unset, .unset, .unset, .unset, .unset, .unset, .unset, .unset, .unset, .unset, .unset, .unset, .unset, .unset]) (st' := [(.int ((x3 &&& (2147483647 : Int32)) - (x3 &&& (2147483647 : Int32)) / (5 : Int32) * (5 : Int32)))]) (by decide +kernel) rfl ?_
    obtain ⟨L2, hL2, eL2⟩ := own_m5 x3
    rw [eL2]
    obtain ⟨o1, f1, d1, p1, bk1, l1, o2, f2, d2, p2, bk2, l2, o3, f3, d3, p3, bk3, l3, o4, f4, d4, p4, bk4, l4, R1, R2, R3, R4, ⟨y1, y2, y3, y4, y5, y6, y7, y8, y9, y10⟩, H1, H2, H3⟩ := own_plain hdom hL1 hL2
    have hnF : (own_F E0 E1 E2).length - 1 ≤ 3 ∧ (own_F E0 E1 E2).length = (own_F E0 E1 E2).length - 1 + 1 := by unfold own_F; split; exact ⟨by simp, by simp⟩; split; exact ⟨by simp, by simp⟩; exact ⟨by simp, by simp⟩
    refine own_run SS C [.istore 13, .iload 12] (pc' := 197) (Ls' := #[.val (.int x0), .val (.int x1), .val (.int x2), .val (.int x3), .val (.int sv), .val (.int (Int32.ofNat E0)), .val (.int (Int32.ofNat N1)), .val (.int (Int32.ofNat N2)), .val (.int nv), .val (.int (Int32.ofNat E1)), .val (.int (Int32.ofNat E2)), .val (.ref fa), .val (.int (Int32.ofNat L1)), .val (.int (Int32.ofNat L2)), .unset, .unset, .unset, .unset, .unset, .unset, .unset, .unset, .unset, .unset, .unset, .unset, .unset, .unset, .unset]) (st' := [(.int (Int32.ofNat L1))]) (by decide +kernel) rfl ?_
    refine own_callS SS C (y := (⟨"com/example/holdfast/holdfast/fill/UnitOrderNextPinLaw", "arr", "(I)[I"⟩ : MethodName)) (hw _ (List.mem_of_getElem? (i := 7) rfl)) (hw _ (List.mem_of_getElem? (i := 8) rfl)) (hw _ (List.mem_of_getElem? (i := 9) rfl)) (hw _ (List.mem_of_getElem? (i := 10) rfl)) (by decide) (rm_arr l Z a0 hw [] L1 hL1 h' n0 SS.size) 0 (by decide) (by decide) (ps := [.int]) (r := (some (.array .int))) (by decide +kernel) [(.int (Int32.ofNat L1))] [] rfl rfl rfl (Nat.le_of_eq rfl) rfl (by decide +kernel) (by decide) (by decide) (fun v Tra hra Sra q => ?_)
    obtain ⟨ra, rfl, era, Era, Ara⟩ := q
    have lra := own_nl AF.lt era
    have gra : n0 ≤ ra := by rw [era]; exact SS.size
    have A1 := AF.ext Era
    show Con p e below _ (mkF m 200 #[.val (.int x0), .val (.int x1), .val (.int x2), .val (.int x3), .val (.int sv), .val (.int (Int32.ofNat E0)), .val (.int (Int32.ofNat N1)), .val (.int (Int32.ofNat N2)), .val (.int nv), .val (.int (Int32.ofNat E1)), .val (.int (Int32.ofNat E2)), .val (.ref fa), .val (.int (Int32.ofNat L1)), .val (.int (Int32.ofNat L2)), .unset, .unset, .unset, .unset, .unset, .unset, .unset, .unset, .unset, .unset, .unset, .unset, .unset, .unset, .unset] [(.ref ra)]) _
    refine own_run Sra C [.astore 14, .iload 13] (pc' := 204) (Ls' := #[.val (.int x0), .val (.int x1), .val (.int x2), .val (.int x3), .val (.int sv), .val (.int (Int32.ofNat E0)), .val (.int (Int32.ofNat N1)), .val (.int (Int32.ofNat N2)), .val (.int nv), .val (.int (Int32.ofNat E1)), .val (.int (Int32.ofNat E2)), .val (.ref fa), .val (.int (Int32.ofNat L1)), .val (.int (Int32.ofNat L2)), .val (.ref ra), .unset, .unset, .unset, .unset, .unset, .unset, .unset, .unset, .unset, .unset, .unset, .unset, .unset, .unset]) (st' := [(.int (Int32.ofNat L2))]) (by decide +kernel) rfl ?_
    refine own_callS Sra C (y := (⟨"com/example/holdfast/holdfast/fill/UnitOrderNextPinLaw", "arr", "(I)[I"⟩ : MethodName)) (hw _ (List.mem_of_getElem? (i := 7) rfl)) (hw _ (List.mem_of_getElem? (i := 8) rfl)) (hw _ (List.mem_of_getElem? (i := 9) rfl)) (hw _ (List.mem_of_getElem? (i := 10) rfl)) (by decide) (rm_arr l Z a0 hw [] L2 hL2 hra n0 Sra.size) 0 (by decide) (by decide) (ps := [.int]) (r := (some (.array .int))) (by decide +kernel) [(.int (Int32.ofNat L2))] [] rfl rfl rfl (Nat.le_of_eq rfl) rfl (by decide +kernel) (by decide) (by decide) (fun v Trb hrb Srb q => ?_)
    obtain ⟨rb, rfl, erb, Erb, Arb⟩ := q
    have lrb := own_nl Ara.lt erb
    have grb : n0 ≤ rb := by rw [erb]; exact Sra.size
    have A2 := A1.ext Erb
    have A3 := Ara.ext Erb
    show Con p e below _ (mkF m 207 #[.val (.int x0), .val (.int x1), .val (.int x2), .val (.int x3), .val (.int sv), .val (.int (Int32.ofNat E0)), .val (.int (Int32.ofNat N1)), .val (.int (Int32.ofNat N2)), .val (.int nv), .val (.int (Int32.ofNat E1)), .val (.int (Int32.ofNat E2)), .val (.ref fa), .val (.int (Int32.ofNat L1)), .val (.int (Int32.ofNat L2)), .val (.ref ra), .unset, .unset, .unset, .unset, .unset, .unset, .unset, .unset, .unset, .unset, .unset, .unset, .unset, .unset] [(.ref rb)]) _
    refine own_run Srb C [.astore 15, .bipush 12] (pc' := 211) (Ls' := #[.val (.int x0), .val (.int x1), .val (.int x2), .val (.int x3), .val (.int sv), .val (.int (Int32.ofNat E0)), .val (.int (Int32.ofNat N1)), .val (.int (Int32.ofNat N2)), .val (.int nv), .val (.int (Int32.ofNat E1)), .val (.int (Int32.ofNat E2)), .val (.ref fa), .val (.int (Int32.ofNat L1)), .val (.int (Int32.ofNat L2)), .val (.ref ra), .val (.ref rb), .unset, .unset, .unset, .unset, .unset, .unset, .unset, .unset, .unset, .unset, .unset, .unset, .unset]) (st' := [(.int (12 : Int32))]) (by decide +kernel) rfl ?_
    refine own_newarray Srb C (hw _ (List.mem_of_getElem? (i := 5) rfl)) (by decide +kernel) (n := (12 : Int32)) (by decide) 12 (by decide) (by decide) (by decide) (by decide) (vs := List.replicate 12 (0 : Int32)) rfl (fun Trc hrc rc erc Src Erc grc Arc => ?_)
    have lrc := own_nl Arb.lt erc
    have A4 := A2.ext Erc
    have A5 := A3.ext Erc
    have A6 := Arb.ext Erc
    refine own_run Src C [.astore 16, .iconst 1] (pc' := 216) (Ls' := #[.val (.int x0), .val (.int x1), .val (.int x2), .val (.int x3), .val (.int sv), .val (.int (Int32.ofNat E0)), .val (.int (Int32.ofNat N1)), .val (.int (Int32.ofNat N2)), .val (.int nv), .val (.int (Int32.ofNat E1)), .val (.int (Int32.ofNat E2)), .val (.ref fa), .val (.int (Int32.ofNat L1)), .val (.int (Int32.ofNat L2)), .val (.ref ra), .val (.ref rb), .val (.ref rc), .unset, .unset, .unset, .unset, .unset, .unset, .unset, .unset, .unset, .unset, .unset, .unset]) (st' := [(.int (1 : Int32))]) (by decide +kernel) rfl ?_
    refine own_newarray Src C (hw _ (List.mem_of_getElem? (i := 5) rfl)) (by decide +kernel) (n := (1 : Int32)) (by decide) 1 (by decide) (by decide) (by decide) (by decide) (vs := List.replicate 1 (0 : Int32)) rfl (fun Trd hrd rd erd Srd Erd grd Ard => ?_)
    have lrd := own_nl Arc.lt erd
    have A7 := A4.ext Erd
    have A8 := A5.ext Erd
    have A9 := A6.ext Erd
    have A10 := Arc.ext Erd
    refine own_run Srd C [.astore 17, .iload 5, .iload 9, .iadd, .iload 10, .iadd] (pc' := 228) (Ls' := #[.val (.int x0), .val (.int x1), .val (.int x2), .val (.int x3), .val (.int sv), .val (.int (Int32.ofNat E0)), .val (.int (Int32.ofNat N1)), .val (.int (Int32.ofNat N2)), .val (.int nv), .val (.int (Int32.ofNat E1)), .val (.int (Int32.ofNat E2)), .val (.ref fa), .val (.int (Int32.ofNat L1)), .val (.int (Int32.ofNat L2)), .val (.ref ra), .val (.ref rb), .val (.ref rc), .val (.ref rd), .unset, .unset, .unset, .unset, .unset, .unset, .unset, .unset, .unset, .unset, .unset]) (st' := [(.int (((Int32.ofNat E0) + (Int32.ofNat E1)) + (Int32.ofNat E2)))]) (by decide +kernel) rfl ?_
    rw [show Int32.ofNat E0 + Int32.ofNat E1 + Int32.ofNat E2 = Int32.ofNat (E0 + E1 + E2) by rw [Int32.ofNat_add, Int32.ofNat_add]]
    refine own_run Srd C [.istore 18] (pc' := 230) (Ls' := #[.val (.int x0), .val (.int x1), .val (.int x2), .val (.int x3), .val (.int sv), .val (.int (Int32.ofNat E0)), .val (.int (Int32.ofNat N1)), .val (.int (Int32.ofNat N2)), .val (.int nv), .val (.int (Int32.ofNat E1)), .val (.int (Int32.ofNat E2)), .val (.ref fa), .val (.int (Int32.ofNat L1)), .val (.int (Int32.ofNat L2)), .val (.ref ra), .val (.ref rb), .val (.ref rc), .val (.ref rd), .val (.int (Int32.ofNat (E0 + E1 + E2))), .unset, .unset, .unset, .unset, .unset, .unset, .unset, .unset, .unset, .unset]) (st' := []) (by decide +kernel) rfl ?_
    refine own_new Srd C (D := "com/example/holdfast/holdfast/fill/UnitOrder") (n := 6) (hw _ (List.mem_of_getElem? (i := 11) rfl)) (hw _ (List.mem_of_getElem? (i := 12) rfl)) (hw _ (List.mem_of_getElem? (i := 13) rfl)) (by decide +kernel) (by decide) (by decide) (fun TN hN ob eN SN EN go XN DN => ?_)
    have lob := own_nl Ard.lt eN
    have A11 := A7.ext EN
    have A12 := A8.ext EN
    have A13 := A9.ext EN
    have A14 := A10.ext EN
    have A15 := Ard.ext EN
    show Con p e below _ (mkF m 233 #[.val (.int x0), .val (.int x1), .val (.int x2), .val (.int x3), .val (.int sv), .val (.int (Int32.ofNat E0)), .val (.int (Int32.ofNat N1)), .val (.int (Int32.ofNat N2)), .val (.int nv), .val (.int (Int32.ofNat E1)), .val (.int (Int32.ofNat E2)), .val (.ref fa), .val (.int (Int32.ofNat L1)), .val (.int (Int32.ofNat L2)), .val (.ref ra), .val (.ref rb), .val (.ref rc), .val (.ref rd), .val (.int (Int32.ofNat (E0 + E1 + E2))), .unset, .unset, .unset, .unset, .unset, .unset, .unset, .unset, .unset, .unset] [(.ref ob)]) _
    have F1 := DN (Or.inr (hw _ (List.mem_of_getElem? (i := 23) rfl))) (ty := (.array .int)) (by decide)
    have F2 := DN (Or.inr (hw _ (List.mem_of_getElem? (i := 25) rfl))) (ty := (.array .int)) (by decide)
    have F3 := DN (Or.inl (hw _ (List.mem_of_getElem? (i := 36) rfl))) (ty := .int) (by decide)
    have F4 := DN (Or.inl (hw _ (List.mem_of_getElem? (i := 21) rfl))) (ty := .int) (by decide)
    have F5 := DN (Or.inl (hw _ (List.mem_of_getElem? (i := 32) rfl))) (ty := .int) (by decide)
    have F6 := DN (Or.inl (hw _ (List.mem_of_getElem? (i := 34) rfl))) (ty := .int) (by decide)
    refine own_run SN C [.dup, .aload 11] (pc' := 236) (Ls' := #[.val (.int x0), .val (.int x1), .val (.int x2), .val (.int x3), .val (.int sv), .val (.int (Int32.ofNat E0)), .val (.int (Int32.ofNat N1)), .val (.int (Int32.ofNat N2)), .val (.int nv), .val (.int (Int32.ofNat E1)), .val (.int (Int32.ofNat E2)), .val (.ref fa), .val (.int (Int32.ofNat L1)), .val (.int (Int32.ofNat L2)), .val (.ref ra), .val (.ref rb), .val (.ref rc), .val (.ref rd), .val (.int (Int32.ofNat (E0 + E1 + E2))), .unset, .unset, .unset, .unset, .unset, .unset, .unset, .unset, .unset, .unset]) (st' := [(.ref fa), (.ref ob), (.ref ob)]) (by decide +kernel) rfl ?_
    have lfo : @LT.lt Nat _ ob hN.size := XN.lt
    refine own_callI SN C (y := (⟨"com/example/holdfast/holdfast/fill/UnitOrder", "<init>", "([I)V"⟩ : MethodName)) rfl (hw _ (List.mem_of_getElem? (i := 14) rfl)) (hw _ (List.mem_of_getElem? (i := 15) rfl)) (hw _ (List.mem_of_getElem? (i := 13) rfl)) (hw _ (List.mem_of_getElem? (i := 16) rfl)) (by decide) (rm_init l Z a0 hw [] ob fa hN n0 SN.size sv (own_F E0 E1 E2) ((own_F E0 E1 E2).length - 1) hnF.1 hnF.2 go (Nat.ne_of_lt (by omega)) XN F1 F2 F3 F4 F5 F6 A11) 1 (by decide) (by decide) (ps := [(.array .int)]) (r := none) (by decide +kernel) ob [(.ref fa)] [(.ref ob)] rfl rfl rfl (Nat.le_of_eq rfl) rfl (by decide +kernel) (by decide) (by decide) (fun v TC hC SC q => ?_)
    obtain ⟨rfl, KC, UC⟩ := q
    have gfo := SN.size
    generalize hN.size = fo at UC lfo gfo ⊢
    have A16 := A12.keep KC (ninS (Nat.ne_of_lt (by omega)) nin0)
    have A17 := A13.keep KC (ninS (Nat.ne_of_lt (by omega)) nin0)
    have A18 := A14.keep KC (ninS (Nat.ne_of_lt (by omega)) nin0)
    have A19 := A15.keep KC (ninS (Nat.ne_of_lt (by omega)) nin0)
    show Con p e below _ (mkF m 239 #[.val (.int x0), .val (.int x1), .val (.int x2), .val (.int x3), .val (.int sv), .val (.int (Int32.ofNat E0)), .val (.int (Int32.ofNat N1)), .val (.int (Int32.ofNat N2)), .val (.int nv), .val (.int (Int32.ofNat E1)), .val (.int (Int32.ofNat E2)), .val (.ref fa), .val (.int (Int32.ofNat L1)), .val (.int (Int32.ofNat L2)), .val (.ref ra), .val (.ref rb), .val (.ref rc), .val (.ref rd), .val (.int (Int32.ofNat (E0 + E1 + E2))), .unset, .unset, .unset, .unset, .unset, .unset, .unset, .unset, .unset, .unset] [(.ref ob)]) _
    refine own_run SC C [.astore 19, .aload 19, .aload 14] (pc' := 245) (Ls' := #[.val (.int x0), .val (.int x1), .val (.int x2), .val (.int x3), .val (.int sv), .val (.int (Int32.ofNat E0)), .val (.int (Int32.ofNat N1)), .val (.int (Int32.ofNat N2)), .val (.int nv), .val (.int (Int32.ofNat E1)), .val (.int (Int32.ofNat E2)), .val (.ref fa), .val (.int (Int32.ofNat L1)), .val (.int (Int32.ofNat L2)), .val (.ref ra), .val (.ref rb), .val (.ref rc), .val (.ref rd), .val (.int (Int32.ofNat (E0 + E1 + E2))), .val (.ref ob), .unset, .unset, .unset, .unset, .unset, .unset, .unset, .unset, .unset]) (st' := [(.ref ra), (.ref ob)]) (by decide +kernel) rfl ?_
    have X0 : Exa Z hC ob "com/example/holdfast/holdfast/fill/UnitOrder" := UC.1
    refine own_callV SC C (y := (⟨"com/example/holdfast/holdfast/fill/UnitOrder", "next", "([I)I"⟩ : MethodName)) (hw _ (List.mem_of_getElem? (i := 26) rfl)) (hw _ (List.mem_of_getElem? (i := 27) rfl)) (hw _ (List.mem_of_getElem? (i := 29) rfl)) (hw _ (List.mem_of_getElem? (i := 28) rfl)) (hw _ (List.mem_of_getElem? (i := 13) rfl)) (hw _ (List.mem_of_getElem? (i := 30) rfl)) (by decide) X0 (rm_next l Z a0 hw [] ob ra hC n0 SC.size fa fo sv hsv (own_F E0 E1 E2) L1 (by omega) go gfo gra (Nat.ne_of_lt (by omega)) (Nat.ne_of_gt (by omega)) (Nat.ne_of_lt (by omega)) (Nat.ne_of_lt (by omega)) (Nat.ne_of_lt (by omega)) (Nat.ne_of_lt (by omega)) (own_fol0 ((own_F E0 E1 E2).length - 1)) 0 0 0 0 o1 f1 d1 p1 bk1 l1 R1 (Nat.zero_le _) (by rw [own_fol0_len]; exact hnF.1) UC A16) 0 (by decide) (by decide) (ps := [(.array .int)]) (r := (some .int)) (by decide +kernel) [(.ref ra)] [] rfl rfl rfl (Nat.le_of_eq rfl) rfl (by decide +kernel) (by decide) (by decide) (fun v TV0 hV0 SV0 q => ?_)
    obtain ⟨rfl, KV0, UV0, AV0⟩ := q
    have A20 := A17.keep KV0 (ninS (Nat.ne_of_lt (by omega)) (ninS (Nat.ne_of_lt (by omega)) (ninS (Nat.ne_of_gt (by omega)) nin0)))
    have A21 := A18.keep KV0 (ninS (Nat.ne_of_lt (by omega)) (ninS (Nat.ne_of_lt (by omega)) (ninS (Nat.ne_of_gt (by omega)) nin0)))
    have A22 := A19.keep KV0 (ninS (Nat.ne_of_lt (by omega)) (ninS (Nat.ne_of_lt (by omega)) (ninS (Nat.ne_of_gt (by omega)) nin0)))
    show Con p e below _ (mkF m 248 #[.val (.int x0), .val (.int x1), .val (.int x2), .val (.int x3), .val (.int sv), .val (.int (Int32.ofNat E0)), .val (.int (Int32.ofNat N1)), .val (.int (Int32.ofNat N2)), .val (.int nv), .val (.int (Int32.ofNat E1)), .val (.int (Int32.ofNat E2)), .val (.ref fa), .val (.int (Int32.ofNat L1)), .val (.int (Int32.ofNat L2)), .val (.ref ra), .val (.ref rb), .val (.ref rc), .val (.ref rd), .val (.int (Int32.ofNat (E0 + E1 + E2))), .val (.ref ob), .unset, .unset, .unset, .unset, .unset, .unset, .unset, .unset, .unset] [(.int (Int32.ofNat o1.length))]) _
    refine own_run SV0 C [.istore 20, .aload 19, .aload 15] (pc' := 254) (Ls' := #[.val (.int x0), .val (.int x1), .val (.int x2), .val (.int x3), .val (.int sv), .val (.int (Int32.ofNat E0)), .val (.int (Int32.ofNat N1)), .val (.int (Int32.ofNat N2)), .val (.int nv), .val (.int (Int32.ofNat E1)), .val (.int (Int32.ofNat E2)), .val (.ref fa), .val (.int (Int32.ofNat L1)), .val (.int (Int32.ofNat L2)), .val (.ref ra), .val (.ref rb), .val (.ref rc), .val (.ref rd), .val (.int (Int32.ofNat (E0 + E1 + E2))), .val (.ref ob), .val (.int (Int32.ofNat o1.length)), .unset, .unset, .unset, .unset, .unset, .unset, .unset, .unset]) (st' := [(.ref rb), (.ref ob)]) (by decide +kernel) rfl ?_
    have X1 : Exa Z hV0 ob "com/example/holdfast/holdfast/fill/UnitOrder" := UV0.1
    refine own_callV SV0 C (y := (⟨"com/example/holdfast/holdfast/fill/UnitOrder", "next", "([I)I"⟩ : MethodName)) (hw _ (List.mem_of_getElem? (i := 26) rfl)) (hw _ (List.mem_of_getElem? (i := 27) rfl)) (hw _ (List.mem_of_getElem? (i := 29) rfl)) (hw _ (List.mem_of_getElem? (i := 28) rfl)) (hw _ (List.mem_of_getElem? (i := 13) rfl)) (hw _ (List.mem_of_getElem? (i := 30) rfl)) (by decide) X1 (rm_next l Z a0 hw [] ob rb hV0 n0 SV0.size fa fo sv hsv (own_F E0 E1 E2) L2 (by omega) go gfo grb (Nat.ne_of_lt (by omega)) (Nat.ne_of_gt (by omega)) (Nat.ne_of_lt (by omega)) (Nat.ne_of_lt (by omega)) (Nat.ne_of_lt (by omega)) (Nat.ne_of_lt (by omega)) f1 d1 p1 bk1 l1 o2 f2 d2 p2 bk2 l2 R2 y1 y2 UV0 A20) 0 (by decide) (by decide) (ps := [(.array .int)]) (r := (some .int)) (by decide +kernel) [(.ref rb)] [] rfl rfl rfl (Nat.le_of_eq rfl) rfl (by decide +kernel) (by decide) (by decide) (fun v TV1 hV1 SV1 q => ?_)
    obtain ⟨rfl, KV1, UV1, AV1⟩ := q
    have A23 := AV0.keep KV1 (ninS (Nat.ne_of_lt (by omega)) (ninS (Nat.ne_of_lt (by omega)) (ninS (Nat.ne_of_lt (by omega)) nin0)))
    have A24 := A21.keep KV1 (ninS (Nat.ne_of_lt (by omega)) (ninS (Nat.ne_of_lt (by omega)) (ninS (Nat.ne_of_gt (by omega)) nin0)))
    have A25 := A22.keep KV1 (ninS (Nat.ne_of_lt (by omega)) (ninS (Nat.ne_of_lt (by omega)) (ninS (Nat.ne_of_gt (by omega)) nin0)))
    show Con p e below _ (mkF m 257 #[.val (.int x0), .val (.int x1), .val (.int x2), .val (.int x3), .val (.int sv), .val (.int (Int32.ofNat E0)), .val (.int (Int32.ofNat N1)), .val (.int (Int32.ofNat N2)), .val (.int nv), .val (.int (Int32.ofNat E1)), .val (.int (Int32.ofNat E2)), .val (.ref fa), .val (.int (Int32.ofNat L1)), .val (.int (Int32.ofNat L2)), .val (.ref ra), .val (.ref rb), .val (.ref rc), .val (.ref rd), .val (.int (Int32.ofNat (E0 + E1 + E2))), .val (.ref ob), .val (.int (Int32.ofNat o1.length)), .unset, .unset, .unset, .unset, .unset, .unset, .unset, .unset] [(.int (Int32.ofNat o2.length))]) _
    refine own_run SV1 C [.istore 21, .aload 19, .aload 16] (pc' := 263) (Ls' := #[.val (.int x0), .val (.int x1), .val (.int x2), .val (.int x3), .val (.int sv), .val (.int (Int32.ofNat E0)), .val (.int (Int32.ofNat N1)), .val (.int (Int32.ofNat N2)), .val (.int nv), .val (.int (Int32.ofNat E1)), .val (.int (Int32.ofNat E2)), .val (.ref fa), .val (.int (Int32.ofNat L1)), .val (.int (Int32.ofNat L2)), .val (.ref ra), .val (.ref rb), .val (.ref rc), .val (.ref rd), .val (.int (Int32.ofNat (E0 + E1 + E2))), .val (.ref ob), .val (.int (Int32.ofNat o1.length)), .val (.int (Int32.ofNat o2.length)), .unset, .unset, .unset, .unset, .unset, .unset, .unset]) (st' := [(.ref rc), (.ref ob)]) (by decide +kernel) rfl ?_
    have X2 : Exa Z hV1 ob "com/example/holdfast/holdfast/fill/UnitOrder" := UV1.1
    refine own_callV SV1 C (y := (⟨"com/example/holdfast/holdfast/fill/UnitOrder", "next", "([I)I"⟩ : MethodName)) (hw _ (List.mem_of_getElem? (i := 26) rfl)) (hw _ (List.mem_of_getElem? (i := 27) rfl)) (hw _ (List.mem_of_getElem? (i := 29) rfl)) (hw _ (List.mem_of_getElem? (i := 28) rfl)) (hw _ (List.mem_of_getElem? (i := 13) rfl)) (hw _ (List.mem_of_getElem? (i := 30) rfl)) (by decide) X2 (rm_next l Z a0 hw [] ob rc hV1 n0 SV1.size fa fo sv hsv (own_F E0 E1 E2) 12 (by omega) go gfo grc (Nat.ne_of_lt (by omega)) (Nat.ne_of_gt (by omega)) (Nat.ne_of_lt (by omega)) (Nat.ne_of_lt (by omega)) (Nat.ne_of_lt (by omega)) (Nat.ne_of_lt (by omega)) f2 d2 p2 bk2 l2 o3 f3 d3 p3 bk3 l3 R3 y3 y4 UV1 A24) 0 (by decide) (by decide) (ps := [(.array .int)]) (r := (some .int)) (by decide +kernel) [(.ref rc)] [] rfl rfl rfl (Nat.le_of_eq rfl) rfl (by decide +kernel) (by decide) (by decide) (fun v TV2 hV2 SV2 q => ?_)
    obtain ⟨rfl, KV2, UV2, AV2⟩ := q
    have A26 := A23.keep KV2 (ninS (Nat.ne_of_lt (by omega)) (ninS (Nat.ne_of_lt (by omega)) (ninS (Nat.ne_of_lt (by omega)) nin0)))
    have A27 := AV1.keep KV2 (ninS (Nat.ne_of_lt (by omega)) (ninS (Nat.ne_of_lt (by omega)) (ninS (Nat.ne_of_lt (by omega)) nin0)))
    have A28 := A25.keep KV2 (ninS (Nat.ne_of_lt (by omega)) (ninS (Nat.ne_of_lt (by omega)) (ninS (Nat.ne_of_gt (by omega)) nin0)))
    show Con p e below _ (mkF m 266 #[.val (.int x0), .val (.int x1), .val (.int x2), .val (.int x3), .val (.int sv), .val (.int (Int32.ofNat E0)), .val (.int (Int32.ofNat N1)), .val (.int (Int32.ofNat N2)), .val (.int nv), .val (.int (Int32.ofNat E1)), .val (.int (Int32.ofNat E2)), .val (.ref fa), .val (.int (Int32.ofNat L1)), .val (.int (Int32.ofNat L2)), .val (.ref ra), .val (.ref rb), .val (.ref rc), .val (.ref rd), .val (.int (Int32.ofNat (E0 + E1 + E2))), .val (.ref ob), .val (.int (Int32.ofNat o1.length)), .val (.int (Int32.ofNat o2.length)), .unset, .unset, .unset, .unset, .unset, .unset, .unset] [(.int (Int32.ofNat o3.length))]) _
    refine own_run SV2 C [.istore 22, .aload 19, .aload 17] (pc' := 272) (Ls' := #[.val (.int x0), .val (.int x1), .val (.int x2), .val (.int x3), .val (.int sv), .val (.int (Int32.ofNat E0)), .val (.int (Int32.ofNat N1)), .val (.int (Int32.ofNat N2)), .val (.int nv), .val (.int (Int32.ofNat E1)), .val (.int (Int32.ofNat E2)), .val (.ref fa), .val (.int (Int32.ofNat L1)), .val (.int (Int32.ofNat L2)), .val (.ref ra), .val (.ref rb), .val (.ref rc), .val (.ref rd), .val (.int (Int32.ofNat (E0 + E1 + E2))), .val (.ref ob), .val (.int (Int32.ofNat o1.length)), .val (.int (Int32.ofNat o2.length)), .val (.int (Int32.ofNat o3.length)), .unset, .unset, .unset, .unset, .unset, .unset]) (st' := [(.ref rd), (.ref ob)]) (by decide +kernel) rfl ?_
    have X3 : Exa Z hV2 ob "com/example/holdfast/holdfast/fill/UnitOrder" := UV2.1
    refine own_callV SV2 C (y := (⟨"com/example/holdfast/holdfast/fill/UnitOrder", "next", "([I)I"⟩ : MethodName)) (hw _ (List.mem_of_getElem? (i := 26) rfl)) (hw _ (List.mem_of_getElem? (i := 27) rfl)) (hw _ (List.mem_of_getElem? (i := 29) rfl)) (hw _ (List.mem_of_getElem? (i := 28) rfl)) (hw _ (List.mem_of_getElem? (i := 13) rfl)) (hw _ (List.mem_of_getElem? (i := 30) rfl)) (by decide) X3 (rm_next l Z a0 hw [] ob rd hV2 n0 SV2.size fa fo sv hsv (own_F E0 E1 E2) 1 (by omega) go gfo grd (Nat.ne_of_lt (by omega)) (Nat.ne_of_gt (by omega)) (Nat.ne_of_lt (by omega)) (Nat.ne_of_lt (by omega)) (Nat.ne_of_lt (by omega)) (Nat.ne_of_lt (by omega)) f3 d3 p3 bk3 l3 o4 f4 d4 p4 bk4 l4 R4 y5 y6 UV2 A28) 0 (by decide) (by decide) (ps := [(.array .int)]) (r := (some .int)) (by decide +kernel) [(.ref rd)] [] rfl rfl rfl (Nat.le_of_eq rfl) rfl (by decide +kernel) (by decide) (by decide) (fun v TV3 hV3 SV3 q => ?_)
    obtain ⟨rfl, KV3, UV3, AV3⟩ := q
    have A29 := A26.keep KV3 (ninS (Nat.ne_of_lt (by omega)) (ninS (Nat.ne_of_lt (by omega)) (ninS (Nat.ne_of_lt (by omega)) nin0)))
    have A30 := A27.keep KV3 (ninS (Nat.ne_of_lt (by omega)) (ninS (Nat.ne_of_lt (by omega)) (ninS (Nat.ne_of_lt (by omega)) nin0)))
    have A31 := AV2.keep KV3 (ninS (Nat.ne_of_lt (by omega)) (ninS (Nat.ne_of_lt (by omega)) (ninS (Nat.ne_of_lt (by omega)) nin0)))
    show Con p e below _ (mkF m 275 #[.val (.int x0), .val (.int x1), .val (.int x2), .val (.int x3), .val (.int sv), .val (.int (Int32.ofNat E0)), .val (.int (Int32.ofNat N1)), .val (.int (Int32.ofNat N2)), .val (.int nv), .val (.int (Int32.ofNat E1)), .val (.int (Int32.ofNat E2)), .val (.ref fa), .val (.int (Int32.ofNat L1)), .val (.int (Int32.ofNat L2)), .val (.ref ra), .val (.ref rb), .val (.ref rc), .val (.ref rd), .val (.int (Int32.ofNat (E0 + E1 + E2))), .val (.ref ob), .val (.int (Int32.ofNat o1.length)), .val (.int (Int32.ofNat o2.length)), .val (.int (Int32.ofNat o3.length)), .unset, .unset, .unset, .unset, .unset, .unset] [(.int (Int32.ofNat o4.length))]) _
    refine own_run SV3 C [.istore 23, .iload 12, .iload 18] (pc' := 281) (Ls' := #[.val (.int x0), .val (.int x1), .val (.int x2), .val (.int x3), .val (.int sv), .val (.int (Int32.ofNat E0)), .val (.int (Int32.ofNat N1)), .val (.int (Int32.ofNat N2)), .val (.int nv), .val (.int (Int32.ofNat E1)), .val (.int (Int32.ofNat E2)), .val (.ref fa), .val (.int (Int32.ofNat L1)), .val (.int (Int32.ofNat L2)), .val (.ref ra), .val (.ref rb), .val (.ref rc), .val (.ref rd), .val (.int (Int32.ofNat (E0 + E1 + E2))), .val (.ref ob), .val (.int (Int32.ofNat o1.length)), .val (.int (Int32.ofNat o2.length)), .val (.int (Int32.ofNat o3.length)), .val (.int (Int32.ofNat o4.length)), .unset, .unset, .unset, .unset, .unset]) (st' := [(.int (Int32.ofNat (E0 + E1 + E2))), (.int (Int32.ofNat L1))]) (by decide +kernel) rfl ?_
    refine own_callS SV3 C (y := (⟨"java/lang/Math", "min", "(II)I"⟩ : MethodName)) (hw _ (List.mem_of_getElem? (i := 1) rfl)) (hw _ (List.mem_of_getElem? (i := 2) rfl)) (hw _ (List.mem_of_getElem? (i := 3) rfl)) (hw _ (List.mem_of_getElem? (i := 4) rfl)) (by decide) (rm_own_min l Z a0 hw [] (Int32.ofNat L1) (Int32.ofNat (E0 + E1 + E2)) hV3 n0 SV3.size) 0 (by decide) (by decide) (ps := [.int, .int]) (r := (some .int)) (by decide +kernel) [(.int (Int32.ofNat L1)), (.int (Int32.ofNat (E0 + E1 + E2)))] [] rfl rfl rfl (Nat.le_of_eq rfl) rfl (by decide +kernel) (by decide) (by decide) (fun v TM1 hM1 SM1 q => ?_)
    obtain ⟨rfl, hh1⟩ := q
    rw [hh1] at SM1
    show Con p e below _ (mkF m 284 #[.val (.int x0), .val (.int x1), .val (.int x2), .val (.int x3), .val (.int sv), .val (.int (Int32.ofNat E0)), .val (.int (Int32.ofNat N1)), .val (.int (Int32.ofNat N2)), .val (.int nv), .val (.int (Int32.ofNat E1)), .val (.int (Int32.ofNat E2)), .val (.ref fa), .val (.int (Int32.ofNat L1)), .val (.int (Int32.ofNat L2)), .val (.ref ra), .val (.ref rb), .val (.ref rc), .val (.ref rd), .val (.int (Int32.ofNat (E0 + E1 + E2))), .val (.ref ob), .val (.int (Int32.ofNat o1.length)), .val (.int (Int32.ofNat o2.length)), .val (.int (Int32.ofNat o3.length)), .val (.int (Int32.ofNat o4.length)), .unset, .unset, .unset, .unset, .unset] [(.int (own_min (Int32.ofNat L1) (Int32.ofNat (E0 + E1 + E2))))]) _
    rw [own_min_nat (by omega) (by omega), ← y7]
    refine own_run SM1 C [.istore 24, .iload 13, .iload 18, .iload 24, .isub] (pc' := 293) (Ls' := #[.val (.int x0), .val (.int x1), .val (.int x2), .val (.int x3), .val (.int sv), .val (.int (Int32.ofNat E0)), .val (.int (Int32.ofNat N1)), .val (.int (Int32.ofNat N2)), .val (.int nv), .val (.int (Int32.ofNat E1)), .val (.int (Int32.ofNat E2)), .val (.ref fa), .val (.int (Int32.ofNat L1)), .val (.int (Int32.ofNat L2)), .val (.ref ra), .val (.ref rb), .val (.ref rc), .val (.ref rd), .val (.int (Int32.ofNat (E0 + E1 + E2))), .val (.ref ob), .val (.int (Int32.ofNat o1.length)), .val (.int (Int32.ofNat o2.length)), .val (.int (Int32.ofNat o3.length)), .val (.int (Int32.ofNat o4.length)), .val (.int (Int32.ofNat o1.length)), .unset, .unset, .unset, .unset]) (st' := [(.int ((Int32.ofNat (E0 + E1 + E2)) - (Int32.ofNat o1.length))), (.int (Int32.ofNat L2))]) (by decide +kernel) rfl ?_
    rw [own_subn (a := E0 + E1 + E2) (b := o1.length) (by omega)]
    refine own_callS SM1 C (y := (⟨"java/lang/Math", "min", "(II)I"⟩ : MethodName)) (hw _ (List.mem_of_getElem? (i := 1) rfl)) (hw _ (List.mem_of_getElem? (i := 2) rfl)) (hw _ (List.mem_of_getElem? (i := 3) rfl)) (hw _ (List.mem_of_getElem? (i := 4) rfl)) (by decide) (rm_own_min l Z a0 hw [] (Int32.ofNat L2) (Int32.ofNat (E0 + E1 + E2 - o1.length)) hV3 n0 SM1.size) 0 (by decide) (by decide) (ps := [.int, .int]) (r := (some .int)) (by decide +kernel) [(.int (Int32.ofNat L2)), (.int (Int32.ofNat (E0 + E1 + E2 - o1.length)))] [] rfl rfl rfl (Nat.le_of_eq rfl) rfl (by decide +kernel) (by decide) (by decide) (fun v TM2 hM2 SM2 q => ?_)
    obtain ⟨rfl, hh2⟩ := q
    rw [hh2] at SM2
    show Con p e below _ (mkF m 296 #[.val (.int x0), .val (.int x1), .val (.int x2), .val (.int x3), .val (.int sv), .val (.int (Int32.ofNat E0)), .val (.int (Int32.ofNat N1)), .val (.int (Int32.ofNat N2)), .val (.int nv), .val (.int (Int32.ofNat E1)), .val (.int (Int32.ofNat E2)), .val (.ref fa), .val (.int (Int32.ofNat L1)), .val (.int (Int32.ofNat L2)), .val (.ref ra), .val (.ref rb), .val (.ref rc), .val (.ref rd), .val (.int (Int32.ofNat (E0 + E1 + E2))), .val (.ref ob), .val (.int (Int32.ofNat o1.length)), .val (.int (Int32.ofNat o2.length)), .val (.int (Int32.ofNat o3.length)), .val (.int (Int32.ofNat o4.length)), .val (.int (Int32.ofNat o1.length)), .unset, .unset, .unset, .unset] [(.int (own_min (Int32.ofNat L2) (Int32.ofNat (E0 + E1 + E2 - o1.length))))]) _
    rw [own_min_nat (by omega) (by omega), ← y8]
    refine own_run SM2 C [.istore 25, .iload 18, .iload 24, .isub, .iload 25, .isub] (pc' := 306) (Ls' := #[.val (.int x0), .val (.int x1), .val (.int x2), .val (.int x3), .val (.int sv), .val (.int (Int32.ofNat E0)), .val (.int (Int32.ofNat N1)), .val (.int (Int32.ofNat N2)), .val (.int nv), .val (.int (Int32.ofNat E1)), .val (.int (Int32.ofNat E2)), .val (.ref fa), .val (.int (Int32.ofNat L1)), .val (.int (Int32.ofNat L2)), .val (.ref ra), .val (.ref rb), .val (.ref rc), .val (.ref rd), .val (.int (Int32.ofNat (E0 + E1 + E2))), .val (.ref ob), .val (.int (Int32.ofNat o1.length)), .val (.int (Int32.ofNat o2.length)), .val (.int (Int32.ofNat o3.length)), .val (.int (Int32.ofNat o4.length)), .val (.int (Int32.ofNat o1.length)), .val (.int (Int32.ofNat o2.length)), .unset, .unset, .unset]) (st' := [(.int (((Int32.ofNat (E0 + E1 + E2)) - (Int32.ofNat o1.length)) - (Int32.ofNat o2.length)))]) (by decide +kernel) rfl ?_
    rw [own_subn (a := E0 + E1 + E2) (b := o1.length) (by omega), own_subn (a := E0 + E1 + E2 - o1.length) (b := o2.length) (by omega), ← y9]
    rw [y10]
    refine own_run SM2 C [.istore 26, .iload 20, .iload 24] (pc' := 312) (Ls' := #[.val (.int x0), .val (.int x1), .val (.int x2), .val (.int x3), .val (.int sv), .val (.int (Int32.ofNat E0)), .val (.int (Int32.ofNat N1)), .val (.int (Int32.ofNat N2)), .val (.int nv), .val (.int (Int32.ofNat E1)), .val (.int (Int32.ofNat E2)), .val (.ref fa), .val (.int (Int32.ofNat L1)), .val (.int (Int32.ofNat L2)), .val (.ref ra), .val (.ref rb), .val (.ref rc), .val (.ref rd), .val (.int (Int32.ofNat (E0 + E1 + E2))), .val (.ref ob), .val (.int (Int32.ofNat o1.length)), .val (.int (Int32.ofNat o2.length)), .val (.int (Int32.ofNat o3.length)), .val (.int (Int32.ofNat 0)), .val (.int (Int32.ofNat o1.length)), .val (.int (Int32.ofNat o2.length)), .val (.int (Int32.ofNat o3.length)), .unset, .unset]) (st' := [(.int (Int32.ofNat o1.length)), (.int (Int32.ofNat o1.length))]) (by decide +kernel) rfl ?_
    refine own_icmp SM2 C (cd := .ne) (o := 22) (by decide +kernel) (pc' := 334) ⟨by decide, by decide⟩ (fun hc312 => absurd ((hh_ne).1.mp hc312) (show ¬ ((Int32.ofNat o1.length).toInt ≠ (Int32.ofNat o1.length).toInt) by omega)) (fun _ => ?_)
    refine own_run SM2 C [.iload 21, .iload 25] (pc' := 319) (Ls' := #[.val (.int x0), .val (.int x1), .val (.int x2), .val (.int x3), .val (.int sv), .val (.int (Int32.ofNat E0)), .val (.int (Int32.ofNat N1)), .val (.int (Int32.ofNat N2)), .val (.int nv), .val (.int (Int32.ofNat E1)), .val (.int (Int32.ofNat E2)), .val (.ref fa), .val (.int (Int32.ofNat L1)), .val (.int (Int32.ofNat L2)), .val (.ref ra), .val (.ref rb), .val (.ref rc), .val (.ref rd), .val (.int (Int32.ofNat (E0 + E1 + E2))), .val (.ref ob), .val (.int (Int32.ofNat o1.length)), .val (.int (Int32.ofNat o2.length)), .val (.int (Int32.ofNat o3.length)), .val (.int (Int32.ofNat 0)), .val (.int (Int32.ofNat o1.length)), .val (.int (Int32.ofNat o2.length)), .val (.int (Int32.ofNat o3.length)), .unset, .unset]) (st' := [(.int (Int32.ofNat o2.length)), (.int (Int32.ofNat o2.length))]) (by decide +kernel) rfl ?_
    refine own_icmp SM2 C (cd := .ne) (o := 15) (by decide +kernel) (pc' := 334) ⟨by decide, by decide⟩ (fun hc319 => absurd ((hh_ne).1.mp hc319) (show ¬ ((Int32.ofNat o2.length).toInt ≠ (Int32.ofNat o2.length).toInt) by omega)) (fun _ => ?_)
    refine own_run SM2 C [.iload 22, .iload 26] (pc' := 326) (Ls' := #[.val (.int x0), .val (.int x1), .val (.int x2), .val (.int x3), .val (.int sv), .val (.int (Int32.ofNat E0)), .val (.int (Int32.ofNat N1)), .val (.int (Int32.ofNat N2)), .val (.int nv), .val (.int (Int32.ofNat E1)), .val (.int (Int32.ofNat E2)), .val (.ref fa), .val (.int (Int32.ofNat L1)), .val (.int (Int32.ofNat L2)), .val (.ref ra), .val (.ref rb), .val (.ref rc), .val (.ref rd), .val (.int (Int32.ofNat (E0 + E1 + E2))), .val (.ref ob), .val (.int (Int32.ofNat o1.length)), .val (.int (Int32.ofNat o2.length)), .val (.int (Int32.ofNat o3.length)), .val (.int (Int32.ofNat 0)), .val (.int (Int32.ofNat o1.length)), .val (.int (Int32.ofNat o2.length)), .val (.int (Int32.ofNat o3.length)), .unset, .unset]) (st' := [(.int (Int32.ofNat o3.length)), (.int (Int32.ofNat o3.length))]) (by decide +kernel) rfl ?_
    refine own_icmp SM2 C (cd := .ne) (o := 8) (by decide +kernel) (pc' := 334) ⟨by decide, by decide⟩ (fun hc326 => absurd ((hh_ne).1.mp hc326) (show ¬ ((Int32.ofNat o3.length).toInt ≠ (Int32.ofNat o3.length).toInt) by omega)) (fun _ => ?_)
    refine own_run SM2 C [.iload 23] (pc' := 331) (Ls' := #[.val (.int x0), .val (.int x1), .val (.int x2), .val (.int x3), .val (.int sv), .val (.int (Int32.ofNat E0)), .val (.int (Int32.ofNat N1)), .val (.int (Int32.ofNat N2)), .val (.int nv), .val (.int (Int32.ofNat E1)), .val (.int (Int32.ofNat E2)), .val (.ref fa), .val (.int (Int32.ofNat L1)), .val (.int (Int32.ofNat L2)), .val (.ref ra), .val (.ref rb), .val (.ref rc), .val (.ref rd), .val (.int (Int32.ofNat (E0 + E1 + E2))), .val (.ref ob), .val (.int (Int32.ofNat o1.length)), .val (.int (Int32.ofNat o2.length)), .val (.int (Int32.ofNat o3.length)), .val (.int (Int32.ofNat 0)), .val (.int (Int32.ofNat o1.length)), .val (.int (Int32.ofNat o2.length)), .val (.int (Int32.ofNat o3.length)), .unset, .unset]) (st' := [(.int (Int32.ofNat 0))]) (by decide +kernel) rfl ?_
    refine own_if SM2 C (cd := .eq) (o := 5) (by decide +kernel) (pc' := 336) ⟨by decide, by decide⟩ (fun _ => ?_) (fun hc331 => absurd ((hh_eq).2.mp hc331) (show ¬ ((Int32.ofNat 0).toInt ≠ (0 : Int)) by decide))
    have hm1 := Nat.min_le_left L1 (E0 + E1 + E2)
    have hm2 := Nat.min_le_right L1 (E0 + E1 + E2)
    have hm3 := Nat.min_le_left L2 (E0 + E1 + E2 - o1.length)
    have hm4 := Nat.min_le_right L2 (E0 + E1 + E2 - o1.length)
    have B1 := own_at_ok (len := L1) sv hdom (by omega) (by omega) (by omega) H1
    have B2 := own_at_ok (len := L2) sv hdom (by omega) (by omega) (by omega) H2
    have B3 := own_at_ok (len := 12) sv hdom (by omega) (by omega) (by omega) H3
    refine own_run SM2 C [.aload 14, .iconst 0, .iload 20, .iconst 0, .iload 4, .iload 5, .iload 9, .iload 10] (pc' := 350) (Ls' := #[.val (.int x0), .val (.int x1), .val (.int x2), .val (.int x3), .val (.int sv), .val (.int (Int32.ofNat E0)), .val (.int (Int32.ofNat N1)), .val (.int (Int32.ofNat N2)), .val (.int nv), .val (.int (Int32.ofNat E1)), .val (.int (Int32.ofNat E2)), .val (.ref fa), .val (.int (Int32.ofNat L1)), .val (.int (Int32.ofNat L2)), .val (.ref ra), .val (.ref rb), .val (.ref rc), .val (.ref rd), .val (.int (Int32.ofNat (E0 + E1 + E2))), .val (.ref ob), .val (.int (Int32.ofNat o1.length)), .val (.int (Int32.ofNat o2.length)), .val (.int (Int32.ofNat o3.length)), .val (.int (Int32.ofNat 0)), .val (.int (Int32.ofNat o1.length)), .val (.int (Int32.ofNat o2.length)), .val (.int (Int32.ofNat o3.length)), .unset, .unset]) (st' := [(.int (Int32.ofNat E2)), (.int (Int32.ofNat E1)), (.int (Int32.ofNat E0)), (.int sv), (.int (0 : Int32)), (.int (Int32.ofNat o1.length)), (.int (0 : Int32)), (.ref ra)]) (by decide +kernel) rfl ?_
    refine own_callS SM2 C (y := (⟨"com/example/holdfast/holdfast/fill/UnitOrderNextPinLaw", "at", "([IIIIIIII)Z"⟩ : MethodName)) (hw _ (List.mem_of_getElem? (i := 37) rfl)) (hw _ (List.mem_of_getElem? (i := 38) rfl)) (hw _ (List.mem_of_getElem? (i := 9) rfl)) (hw _ (List.mem_of_getElem? (i := 39) rfl)) (by decide) (rm_at l Z a0 hw [] ra (0 : Int32) (Int32.ofNat o1.length) (0 : Int32) sv (Int32.ofNat E0) (Int32.ofNat E1) (Int32.ofNat E2) hV3 n0 SM2.size (o1.map (own_u sv) ++ List.replicate (L1 - o1.length) (0 : Int32)) A29 (B1 0 (by decide))) 0 (by decide) (by decide) (ps := [(.array .int), .int, .int, .int, .int, .int, .int, .int]) (r := (some .boolean)) (by decide +kernel) [(.ref ra), (.int (0 : Int32)), (.int (Int32.ofNat o1.length)), (.int (0 : Int32)), (.int sv), (.int (Int32.ofNat E0)), (.int (Int32.ofNat E1)), (.int (Int32.ofNat E2))] [] rfl rfl rfl (Nat.le_of_eq rfl) rfl (by decide +kernel) (by decide) (by decide) (fun v TA1 hA1 SA1 q => ?_)
    obtain ⟨rfl, ha1⟩ := q
    rw [ha1] at SA1
    show Con p e below _ (mkF m 353 #[.val (.int x0), .val (.int x1), .val (.int x2), .val (.int x3), .val (.int sv), .val (.int (Int32.ofNat E0)), .val (.int (Int32.ofNat N1)), .val (.int (Int32.ofNat N2)), .val (.int nv), .val (.int (Int32.ofNat E1)), .val (.int (Int32.ofNat E2)), .val (.ref fa), .val (.int (Int32.ofNat L1)), .val (.int (Int32.ofNat L2)), .val (.ref ra), .val (.ref rb), .val (.ref rc), .val (.ref rd), .val (.int (Int32.ofNat (E0 + E1 + E2))), .val (.ref ob), .val (.int (Int32.ofNat o1.length)), .val (.int (Int32.ofNat o2.length)), .val (.int (Int32.ofNat o3.length)), .val (.int (Int32.ofNat 0)), .val (.int (Int32.ofNat o1.length)), .val (.int (Int32.ofNat o2.length)), .val (.int (Int32.ofNat o3.length)), .unset, .unset] [(.int (1 : Int32))]) _
    refine own_if SA1 C (cd := .eq) (o := 67) (by decide +kernel) (pc' := 420) ⟨by decide, by decide⟩ (fun hc353 => absurd ((hh_eq).1.mp hc353) (show ¬ ((1 : Int) = (0 : Int)) by decide)) (fun _ => ?_)
    refine own_run SA1 C [.aload 14, .iconst 1, .iload 20, .iconst 0, .iload 4, .iload 5, .iload 9, .iload 10] (pc' := 370) (Ls' := #[.val (.int x0), .val (.int x1), .val (.int x2), .val (.int x3), .val (.int sv), .val (.int (Int32.ofNat E0)), .val (.int (Int32.ofNat N1)), .val (.int (Int32.ofNat N2)), .val (.int nv), .val (.int (Int32.ofNat E1)), .val (.int (Int32.ofNat E2)), .val (.ref fa), .val (.int (Int32.ofNat L1)), .val (.int (Int32.ofNat L2)), .val (.ref ra), .val (.ref rb), .val (.ref rc), .val (.ref rd), .val (.int (Int32.ofNat (E0 + E1 + E2))), .val (.ref ob), .val (.int (Int32.ofNat o1.length)), .val (.int (Int32.ofNat o2.length)), .val (.int (Int32.ofNat o3.length)), .val (.int (Int32.ofNat 0)), .val (.int (Int32.ofNat o1.length)), .val (.int (Int32.ofNat o2.length)), .val (.int (Int32.ofNat o3.length)), .unset, .unset]) (st' := [(.int (Int32.ofNat E2)), (.int (Int32.ofNat E1)), (.int (Int32.ofNat E0)), (.int sv), (.int (0 : Int32)), (.int (Int32.ofNat o1.length)), (.int (1 : Int32)), (.ref ra)]) (by decide +kernel) rfl ?_
    refine own_callS SA1 C (y := (⟨"com/example/holdfast/holdfast/fill/UnitOrderNextPinLaw", "at", "([IIIIIIII)Z"⟩ : MethodName)) (hw _ (List.mem_of_getElem? (i := 37) rfl)) (hw _ (List.mem_of_getElem? (i := 38) rfl)) (hw _ (List.mem_of_getElem? (i := 9) rfl)) (hw _ (List.mem_of_getElem? (i := 39) rfl)) (by decide) (rm_at l Z a0 hw [] ra (1 : Int32) (Int32.ofNat o1.length) (0 : Int32) sv (Int32.ofNat E0) (Int32.ofNat E1) (Int32.ofNat E2) hV3 n0 SA1.size (o1.map (own_u sv) ++ List.replicate (L1 - o1.length) (0 : Int32)) A29 (B1 1 (by decide))) 0 (by decide) (by decide) (ps := [(.array .int), .int, .int, .int, .int, .int, .int, .int]) (r := (some .boolean)) (by decide +kernel) [(.ref ra), (.int (1 : Int32)), (.int (Int32.ofNat o1.length)), (.int (0 : Int32)), (.int sv), (.int (Int32.ofNat E0)), (.int (Int32.ofNat E1)), (.int (Int32.ofNat E2))] [] rfl rfl rfl (Nat.le_of_eq rfl) rfl (by decide +kernel) (by decide) (by decide) (fun v TA2 hA2 SA2 q => ?_)
    obtain ⟨rfl, ha2⟩ := q
    rw [ha2] at SA2
    show Con p e below _ (mkF m 373 #[.val (.int x0), .val (.int x1), .val (.int x2), .val (.int x3), .val (.int sv), .val (.int (Int32.ofNat E0)), .val (.int (Int32.ofNat N1)), .val (.int (Int32.ofNat N2)), .val (.int nv), .val (.int (Int32.ofNat E1)), .val (.int (Int32.ofNat E2)), .val (.ref fa), .val (.int (Int32.ofNat L1)), .val (.int (Int32.ofNat L2)), .val (.ref ra), .val (.ref rb), .val (.ref rc), .val (.ref rd), .val (.int (Int32.ofNat (E0 + E1 + E2))), .val (.ref ob), .val (.int (Int32.ofNat o1.length)), .val (.int (Int32.ofNat o2.length)), .val (.int (Int32.ofNat o3.length)), .val (.int (Int32.ofNat 0)), .val (.int (Int32.ofNat o1.length)), .val (.int (Int32.ofNat o2.length)), .val (.int (Int32.ofNat o3.length)), .unset, .unset] [(.int (1 : Int32))]) _
    refine own_if SA2 C (cd := .eq) (o := 47) (by decide +kernel) (pc' := 420) ⟨by decide, by decide⟩ (fun hc373 => absurd ((hh_eq).1.mp hc373) (show ¬ ((1 : Int) = (0 : Int)) by decide)) (fun _ => ?_)
    refine own_run SA2 C [.aload 14, .iconst 2, .iload 20, .iconst 0, .iload 4, .iload 5, .iload 9, .iload 10] (pc' := 390) (Ls' := #[.val (.int x0), .val (.int x1), .val (.int x2), .val (.int x3), .val (.int sv), .val (.int (Int32.ofNat E0)), .val (.int (Int32.ofNat N1)), .val (.int (Int32.ofNat N2)), .val (.int nv), .val (.int (Int32.ofNat E1)), .val (.int (Int32.ofNat E2)), .val (.ref fa), .val (.int (Int32.ofNat L1)), .val (.int (Int32.ofNat L2)), .val (.ref ra), .val (.ref rb), .val (.ref rc), .val (.ref rd), .val (.int (Int32.ofNat (E0 + E1 + E2))), .val (.ref ob), .val (.int (Int32.ofNat o1.length)), .val (.int (Int32.ofNat o2.length)), .val (.int (Int32.ofNat o3.length)), .val (.int (Int32.ofNat 0)), .val (.int (Int32.ofNat o1.length)), .val (.int (Int32.ofNat o2.length)), .val (.int (Int32.ofNat o3.length)), .unset, .unset]) (st' := [(.int (Int32.ofNat E2)), (.int (Int32.ofNat E1)), (.int (Int32.ofNat E0)), (.int sv), (.int (0 : Int32)), (.int (Int32.ofNat o1.length)), (.int (2 : Int32)), (.ref ra)]) (by decide +kernel) rfl ?_
    refine own_callS SA2 C (y := (⟨"com/example/holdfast/holdfast/fill/UnitOrderNextPinLaw", "at", "([IIIIIIII)Z"⟩ : MethodName)) (hw _ (List.mem_of_getElem? (i := 37) rfl)) (hw _ (List.mem_of_getElem? (i := 38) rfl)) (hw _ (List.mem_of_getElem? (i := 9) rfl)) (hw _ (List.mem_of_getElem? (i := 39) rfl)) (by decide) (rm_at l Z a0 hw [] ra (2 : Int32) (Int32.ofNat o1.length) (0 : Int32) sv (Int32.ofNat E0) (Int32.ofNat E1) (Int32.ofNat E2) hV3 n0 SA2.size (o1.map (own_u sv) ++ List.replicate (L1 - o1.length) (0 : Int32)) A29 (B1 2 (by decide))) 0 (by decide) (by decide) (ps := [(.array .int), .int, .int, .int, .int, .int, .int, .int]) (r := (some .boolean)) (by decide +kernel) [(.ref ra), (.int (2 : Int32)), (.int (Int32.ofNat o1.length)), (.int (0 : Int32)), (.int sv), (.int (Int32.ofNat E0)), (.int (Int32.ofNat E1)), (.int (Int32.ofNat E2))] [] rfl rfl rfl (Nat.le_of_eq rfl) rfl (by decide +kernel) (by decide) (by decide) (fun v TA3 hA3 SA3 q => ?_)
    obtain ⟨rfl, ha3⟩ := q
    rw [ha3] at SA3
    show Con p e below _ (mkF m 393 #[.val (.int x0), .val (.int x1), .val (.int x2), .val (.int x3), .val (.int sv), .val (.int (Int32.ofNat E0)), .val (.int (Int32.ofNat N1)), .val (.int (Int32.ofNat N2)), .val (.int nv), .val (.int (Int32.ofNat E1)), .val (.int (Int32.ofNat E2)), .val (.ref fa), .val (.int (Int32.ofNat L1)), .val (.int (Int32.ofNat L2)), .val (.ref ra), .val (.ref rb), .val (.ref rc), .val (.ref rd), .val (.int (Int32.ofNat (E0 + E1 + E2))), .val (.ref ob), .val (.int (Int32.ofNat o1.length)), .val (.int (Int32.ofNat o2.length)), .val (.int (Int32.ofNat o3.length)), .val (.int (Int32.ofNat 0)), .val (.int (Int32.ofNat o1.length)), .val (.int (Int32.ofNat o2.length)), .val (.int (Int32.ofNat o3.length)), .unset, .unset] [(.int (1 : Int32))]) _
    refine own_if SA3 C (cd := .eq) (o := 27) (by decide +kernel) (pc' := 420) ⟨by decide, by decide⟩ (fun hc393 => absurd ((hh_eq).1.mp hc393) (show ¬ ((1 : Int) = (0 : Int)) by decide)) (fun _ => ?_)
    refine own_run SA3 C [.aload 14, .iconst 3, .iload 20, .iconst 0, .iload 4, .iload 5, .iload 9, .iload 10] (pc' := 410) (Ls' := #[.val (.int x0), .val (.int x1), .val (.int x2), .val (.int x3), .val (.int sv), .val (.int (Int32.ofNat E0)), .val (.int (Int32.ofNat N1)), .val (.int (Int32.ofNat N2)), .val (.int nv), .val (.int (Int32.ofNat E1)), .val (.int (Int32.ofNat E2)), .val (.ref fa), .val (.int (Int32.ofNat L1)), .val (.int (Int32.ofNat L2)), .val (.ref ra), .val (.ref rb), .val (.ref rc), .val (.ref rd), .val (.int (Int32.ofNat (E0 + E1 + E2))), .val (.ref ob), .val (.int (Int32.ofNat o1.length)), .val (.int (Int32.ofNat o2.length)), .val (.int (Int32.ofNat o3.length)), .val (.int (Int32.ofNat 0)), .val (.int (Int32.ofNat o1.length)), .val (.int (Int32.ofNat o2.length)), .val (.int (Int32.ofNat o3.length)), .unset, .unset]) (st' := [(.int (Int32.ofNat E2)), (.int (Int32.ofNat E1)), (.int (Int32.ofNat E0)), (.int sv), (.int (0 : Int32)), (.int (Int32.ofNat o1.length)), (.int (3 : Int32)), (.ref ra)]) (by decide +kernel) rfl ?_
    refine own_callS SA3 C (y := (⟨"com/example/holdfast/holdfast/fill/UnitOrderNextPinLaw", "at", "([IIIIIIII)Z"⟩ : MethodName)) (hw _ (List.mem_of_getElem? (i := 37) rfl)) (hw _ (List.mem_of_getElem? (i := 38) rfl)) (hw _ (List.mem_of_getElem? (i := 9) rfl)) (hw _ (List.mem_of_getElem? (i := 39) rfl)) (by decide) (rm_at l Z a0 hw [] ra (3 : Int32) (Int32.ofNat o1.length) (0 : Int32) sv (Int32.ofNat E0) (Int32.ofNat E1) (Int32.ofNat E2) hV3 n0 SA3.size (o1.map (own_u sv) ++ List.replicate (L1 - o1.length) (0 : Int32)) A29 (B1 3 (by decide))) 0 (by decide) (by decide) (ps := [(.array .int), .int, .int, .int, .int, .int, .int, .int]) (r := (some .boolean)) (by decide +kernel) [(.ref ra), (.int (3 : Int32)), (.int (Int32.ofNat o1.length)), (.int (0 : Int32)), (.int sv), (.int (Int32.ofNat E0)), (.int (Int32.ofNat E1)), (.int (Int32.ofNat E2))] [] rfl rfl rfl (Nat.le_of_eq rfl) rfl (by decide +kernel) (by decide) (by decide) (fun v TA4 hA4 SA4 q => ?_)
    obtain ⟨rfl, ha4⟩ := q
    rw [ha4] at SA4
    show Con p e below _ (mkF m 413 #[.val (.int x0), .val (.int x1), .val (.int x2), .val (.int x3), .val (.int sv), .val (.int (Int32.ofNat E0)), .val (.int (Int32.ofNat N1)), .val (.int (Int32.ofNat N2)), .val (.int nv), .val (.int (Int32.ofNat E1)), .val (.int (Int32.ofNat E2)), .val (.ref fa), .val (.int (Int32.ofNat L1)), .val (.int (Int32.ofNat L2)), .val (.ref ra), .val (.ref rb), .val (.ref rc), .val (.ref rd), .val (.int (Int32.ofNat (E0 + E1 + E2))), .val (.ref ob), .val (.int (Int32.ofNat o1.length)), .val (.int (Int32.ofNat o2.length)), .val (.int (Int32.ofNat o3.length)), .val (.int (Int32.ofNat 0)), .val (.int (Int32.ofNat o1.length)), .val (.int (Int32.ofNat o2.length)), .val (.int (Int32.ofNat o3.length)), .unset, .unset] [(.int (1 : Int32))]) _
    refine own_if SA4 C (cd := .eq) (o := 7) (by decide +kernel) (pc' := 420) ⟨by decide, by decide⟩ (fun hc413 => absurd ((hh_eq).1.mp hc413) (show ¬ ((1 : Int) = (0 : Int)) by decide)) (fun _ => ?_)
    refine own_run SA4 C [.iconst 1, .goto 4, .istore 27, .iload 27] (pc' := 425) (Ls' := #[.val (.int x0), .val (.int x1), .val (.int x2), .val (.int x3), .val (.int sv), .val (.int (Int32.ofNat E0)), .val (.int (Int32.ofNat N1)), .val (.int (Int32.ofNat N2)), .val (.int nv), .val (.int (Int32.ofNat E1)), .val (.int (Int32.ofNat E2)), .val (.ref fa), .val (.int (Int32.ofNat L1)), .val (.int (Int32.ofNat L2)), .val (.ref ra), .val (.ref rb), .val (.ref rc), .val (.ref rd), .val (.int (Int32.ofNat (E0 + E1 + E2))), .val (.ref ob), .val (.int (Int32.ofNat o1.length)), .val (.int (Int32.ofNat o2.length)), .val (.int (Int32.ofNat o3.length)), .val (.int (Int32.ofNat 0)), .val (.int (Int32.ofNat o1.length)), .val (.int (Int32.ofNat o2.length)), .val (.int (Int32.ofNat o3.length)), .val (.int (1 : Int32)), .unset]) (st' := [(.int (1 : Int32))]) (by decide +kernel) rfl ?_
    refine own_if SA4 C (cd := .eq) (o := 91) (by decide +kernel) (pc' := 516) ⟨by decide, by decide⟩ (fun hc425 => absurd ((hh_eq).1.mp hc425) (show ¬ ((1 : Int) = (0 : Int)) by decide)) (fun _ => ?_)
    refine own_run SA4 C [.aload 15, .iconst 0, .iload 21, .iload 20, .iload 4, .iload 5, .iload 9, .iload 10] (pc' := 443) (Ls' := #[.val (.int x0), .val (.int x1), .val (.int x2), .val (.int x3), .val (.int sv), .val (.int (Int32.ofNat E0)), .val (.int (Int32.ofNat N1)), .val (.int (Int32.ofNat N2)), .val (.int nv), .val (.int (Int32.ofNat E1)), .val (.int (Int32.ofNat E2)), .val (.ref fa), .val (.int (Int32.ofNat L1)), .val (.int (Int32.ofNat L2)), .val (.ref ra), .val (.ref rb), .val (.ref rc), .val (.ref rd), .val (.int (Int32.ofNat (E0 + E1 + E2))), .val (.ref ob), .val (.int (Int32.ofNat o1.length)), .val (.int (Int32.ofNat o2.length)), .val (.int (Int32.ofNat o3.length)), .val (.int (Int32.ofNat 0)), .val (.int (Int32.ofNat o1.length)), .val (.int (Int32.ofNat o2.length)), .val (.int (Int32.ofNat o3.length)), .val (.int (1 : Int32)), .unset]) (st' := [(.int (Int32.ofNat E2)), (.int (Int32.ofNat E1)), (.int (Int32.ofNat E0)), (.int sv), (.int (Int32.ofNat o1.length)), (.int (Int32.ofNat o2.length)), (.int (0 : Int32)), (.ref rb)]) (by decide +kernel) rfl ?_
    refine own_callS SA4 C (y := (⟨"com/example/holdfast/holdfast/fill/UnitOrderNextPinLaw", "at", "([IIIIIIII)Z"⟩ : MethodName)) (hw _ (List.mem_of_getElem? (i := 37) rfl)) (hw _ (List.mem_of_getElem? (i := 38) rfl)) (hw _ (List.mem_of_getElem? (i := 9) rfl)) (hw _ (List.mem_of_getElem? (i := 39) rfl)) (by decide) (rm_at l Z a0 hw [] rb (0 : Int32) (Int32.ofNat o2.length) (Int32.ofNat o1.length) sv (Int32.ofNat E0) (Int32.ofNat E1) (Int32.ofNat E2) hV3 n0 SA4.size (o2.map (own_u sv) ++ List.replicate (L2 - o2.length) (0 : Int32)) A30 (B2 0 (by decide))) 0 (by decide) (by decide) (ps := [(.array .int), .int, .int, .int, .int, .int, .int, .int]) (r := (some .boolean)) (by decide +kernel) [(.ref rb), (.int (0 : Int32)), (.int (Int32.ofNat o2.length)), (.int (Int32.ofNat o1.length)), (.int sv), (.int (Int32.ofNat E0)), (.int (Int32.ofNat E1)), (.int (Int32.ofNat E2))] [] rfl rfl rfl (Nat.le_of_eq rfl) rfl (by decide +kernel) (by decide) (by decide) (fun v TA5 hA5 SA5 q => ?_)
    obtain ⟨rfl, ha5⟩ := q
    rw [ha5] at SA5
    show Con p e below _ (mkF m 446 #[.val (.int x0), .val (.int x1), .val (.int x2), .val (.int x3), .val (.int sv), .val (.int (Int32.ofNat E0)), .val (.int (Int32.ofNat N1)), .val (.int (Int32.ofNat N2)), .val (.int nv), .val (.int (Int32.ofNat E1)), .val (.int (Int32.ofNat E2)), .val (.ref fa), .val (.int (Int32.ofNat L1)), .val (.int (Int32.ofNat L2)), .val (.ref ra), .val (.ref rb), .val (.ref rc), .val (.ref rd), .val (.int (Int32.ofNat (E0 + E1 + E2))), .val (.ref ob), .val (.int (Int32.ofNat o1.length)), .val (.int (Int32.ofNat o2.length)), .val (.int (Int32.ofNat o3.length)), .val (.int (Int32.ofNat 0)), .val (.int (Int32.ofNat o1.length)), .val (.int (Int32.ofNat o2.length)), .val (.int (Int32.ofNat o3.length)), .val (.int (1 : Int32)), .unset] [(.int (1 : Int32))]) _
    refine own_if SA5 C (cd := .eq) (o := 70) (by decide +kernel) (pc' := 516) ⟨by decide, by decide⟩ (fun hc446 => absurd ((hh_eq).1.mp hc446) (show ¬ ((1 : Int) = (0 : Int)) by decide)) (fun _ => ?_)
    refine own_run SA5 C [.aload 15, .iconst 1, .iload 21, .iload 20, .iload 4, .iload 5, .iload 9, .iload 10] (pc' := 464) (Ls' := #[.val (.int x0), .val (.int x1), .val (.int x2), .val (.int x3), .val (.int sv), .val (.int (Int32.ofNat E0)), .val (.int (Int32.ofNat N1)), .val (.int (Int32.ofNat N2)), .val (.int nv), .val (.int (Int32.ofNat E1)), .val (.int (Int32.ofNat E2)), .val (.ref fa), .val (.int (Int32.ofNat L1)), .val (.int (Int32.ofNat L2)), .val (.ref ra), .val (.ref rb), .val (.ref rc), .val (.ref rd), .val (.int (Int32.ofNat (E0 + E1 + E2))), .val (.ref ob), .val (.int (Int32.ofNat o1.length)), .val (.int (Int32.ofNat o2.length)), .val (.int (Int32.ofNat o3.length)), .val (.int (Int32.ofNat 0)), .val (.int (Int32.ofNat o1.length)), .val (.int (Int32.ofNat o2.length)), .val (.int (Int32.ofNat o3.length)), .val (.int (1 : Int32)), .unset]) (st' := [(.int (Int32.ofNat E2)), (.int (Int32.ofNat E1)), (.int (Int32.ofNat E0)), (.int sv), (.int (Int32.ofNat o1.length)), (.int (Int32.ofNat o2.length)), (.int (1 : Int32)), (.ref rb)]) (by decide +kernel) rfl ?_
    refine own_callS SA5 C (y := (⟨"com/example/holdfast/holdfast/fill/UnitOrderNextPinLaw", "at", "([IIIIIIII)Z"⟩ : MethodName)) (hw _ (List.mem_of_getElem? (i := 37) rfl)) (hw _ (List.mem_of_getElem? (i := 38) rfl)) (hw _ (List.mem_of_getElem? (i := 9) rfl)) (hw _ (List.mem_of_getElem? (i := 39) rfl)) (by decide) (rm_at l Z a0 hw [] rb (1 : Int32) (Int32.ofNat o2.length) (Int32.ofNat o1.length) sv (Int32.ofNat E0) (Int32.ofNat E1) (Int32.ofNat E2) hV3 n0 SA5.size (o2.map (own_u sv) ++ List.replicate (L2 - o2.length) (0 : Int32)) A30 (B2 1 (by decide))) 0 (by decide) (by decide) (ps := [(.array .int), .int, .int, .int, .int, .int, .int, .int]) (r := (some .boolean)) (by decide +kernel) [(.ref rb), (.int (1 : Int32)), (.int (Int32.ofNat o2.length)), (.int (Int32.ofNat o1.length)), (.int sv), (.int (Int32.ofNat E0)), (.int (Int32.ofNat E1)), (.int (Int32.ofNat E2))] [] rfl rfl rfl (Nat.le_of_eq rfl) rfl (by decide +kernel) (by decide) (by decide) (fun v TA6 hA6 SA6 q => ?_)
    obtain ⟨rfl, ha6⟩ := q
    rw [ha6] at SA6
    show Con p e below _ (mkF m 467 #[.val (.int x0), .val (.int x1), .val (.int x2), .val (.int x3), .val (.int sv), .val (.int (Int32.ofNat E0)), .val (.int (Int32.ofNat N1)), .val (.int (Int32.ofNat N2)), .val (.int nv), .val (.int (Int32.ofNat E1)), .val (.int (Int32.ofNat E2)), .val (.ref fa), .val (.int (Int32.ofNat L1)), .val (.int (Int32.ofNat L2)), .val (.ref ra), .val (.ref rb), .val (.ref rc), .val (.ref rd), .val (.int (Int32.ofNat (E0 + E1 + E2))), .val (.ref ob), .val (.int (Int32.ofNat o1.length)), .val (.int (Int32.ofNat o2.length)), .val (.int (Int32.ofNat o3.length)), .val (.int (Int32.ofNat 0)), .val (.int (Int32.ofNat o1.length)), .val (.int (Int32.ofNat o2.length)), .val (.int (Int32.ofNat o3.length)), .val (.int (1 : Int32)), .unset] [(.int (1 : Int32))]) _
    refine own_if SA6 C (cd := .eq) (o := 49) (by decide +kernel) (pc' := 516) ⟨by decide, by decide⟩ (fun hc467 => absurd ((hh_eq).1.mp hc467) (show ¬ ((1 : Int) = (0 : Int)) by decide)) (fun _ => ?_)
    refine own_run SA6 C [.aload 15, .iconst 2, .iload 21, .iload 20, .iload 4, .iload 5, .iload 9, .iload 10] (pc' := 485) (Ls' := #[.val (.int x0), .val (.int x1), .val (.int x2), .val (.int x3), .val (.int sv), .val (.int (Int32.ofNat E0)), .val (.int (Int32.ofNat N1)), .val (.int (Int32.ofNat N2)), .val (.int nv), .val (.int (Int32.ofNat E1)), .val (.int (Int32.ofNat E2)), .val (.ref fa), .val (.int (Int32.ofNat L1)), .val (.int (Int32.ofNat L2)), .val (.ref ra), .val (.ref rb), .val (.ref rc), .val (.ref rd), .val (.int (Int32.ofNat (E0 + E1 + E2))), .val (.ref ob), .val (.int (Int32.ofNat o1.length)), .val (.int (Int32.ofNat o2.length)), .val (.int (Int32.ofNat o3.length)), .val (.int (Int32.ofNat 0)), .val (.int (Int32.ofNat o1.length)), .val (.int (Int32.ofNat o2.length)), .val (.int (Int32.ofNat o3.length)), .val (.int (1 : Int32)), .unset]) (st' := [(.int (Int32.ofNat E2)), (.int (Int32.ofNat E1)), (.int (Int32.ofNat E0)), (.int sv), (.int (Int32.ofNat o1.length)), (.int (Int32.ofNat o2.length)), (.int (2 : Int32)), (.ref rb)]) (by decide +kernel) rfl ?_
    refine own_callS SA6 C (y := (⟨"com/example/holdfast/holdfast/fill/UnitOrderNextPinLaw", "at", "([IIIIIIII)Z"⟩ : MethodName)) (hw _ (List.mem_of_getElem? (i := 37) rfl)) (hw _ (List.mem_of_getElem? (i := 38) rfl)) (hw _ (List.mem_of_getElem? (i := 9) rfl)) (hw _ (List.mem_of_getElem? (i := 39) rfl)) (by decide) (rm_at l Z a0 hw [] rb (2 : Int32) (Int32.ofNat o2.length) (Int32.ofNat o1.length) sv (Int32.ofNat E0) (Int32.ofNat E1) (Int32.ofNat E2) hV3 n0 SA6.size (o2.map (own_u sv) ++ List.replicate (L2 - o2.length) (0 : Int32)) A30 (B2 2 (by decide))) 0 (by decide) (by decide) (ps := [(.array .int), .int, .int, .int, .int, .int, .int, .int]) (r := (some .boolean)) (by decide +kernel) [(.ref rb), (.int (2 : Int32)), (.int (Int32.ofNat o2.length)), (.int (Int32.ofNat o1.length)), (.int sv), (.int (Int32.ofNat E0)), (.int (Int32.ofNat E1)), (.int (Int32.ofNat E2))] [] rfl rfl rfl (Nat.le_of_eq rfl) rfl (by decide +kernel) (by decide) (by decide) (fun v TA7 hA7 SA7 q => ?_)
    obtain ⟨rfl, ha7⟩ := q
    rw [ha7] at SA7
    show Con p e below _ (mkF m 488 #[.val (.int x0), .val (.int x1), .val (.int x2), .val (.int x3), .val (.int sv), .val (.int (Int32.ofNat E0)), .val (.int (Int32.ofNat N1)), .val (.int (Int32.ofNat N2)), .val (.int nv), .val (.int (Int32.ofNat E1)), .val (.int (Int32.ofNat E2)), .val (.ref fa), .val (.int (Int32.ofNat L1)), .val (.int (Int32.ofNat L2)), .val (.ref ra), .val (.ref rb), .val (.ref rc), .val (.ref rd), .val (.int (Int32.ofNat (E0 + E1 + E2))), .val (.ref ob), .val (.int (Int32.ofNat o1.length)), .val (.int (Int32.ofNat o2.length)), .val (.int (Int32.ofNat o3.length)), .val (.int (Int32.ofNat 0)), .val (.int (Int32.ofNat o1.length)), .val (.int (Int32.ofNat o2.length)), .val (.int (Int32.ofNat o3.length)), .val (.int (1 : Int32)), .unset] [(.int (1 : Int32))]) _
    refine own_if SA7 C (cd := .eq) (o := 28) (by decide +kernel) (pc' := 516) ⟨by decide, by decide⟩ (fun hc488 => absurd ((hh_eq).1.mp hc488) (show ¬ ((1 : Int) = (0 : Int)) by decide)) (fun _ => ?_)
    refine own_run SA7 C [.aload 15, .iconst 3, .iload 21, .iload 20, .iload 4, .iload 5, .iload 9, .iload 10] (pc' := 506) (Ls' := #[.val (.int x0), .val (.int x1), .val (.int x2), .val (.int x3), .val (.int sv), .val (.int (Int32.ofNat E0)), .val (.int (Int32.ofNat N1)), .val (.int (Int32.ofNat N2)), .val (.int nv), .val (.int (Int32.ofNat E1)), .val (.int (Int32.ofNat E2)), .val (.ref fa), .val (.int (Int32.ofNat L1)), .val (.int (Int32.ofNat L2)), .val (.ref ra), .val (.ref rb), .val (.ref rc), .val (.ref rd), .val (.int (Int32.ofNat (E0 + E1 + E2))), .val (.ref ob), .val (.int (Int32.ofNat o1.length)), .val (.int (Int32.ofNat o2.length)), .val (.int (Int32.ofNat o3.length)), .val (.int (Int32.ofNat 0)), .val (.int (Int32.ofNat o1.length)), .val (.int (Int32.ofNat o2.length)), .val (.int (Int32.ofNat o3.length)), .val (.int (1 : Int32)), .unset]) (st' := [(.int (Int32.ofNat E2)), (.int (Int32.ofNat E1)), (.int (Int32.ofNat E0)), (.int sv), (.int (Int32.ofNat o1.length)), (.int (Int32.ofNat o2.length)), (.int (3 : Int32)), (.ref rb)]) (by decide +kernel) rfl ?_
    refine own_callS SA7 C (y := (⟨"com/example/holdfast/holdfast/fill/UnitOrderNextPinLaw", "at", "([IIIIIIII)Z"⟩ : MethodName)) (hw _ (List.mem_of_getElem? (i := 37) rfl)) (hw _ (List.mem_of_getElem? (i := 38) rfl)) (hw _ (List.mem_of_getElem? (i := 9) rfl)) (hw _ (List.mem_of_getElem? (i := 39) rfl)) (by decide) (rm_at l Z a0 hw [] rb (3 : Int32) (Int32.ofNat o2.length) (Int32.ofNat o1.length) sv (Int32.ofNat E0) (Int32.ofNat E1) (Int32.ofNat E2) hV3 n0 SA7.size (o2.map (own_u sv) ++ List.replicate (L2 - o2.length) (0 : Int32)) A30 (B2 3 (by decide))) 0 (by decide) (by decide) (ps := [(.array .int), .int, .int, .int, .int, .int, .int, .int]) (r := (some .boolean)) (by decide +kernel) [(.ref rb), (.int (3 : Int32)), (.int (Int32.ofNat o2.length)), (.int (Int32.ofNat o1.length)), (.int sv), (.int (Int32.ofNat E0)), (.int (Int32.ofNat E1)), (.int (Int32.ofNat E2))] [] rfl rfl rfl (Nat.le_of_eq rfl) rfl (by decide +kernel) (by decide) (by decide) (fun v TA8 hA8 SA8 q => ?_)
    obtain ⟨rfl, ha8⟩ := q
    rw [ha8] at SA8
    show Con p e below _ (mkF m 509 #[.val (.int x0), .val (.int x1), .val (.int x2), .val (.int x3), .val (.int sv), .val (.int (Int32.ofNat E0)), .val (.int (Int32.ofNat N1)), .val (.int (Int32.ofNat N2)), .val (.int nv), .val (.int (Int32.ofNat E1)), .val (.int (Int32.ofNat E2)), .val (.ref fa), .val (.int (Int32.ofNat L1)), .val (.int (Int32.ofNat L2)), .val (.ref ra), .val (.ref rb), .val (.ref rc), .val (.ref rd), .val (.int (Int32.ofNat (E0 + E1 + E2))), .val (.ref ob), .val (.int (Int32.ofNat o1.length)), .val (.int (Int32.ofNat o2.length)), .val (.int (Int32.ofNat o3.length)), .val (.int (Int32.ofNat 0)), .val (.int (Int32.ofNat o1.length)), .val (.int (Int32.ofNat o2.length)), .val (.int (Int32.ofNat o3.length)), .val (.int (1 : Int32)), .unset] [(.int (1 : Int32))]) _
    refine own_if SA8 C (cd := .eq) (o := 7) (by decide +kernel) (pc' := 516) ⟨by decide, by decide⟩ (fun hc509 => absurd ((hh_eq).1.mp hc509) (show ¬ ((1 : Int) = (0 : Int)) by decide)) (fun _ => ?_)
    refine own_run SA8 C [.iconst 1, .goto 4, .istore 27, .iload 20, .iload 21] (pc' := 523) (Ls' := #[.val (.int x0), .val (.int x1), .val (.int x2), .val (.int x3), .val (.int sv), .val (.int (Int32.ofNat E0)), .val (.int (Int32.ofNat N1)), .val (.int (Int32.ofNat N2)), .val (.int nv), .val (.int (Int32.ofNat E1)), .val (.int (Int32.ofNat E2)), .val (.ref fa), .val (.int (Int32.ofNat L1)), .val (.int (Int32.ofNat L2)), .val (.ref ra), .val (.ref rb), .val (.ref rc), .val (.ref rd), .val (.int (Int32.ofNat (E0 + E1 + E2))), .val (.ref ob), .val (.int (Int32.ofNat o1.length)), .val (.int (Int32.ofNat o2.length)), .val (.int (Int32.ofNat o3.length)), .val (.int (Int32.ofNat 0)), .val (.int (Int32.ofNat o1.length)), .val (.int (Int32.ofNat o2.length)), .val (.int (Int32.ofNat o3.length)), .val (.int (1 : Int32)), .unset]) (st' := [(.int (Int32.ofNat o2.length)), (.int (Int32.ofNat o1.length))]) (by decide +kernel) rfl ?_
    refine own_run SA8 C [.iadd] (pc' := 524) (Ls' := #[.val (.int x0), .val (.int x1), .val (.int x2), .val (.int x3), .val (.int sv), .val (.int (Int32.ofNat E0)), .val (.int (Int32.ofNat N1)), .val (.int (Int32.ofNat N2)), .val (.int nv), .val (.int (Int32.ofNat E1)), .val (.int (Int32.ofNat E2)), .val (.ref fa), .val (.int (Int32.ofNat L1)), .val (.int (Int32.ofNat L2)), .val (.ref ra), .val (.ref rb), .val (.ref rc), .val (.ref rd), .val (.int (Int32.ofNat (E0 + E1 + E2))), .val (.ref ob), .val (.int (Int32.ofNat o1.length)), .val (.int (Int32.ofNat o2.length)), .val (.int (Int32.ofNat o3.length)), .val (.int (Int32.ofNat 0)), .val (.int (Int32.ofNat o1.length)), .val (.int (Int32.ofNat o2.length)), .val (.int (Int32.ofNat o3.length)), .val (.int (1 : Int32)), .unset]) (st' := [(.int ((Int32.ofNat o1.length) + (Int32.ofNat o2.length)))]) (by decide +kernel) rfl ?_
    rw [← Int32.ofNat_add]
    refine own_run SA8 C [.istore 28, .iload 27] (pc' := 528) (Ls' := #[.val (.int x0), .val (.int x1), .val (.int x2), .val (.int x3), .val (.int sv), .val (.int (Int32.ofNat E0)), .val (.int (Int32.ofNat N1)), .val (.int (Int32.ofNat N2)), .val (.int nv), .val (.int (Int32.ofNat E1)), .val (.int (Int32.ofNat E2)), .val (.ref fa), .val (.int (Int32.ofNat L1)), .val (.int (Int32.ofNat L2)), .val (.ref ra), .val (.ref rb), .val (.ref rc), .val (.ref rd), .val (.int (Int32.ofNat (E0 + E1 + E2))), .val (.ref ob), .val (.int (Int32.ofNat o1.length)), .val (.int (Int32.ofNat o2.length)), .val (.int (Int32.ofNat o3.length)), .val (.int (Int32.ofNat 0)), .val (.int (Int32.ofNat o1.length)), .val (.int (Int32.ofNat o2.length)), .val (.int (Int32.ofNat o3.length)), .val (.int (1 : Int32)), .val (.int (Int32.ofNat (o1.length + o2.length)))]) (st' := [(.int (1 : Int32))]) (by decide +kernel) rfl ?_
    refine own_if SA8 C (cd := .eq) (o := 265) (by decide +kernel) (pc' := 793) ⟨by decide, by decide⟩ (fun hc528 => absurd ((hh_eq).1.mp hc528) (show ¬ ((1 : Int) = (0 : Int)) by decide)) (fun _ => ?_)
    refine own_run SA8 C [.aload 16, .iconst 0, .iload 22, .iload 28, .iload 4, .iload 5, .iload 9, .iload 10] (pc' := 546) (Ls' := #[.val (.int x0), .val (.int x1), .val (.int x2), .val (.int x3), .val (.int sv), .val (.int (Int32.ofNat E0)), .val (.int (Int32.ofNat N1)), .val (.int (Int32.ofNat N2)), .val (.int nv), .val (.int (Int32.ofNat E1)), .val (.int (Int32.ofNat E2)), .val (.ref fa), .val (.int (Int32.ofNat L1)), .val (.int (Int32.ofNat L2)), .val (.ref ra), .val (.ref rb), .val (.ref rc), .val (.ref rd), .val (.int (Int32.ofNat (E0 + E1 + E2))), .val (.ref ob), .val (.int (Int32.ofNat o1.length)), .val (.int (Int32.ofNat o2.length)), .val (.int (Int32.ofNat o3.length)), .val (.int (Int32.ofNat 0)), .val (.int (Int32.ofNat o1.length)), .val (.int (Int32.ofNat o2.length)), .val (.int (Int32.ofNat o3.length)), .val (.int (1 : Int32)), .val (.int (Int32.ofNat (o1.length + o2.length)))]) (st' := [(.int (Int32.ofNat E2)), (.int (Int32.ofNat E1)), (.int (Int32.ofNat E0)), (.int sv), (.int (Int32.ofNat (o1.length + o2.length))), (.int (Int32.ofNat o3.length)), (.int (0 : Int32)), (.ref rc)]) (by decide +kernel) rfl ?_
    refine own_callS SA8 C (y := (⟨"com/example/holdfast/holdfast/fill/UnitOrderNextPinLaw", "at", "([IIIIIIII)Z"⟩ : MethodName)) (hw _ (List.mem_of_getElem? (i := 37) rfl)) (hw _ (List.mem_of_getElem? (i := 38) rfl)) (hw _ (List.mem_of_getElem? (i := 9) rfl)) (hw _ (List.mem_of_getElem? (i := 39) rfl)) (by decide) (rm_at l Z a0 hw [] rc (0 : Int32) (Int32.ofNat o3.length) (Int32.ofNat (o1.length + o2.length)) sv (Int32.ofNat E0) (Int32.ofNat E1) (Int32.ofNat E2) hV3 n0 SA8.size (o3.map (own_u sv) ++ List.replicate (12 - o3.length) (0 : Int32)) A31 (B3 0 (by decide))) 0 (by decide) (by decide) (ps := [(.array .int), .int, .int, .int, .int, .int, .int, .int]) (r := (some .boolean)) (by decide +kernel) [(.ref rc), (.int (0 : Int32)), (.int (Int32.ofNat o3.length)), (.int (Int32.ofNat (o1.length + o2.length))), (.int sv), (.int (Int32.ofNat E0)), (.int (Int32.ofNat E1)), (.int (Int32.ofNat E2))] [] rfl rfl rfl (Nat.le_of_eq rfl) rfl (by decide +kernel) (by decide) (by decide) (fun v TA9 hA9 SA9 q => ?_)
    obtain ⟨rfl, ha9⟩ := q
    rw [ha9] at SA9
    show Con p e below _ (mkF m 549 #[.val (.int x0), .val (.int x1), .val (.int x2), .val (.int x3), .val (.int sv), .val (.int (Int32.ofNat E0)), .val (.int (Int32.ofNat N1)), .val (.int (Int32.ofNat N2)), .val (.int nv), .val (.int (Int32.ofNat E1)), .val (.int (Int32.ofNat E2)), .val (.ref fa), .val (.int (Int32.ofNat L1)), .val (.int (Int32.ofNat L2)), .val (.ref ra), .val (.ref rb), .val (.ref rc), .val (.ref rd), .val (.int (Int32.ofNat (E0 + E1 + E2))), .val (.ref ob), .val (.int (Int32.ofNat o1.length)), .val (.int (Int32.ofNat o2.length)), .val (.int (Int32.ofNat o3.length)), .val (.int (Int32.ofNat 0)), .val (.int (Int32.ofNat o1.length)), .val (.int (Int32.ofNat o2.length)), .val (.int (Int32.ofNat o3.length)), .val (.int (1 : Int32)), .val (.int (Int32.ofNat (o1.length + o2.length)))] [(.int (1 : Int32))]) _
    refine own_if SA9 C (cd := .eq) (o := 244) (by decide +kernel) (pc' := 793) ⟨by decide, by decide⟩ (fun hc549 => absurd ((hh_eq).1.mp hc549) (show ¬ ((1 : Int) = (0 : Int)) by decide)) (fun _ => ?_)
    refine own_run SA9 C [.aload 16, .iconst 1, .iload 22, .iload 28, .iload 4, .iload 5, .iload 9, .iload 10] (pc' := 567) (Ls' := #[.val (.int x0), .val (.int x1), .val (.int x2), .val (.int x3), .val (.int sv), .val (.int (Int32.ofNat E0)), .val (.int (Int32.ofNat N1)), .val (.int (Int32.ofNat N2)), .val (.int nv), .val (.int (Int32.ofNat E1)), .val (.int (Int32.ofNat E2)), .val (.ref fa), .val (.int (Int32.ofNat L1)), .val (.int (Int32.ofNat L2)), .val (.ref ra), .val (.ref rb), .val (.ref rc), .val (.ref rd), .val (.int (Int32.ofNat (E0 + E1 + E2))), .val (.ref ob), .val (.int (Int32.ofNat o1.length)), .val (.int (Int32.ofNat o2.length)), .val (.int (Int32.ofNat o3.length)), .val (.int (Int32.ofNat 0)), .val (.int (Int32.ofNat o1.length)), .val (.int (Int32.ofNat o2.length)), .val (.int (Int32.ofNat o3.length)), .val (.int (1 : Int32)), .val (.int (Int32.ofNat (o1.length + o2.length)))]) (st' := [(.int (Int32.ofNat E2)), (.int (Int32.ofNat E1)), (.int (Int32.ofNat E0)), (.int sv), (.int (Int32.ofNat (o1.length + o2.length))), (.int (Int32.ofNat o3.length)), (.int (1 : Int32)), (.ref rc)]) (by decide +kernel) rfl ?_
    refine own_callS SA9 C (y := (⟨"com/example/holdfast/holdfast/fill/UnitOrderNextPinLaw", "at", "([IIIIIIII)Z"⟩ : MethodName)) (hw _ (List.mem_of_getElem? (i := 37) rfl)) (hw _ (List.mem_of_getElem? (i := 38) rfl)) (hw _ (List.mem_of_getElem? (i := 9) rfl)) (hw _ (List.mem_of_getElem? (i := 39) rfl)) (by decide) (rm_at l Z a0 hw [] rc (1 : Int32) (Int32.ofNat o3.length) (Int32.ofNat (o1.length + o2.length)) sv (Int32.ofNat E0) (Int32.ofNat E1) (Int32.ofNat E2) hV3 n0 SA9.size (o3.map (own_u sv) ++ List.replicate (12 - o3.length) (0 : Int32)) A31 (B3 1 (by decide))) 0 (by decide) (by decide) (ps := [(.array .int), .int, .int, .int, .int, .int, .int, .int]) (r := (some .boolean)) (by decide +kernel) [(.ref rc), (.int (1 : Int32)), (.int (Int32.ofNat o3.length)), (.int (Int32.ofNat (o1.length + o2.length))), (.int sv), (.int (Int32.ofNat E0)), (.int (Int32.ofNat E1)), (.int (Int32.ofNat E2))] [] rfl rfl rfl (Nat.le_of_eq rfl) rfl (by decide +kernel) (by decide) (by decide) (fun v TA10 hA10 SA10 q => ?_)
    obtain ⟨rfl, ha10⟩ := q
    rw [ha10] at SA10
    show Con p e below _ (mkF m 570 #[.val (.int x0), .val (.int x1), .val (.int x2), .val (.int x3), .val (.int sv), .val (.int (Int32.ofNat E0)), .val (.int (Int32.ofNat N1)), .val (.int (Int32.ofNat N2)), .val (.int nv), .val (.int (Int32.ofNat E1)), .val (.int (Int32.ofNat E2)), .val (.ref fa), .val (.int (Int32.ofNat L1)), .val (.int (Int32.ofNat L2)), .val (.ref ra), .val (.ref rb), .val (.ref rc), .val (.ref rd), .val (.int (Int32.ofNat (E0 + E1 + E2))), .val (.ref ob), .val (.int (Int32.ofNat o1.length)), .val (.int (Int32.ofNat o2.length)), .val (.int (Int32.ofNat o3.length)), .val (.int (Int32.ofNat 0)), .val (.int (Int32.ofNat o1.length)), .val (.int (Int32.ofNat o2.length)), .val (.int (Int32.ofNat o3.length)), .val (.int (1 : Int32)), .val (.int (Int32.ofNat (o1.length + o2.length)))] [(.int (1 : Int32))]) _
    refine own_if SA10 C (cd := .eq) (o := 223) (by decide +kernel) (pc' := 793) ⟨by decide, by decide⟩ (fun hc570 => absurd ((hh_eq).1.mp hc570) (show ¬ ((1 : Int) = (0 : Int)) by decide)) (fun _ => ?_)
    refine own_run SA10 C [.aload 16, .iconst 2, .iload 22, .iload 28, .iload 4, .iload 5, .iload 9, .iload 10] (pc' := 588) (Ls' := #[.val (.int x0), .val (.int x1), .val (.int x2), .val (.int x3), .val (.int sv), .val (.int (Int32.ofNat E0)), .val (.int (Int32.ofNat N1)), .val (.int (Int32.ofNat N2)), .val (.int nv), .val (.int (Int32.ofNat E1)), .val (.int (Int32.ofNat E2)), .val (.ref fa), .val (.int (Int32.ofNat L1)), .val (.int (Int32.ofNat L2)), .val (.ref ra), .val (.ref rb), .val (.ref rc), .val (.ref rd), .val (.int (Int32.ofNat (E0 + E1 + E2))), .val (.ref ob), .val (.int (Int32.ofNat o1.length)), .val (.int (Int32.ofNat o2.length)), .val (.int (Int32.ofNat o3.length)), .val (.int (Int32.ofNat 0)), .val (.int (Int32.ofNat o1.length)), .val (.int (Int32.ofNat o2.length)), .val (.int (Int32.ofNat o3.length)), .val (.int (1 : Int32)), .val (.int (Int32.ofNat (o1.length + o2.length)))]) (st' := [(.int (Int32.ofNat E2)), (.int (Int32.ofNat E1)), (.int (Int32.ofNat E0)), (.int sv), (.int (Int32.ofNat (o1.length + o2.length))), (.int (Int32.ofNat o3.length)), (.int (2 : Int32)), (.ref rc)]) (by decide +kernel) rfl ?_
    refine own_callS SA10 C (y := (⟨"com/example/holdfast/holdfast/fill/UnitOrderNextPinLaw", "at", "([IIIIIIII)Z"⟩ : MethodName)) (hw _ (List.mem_of_getElem? (i := 37) rfl)) (hw _ (List.mem_of_getElem? (i := 38) rfl)) (hw _ (List.mem_of_getElem? (i := 9) rfl)) (hw _ (List.mem_of_getElem? (i := 39) rfl)) (by decide) (rm_at l Z a0 hw [] rc (2 : Int32) (Int32.ofNat o3.length) (Int32.ofNat (o1.length + o2.length)) sv (Int32.ofNat E0) (Int32.ofNat E1) (Int32.ofNat E2) hV3 n0 SA10.size (o3.map (own_u sv) ++ List.replicate (12 - o3.length) (0 : Int32)) A31 (B3 2 (by decide))) 0 (by decide) (by decide) (ps := [(.array .int), .int, .int, .int, .int, .int, .int, .int]) (r := (some .boolean)) (by decide +kernel) [(.ref rc), (.int (2 : Int32)), (.int (Int32.ofNat o3.length)), (.int (Int32.ofNat (o1.length + o2.length))), (.int sv), (.int (Int32.ofNat E0)), (.int (Int32.ofNat E1)), (.int (Int32.ofNat E2))] [] rfl rfl rfl (Nat.le_of_eq rfl) rfl (by decide +kernel) (by decide) (by decide) (fun v TA11 hA11 SA11 q => ?_)
    obtain ⟨rfl, ha11⟩ := q
    rw [ha11] at SA11
    show Con p e below _ (mkF m 591 #[.val (.int x0), .val (.int x1), .val (.int x2), .val (.int x3), .val (.int sv), .val (.int (Int32.ofNat E0)), .val (.int (Int32.ofNat N1)), .val (.int (Int32.ofNat N2)), .val (.int nv), .val (.int (Int32.ofNat E1)), .val (.int (Int32.ofNat E2)), .val (.ref fa), .val (.int (Int32.ofNat L1)), .val (.int (Int32.ofNat L2)), .val (.ref ra), .val (.ref rb), .val (.ref rc), .val (.ref rd), .val (.int (Int32.ofNat (E0 + E1 + E2))), .val (.ref ob), .val (.int (Int32.ofNat o1.length)), .val (.int (Int32.ofNat o2.length)), .val (.int (Int32.ofNat o3.length)), .val (.int (Int32.ofNat 0)), .val (.int (Int32.ofNat o1.length)), .val (.int (Int32.ofNat o2.length)), .val (.int (Int32.ofNat o3.length)), .val (.int (1 : Int32)), .val (.int (Int32.ofNat (o1.length + o2.length)))] [(.int (1 : Int32))]) _
    refine own_if SA11 C (cd := .eq) (o := 202) (by decide +kernel) (pc' := 793) ⟨by decide, by decide⟩ (fun hc591 => absurd ((hh_eq).1.mp hc591) (show ¬ ((1 : Int) = (0 : Int)) by decide)) (fun _ => ?_)
    refine own_run SA11 C [.aload 16, .iconst 3, .iload 22, .iload 28, .iload 4, .iload 5, .iload 9, .iload 10] (pc' := 609) (Ls' := #[.val (.int x0), .val (.int x1), .val (.int x2), .val (.int x3), .val (.int sv), .val (.int (Int32.ofNat E0)), .val (.int (Int32.ofNat N1)), .val (.int (Int32.ofNat N2)), .val (.int nv), .val (.int (Int32.ofNat E1)), .val (.int (Int32.ofNat E2)), .val (.ref fa), .val (.int (Int32.ofNat L1)), .val (.int (Int32.ofNat L2)), .val (.ref ra), .val (.ref rb), .val (.ref rc), .val (.ref rd), .val (.int (Int32.ofNat (E0 + E1 + E2))), .val (.ref ob), .val (.int (Int32.ofNat o1.length)), .val (.int (Int32.ofNat o2.length)), .val (.int (Int32.ofNat o3.length)), .val (.int (Int32.ofNat 0)), .val (.int (Int32.ofNat o1.length)), .val (.int (Int32.ofNat o2.length)), .val (.int (Int32.ofNat o3.length)), .val (.int (1 : Int32)), .val (.int (Int32.ofNat (o1.length + o2.length)))]) (st' := [(.int (Int32.ofNat E2)), (.int (Int32.ofNat E1)), (.int (Int32.ofNat E0)), (.int sv), (.int (Int32.ofNat (o1.length + o2.length))), (.int (Int32.ofNat o3.length)), (.int (3 : Int32)), (.ref rc)]) (by decide +kernel) rfl ?_
    refine own_callS SA11 C (y := (⟨"com/example/holdfast/holdfast/fill/UnitOrderNextPinLaw", "at", "([IIIIIIII)Z"⟩ : MethodName)) (hw _ (List.mem_of_getElem? (i := 37) rfl)) (hw _ (List.mem_of_getElem? (i := 38) rfl)) (hw _ (List.mem_of_getElem? (i := 9) rfl)) (hw _ (List.mem_of_getElem? (i := 39) rfl)) (by decide) (rm_at l Z a0 hw [] rc (3 : Int32) (Int32.ofNat o3.length) (Int32.ofNat (o1.length + o2.length)) sv (Int32.ofNat E0) (Int32.ofNat E1) (Int32.ofNat E2) hV3 n0 SA11.size (o3.map (own_u sv) ++ List.replicate (12 - o3.length) (0 : Int32)) A31 (B3 3 (by decide))) 0 (by decide) (by decide) (ps := [(.array .int), .int, .int, .int, .int, .int, .int, .int]) (r := (some .boolean)) (by decide +kernel) [(.ref rc), (.int (3 : Int32)), (.int (Int32.ofNat o3.length)), (.int (Int32.ofNat (o1.length + o2.length))), (.int sv), (.int (Int32.ofNat E0)), (.int (Int32.ofNat E1)), (.int (Int32.ofNat E2))] [] rfl rfl rfl (Nat.le_of_eq rfl) rfl (by decide +kernel) (by decide) (by decide) (fun v TA12 hA12 SA12 q => ?_)
    obtain ⟨rfl, ha12⟩ := q
    rw [ha12] at SA12
    show Con p e below _ (mkF m 612 #[.val (.int x0), .val (.int x1), .val (.int x2), .val (.int x3), .val (.int sv), .val (.int (Int32.ofNat E0)), .val (.int (Int32.ofNat N1)), .val (.int (Int32.ofNat N2)), .val (.int nv), .val (.int (Int32.ofNat E1)), .val (.int (Int32.ofNat E2)), .val (.ref fa), .val (.int (Int32.ofNat L1)), .val (.int (Int32.ofNat L2)), .val (.ref ra), .val (.ref rb), .val (.ref rc), .val (.ref rd), .val (.int (Int32.ofNat (E0 + E1 + E2))), .val (.ref ob), .val (.int (Int32.ofNat o1.length)), .val (.int (Int32.ofNat o2.length)), .val (.int (Int32.ofNat o3.length)), .val (.int (Int32.ofNat 0)), .val (.int (Int32.ofNat o1.length)), .val (.int (Int32.ofNat o2.length)), .val (.int (Int32.ofNat o3.length)), .val (.int (1 : Int32)), .val (.int (Int32.ofNat (o1.length + o2.length)))] [(.int (1 : Int32))]) _
    refine own_if SA12 C (cd := .eq) (o := 181) (by decide +kernel) (pc' := 793) ⟨by decide, by decide⟩ (fun hc612 => absurd ((hh_eq).1.mp hc612) (show ¬ ((1 : Int) = (0 : Int)) by decide)) (fun _ => ?_)
    refine own_run SA12 C [.aload 16, .iconst 4, .iload 22, .iload 28, .iload 4, .iload 5, .iload 9, .iload 10] (pc' := 630) (Ls' := #[.val (.int x0), .val (.int x1), .val (.int x2), .val (.int x3), .val (.int sv), .val (.int (Int32.ofNat E0)), .val (.int (Int32.ofNat N1)), .val (.int (Int32.ofNat N2)), .val (.int nv), .val (.int (Int32.ofNat E1)), .val (.int (Int32.ofNat E2)), .val (.ref fa), .val (.int (Int32.ofNat L1)), .val (.int (Int32.ofNat L2)), .val (.ref ra), .val (.ref rb), .val (.ref rc), .val (.ref rd), .val (.int (Int32.ofNat (E0 + E1 + E2))), .val (.ref ob), .val (.int (Int32.ofNat o1.length)), .val (.int (Int32.ofNat o2.length)), .val (.int (Int32.ofNat o3.length)), .val (.int (Int32.ofNat 0)), .val (.int (Int32.ofNat o1.length)), .val (.int (Int32.ofNat o2.length)), .val (.int (Int32.ofNat o3.length)), .val (.int (1 : Int32)), .val (.int (Int32.ofNat (o1.length + o2.length)))]) (st' := [(.int (Int32.ofNat E2)), (.int (Int32.ofNat E1)), (.int (Int32.ofNat E0)), (.int sv), (.int (Int32.ofNat (o1.length + o2.length))), (.int (Int32.ofNat o3.length)), (.int (4 : Int32)), (.ref rc)]) (by decide +kernel) rfl ?_
    refine own_callS SA12 C (y := (⟨"com/example/holdfast/holdfast/fill/UnitOrderNextPinLaw", "at", "([IIIIIIII)Z"⟩ : MethodName)) (hw _ (List.mem_of_getElem? (i := 37) rfl)) (hw _ (List.mem_of_getElem? (i := 38) rfl)) (hw _ (List.mem_of_getElem? (i := 9) rfl)) (hw _ (List.mem_of_getElem? (i := 39) rfl)) (by decide) (rm_at l Z a0 hw [] rc (4 : Int32) (Int32.ofNat o3.length) (Int32.ofNat (o1.length + o2.length)) sv (Int32.ofNat E0) (Int32.ofNat E1) (Int32.ofNat E2) hV3 n0 SA12.size (o3.map (own_u sv) ++ List.replicate (12 - o3.length) (0 : Int32)) A31 (B3 4 (by decide))) 0 (by decide) (by decide) (ps := [(.array .int), .int, .int, .int, .int, .int, .int, .int]) (r := (some .boolean)) (by decide +kernel) [(.ref rc), (.int (4 : Int32)), (.int (Int32.ofNat o3.length)), (.int (Int32.ofNat (o1.length + o2.length))), (.int sv), (.int (Int32.ofNat E0)), (.int (Int32.ofNat E1)), (.int (Int32.ofNat E2))] [] rfl rfl rfl (Nat.le_of_eq rfl) rfl (by decide +kernel) (by decide) (by decide) (fun v TA13 hA13 SA13 q => ?_)
    obtain ⟨rfl, ha13⟩ := q
    rw [ha13] at SA13
    show Con p e below _ (mkF m 633 #[.val (.int x0), .val (.int x1), .val (.int x2), .val (.int x3), .val (.int sv), .val (.int (Int32.ofNat E0)), .val (.int (Int32.ofNat N1)), .val (.int (Int32.ofNat N2)), .val (.int nv), .val (.int (Int32.ofNat E1)), .val (.int (Int32.ofNat E2)), .val (.ref fa), .val (.int (Int32.ofNat L1)), .val (.int (Int32.ofNat L2)), .val (.ref ra), .val (.ref rb), .val (.ref rc), .val (.ref rd), .val (.int (Int32.ofNat (E0 + E1 + E2))), .val (.ref ob), .val (.int (Int32.ofNat o1.length)), .val (.int (Int32.ofNat o2.length)), .val (.int (Int32.ofNat o3.length)), .val (.int (Int32.ofNat 0)), .val (.int (Int32.ofNat o1.length)), .val (.int (Int32.ofNat o2.length)), .val (.int (Int32.ofNat o3.length)), .val (.int (1 : Int32)), .val (.int (Int32.ofNat (o1.length + o2.length)))] [(.int (1 : Int32))]) _
    refine own_if SA13 C (cd := .eq) (o := 160) (by decide +kernel) (pc' := 793) ⟨by decide, by decide⟩ (fun hc633 => absurd ((hh_eq).1.mp hc633) (show ¬ ((1 : Int) = (0 : Int)) by decide)) (fun _ => ?_)
    refine own_run SA13 C [.aload 16, .iconst 5, .iload 22, .iload 28, .iload 4, .iload 5, .iload 9, .iload 10] (pc' := 651) (Ls' := #[.val (.int x0), .val (.int x1), .val (.int x2), .val (.int x3), .val (.int sv), .val (.int (Int32.ofNat E0)), .val (.int (Int32.ofNat N1)), .val (.int (Int32.ofNat N2)), .val (.int nv), .val (.int (Int32.ofNat E1)), .val (.int (Int32.ofNat E2)), .val (.ref fa), .val (.int (Int32.ofNat L1)), .val (.int (Int32.ofNat L2)), .val (.ref ra), .val (.ref rb), .val (.ref rc), .val (.ref rd), .val (.int (Int32.ofNat (E0 + E1 + E2))), .val (.ref ob), .val (.int (Int32.ofNat o1.length)), .val (.int (Int32.ofNat o2.length)), .val (.int (Int32.ofNat o3.length)), .val (.int (Int32.ofNat 0)), .val (.int (Int32.ofNat o1.length)), .val (.int (Int32.ofNat o2.length)), .val (.int (Int32.ofNat o3.length)), .val (.int (1 : Int32)), .val (.int (Int32.ofNat (o1.length + o2.length)))]) (st' := [(.int (Int32.ofNat E2)), (.int (Int32.ofNat E1)), (.int (Int32.ofNat E0)), (.int sv), (.int (Int32.ofNat (o1.length + o2.length))), (.int (Int32.ofNat o3.length)), (.int (5 : Int32)), (.ref rc)]) (by decide +kernel) rfl ?_
    refine own_callS SA13 C (y := (⟨"com/example/holdfast/holdfast/fill/UnitOrderNextPinLaw", "at", "([IIIIIIII)Z"⟩ : MethodName)) (hw _ (List.mem_of_getElem? (i := 37) rfl)) (hw _ (List.mem_of_getElem? (i := 38) rfl)) (hw _ (List.mem_of_getElem? (i := 9) rfl)) (hw _ (List.mem_of_getElem? (i := 39) rfl)) (by decide) (rm_at l Z a0 hw [] rc (5 : Int32) (Int32.ofNat o3.length) (Int32.ofNat (o1.length + o2.length)) sv (Int32.ofNat E0) (Int32.ofNat E1) (Int32.ofNat E2) hV3 n0 SA13.size (o3.map (own_u sv) ++ List.replicate (12 - o3.length) (0 : Int32)) A31 (B3 5 (by decide))) 0 (by decide) (by decide) (ps := [(.array .int), .int, .int, .int, .int, .int, .int, .int]) (r := (some .boolean)) (by decide +kernel) [(.ref rc), (.int (5 : Int32)), (.int (Int32.ofNat o3.length)), (.int (Int32.ofNat (o1.length + o2.length))), (.int sv), (.int (Int32.ofNat E0)), (.int (Int32.ofNat E1)), (.int (Int32.ofNat E2))] [] rfl rfl rfl (Nat.le_of_eq rfl) rfl (by decide +kernel) (by decide) (by decide) (fun v TA14 hA14 SA14 q => ?_)
    obtain ⟨rfl, ha14⟩ := q
    rw [ha14] at SA14
    show Con p e below _ (mkF m 654 #[.val (.int x0), .val (.int x1), .val (.int x2), .val (.int x3), .val (.int sv), .val (.int (Int32.ofNat E0)), .val (.int (Int32.ofNat N1)), .val (.int (Int32.ofNat N2)), .val (.int nv), .val (.int (Int32.ofNat E1)), .val (.int (Int32.ofNat E2)), .val (.ref fa), .val (.int (Int32.ofNat L1)), .val (.int (Int32.ofNat L2)), .val (.ref ra), .val (.ref rb), .val (.ref rc), .val (.ref rd), .val (.int (Int32.ofNat (E0 + E1 + E2))), .val (.ref ob), .val (.int (Int32.ofNat o1.length)), .val (.int (Int32.ofNat o2.length)), .val (.int (Int32.ofNat o3.length)), .val (.int (Int32.ofNat 0)), .val (.int (Int32.ofNat o1.length)), .val (.int (Int32.ofNat o2.length)), .val (.int (Int32.ofNat o3.length)), .val (.int (1 : Int32)), .val (.int (Int32.ofNat (o1.length + o2.length)))] [(.int (1 : Int32))]) _
    refine own_if SA14 C (cd := .eq) (o := 139) (by decide +kernel) (pc' := 793) ⟨by decide, by decide⟩ (fun hc654 => absurd ((hh_eq).1.mp hc654) (show ¬ ((1 : Int) = (0 : Int)) by decide)) (fun _ => ?_)
    refine own_run SA14 C [.aload 16, .bipush 6, .iload 22, .iload 28, .iload 4, .iload 5, .iload 9, .iload 10] (pc' := 673) (Ls' := #[.val (.int x0), .val (.int x1), .val (.int x2), .val (.int x3), .val (.int sv), .val (.int (Int32.ofNat E0)), .val (.int (Int32.ofNat N1)), .val (.int (Int32.ofNat N2)), .val (.int nv), .val (.int (Int32.ofNat E1)), .val (.int (Int32.ofNat E2)), .val (.ref fa), .val (.int (Int32.ofNat L1)), .val (.int (Int32.ofNat L2)), .val (.ref ra), .val (.ref rb), .val (.ref rc), .val (.ref rd), .val (.int (Int32.ofNat (E0 + E1 + E2))), .val (.ref ob), .val (.int (Int32.ofNat o1.length)), .val (.int (Int32.ofNat o2.length)), .val (.int (Int32.ofNat o3.length)), .val (.int (Int32.ofNat 0)), .val (.int (Int32.ofNat o1.length)), .val (.int (Int32.ofNat o2.length)), .val (.int (Int32.ofNat o3.length)), .val (.int (1 : Int32)), .val (.int (Int32.ofNat (o1.length + o2.length)))]) (st' := [(.int (Int32.ofNat E2)), (.int (Int32.ofNat E1)), (.int (Int32.ofNat E0)), (.int sv), (.int (Int32.ofNat (o1.length + o2.length))), (.int (Int32.ofNat o3.length)), (.int (6 : Int32)), (.ref rc)]) (by decide +kernel) rfl ?_
    refine own_callS SA14 C (y := (⟨"com/example/holdfast/holdfast/fill/UnitOrderNextPinLaw", "at", "([IIIIIIII)Z"⟩ : MethodName)) (hw _ (List.mem_of_getElem? (i := 37) rfl)) (hw _ (List.mem_of_getElem? (i := 38) rfl)) (hw _ (List.mem_of_getElem? (i := 9) rfl)) (hw _ (List.mem_of_getElem? (i := 39) rfl)) (by decide) (rm_at l Z a0 hw [] rc (6 : Int32) (Int32.ofNat o3.length) (Int32.ofNat (o1.length + o2.length)) sv (Int32.ofNat E0) (Int32.ofNat E1) (Int32.ofNat E2) hV3 n0 SA14.size (o3.map (own_u sv) ++ List.replicate (12 - o3.length) (0 : Int32)) A31 (B3 6 (by decide))) 0 (by decide) (by decide) (ps := [(.array .int), .int, .int, .int, .int, .int, .int, .int]) (r := (some .boolean)) (by decide +kernel) [(.ref rc), (.int (6 : Int32)), (.int (Int32.ofNat o3.length)), (.int (Int32.ofNat (o1.length + o2.length))), (.int sv), (.int (Int32.ofNat E0)), (.int (Int32.ofNat E1)), (.int (Int32.ofNat E2))] [] rfl rfl rfl (Nat.le_of_eq rfl) rfl (by decide +kernel) (by decide) (by decide) (fun v TA15 hA15 SA15 q => ?_)
    obtain ⟨rfl, ha15⟩ := q
    rw [ha15] at SA15
    show Con p e below _ (mkF m 676 #[.val (.int x0), .val (.int x1), .val (.int x2), .val (.int x3), .val (.int sv), .val (.int (Int32.ofNat E0)), .val (.int (Int32.ofNat N1)), .val (.int (Int32.ofNat N2)), .val (.int nv), .val (.int (Int32.ofNat E1)), .val (.int (Int32.ofNat E2)), .val (.ref fa), .val (.int (Int32.ofNat L1)), .val (.int (Int32.ofNat L2)), .val (.ref ra), .val (.ref rb), .val (.ref rc), .val (.ref rd), .val (.int (Int32.ofNat (E0 + E1 + E2))), .val (.ref ob), .val (.int (Int32.ofNat o1.length)), .val (.int (Int32.ofNat o2.length)), .val (.int (Int32.ofNat o3.length)), .val (.int (Int32.ofNat 0)), .val (.int (Int32.ofNat o1.length)), .val (.int (Int32.ofNat o2.length)), .val (.int (Int32.ofNat o3.length)), .val (.int (1 : Int32)), .val (.int (Int32.ofNat (o1.length + o2.length)))] [(.int (1 : Int32))]) _
    refine own_if SA15 C (cd := .eq) (o := 117) (by decide +kernel) (pc' := 793) ⟨by decide, by decide⟩ (fun hc676 => absurd ((hh_eq).1.mp hc676) (show ¬ ((1 : Int) = (0 : Int)) by decide)) (fun _ => ?_)
    refine own_run SA15 C [.aload 16, .bipush 7, .iload 22, .iload 28, .iload 4, .iload 5, .iload 9, .iload 10] (pc' := 695) (Ls' := #[.val (.int x0), .val (.int x1), .val (.int x2), .val (.int x3), .val (.int sv), .val (.int (Int32.ofNat E0)), .val (.int (Int32.ofNat N1)), .val (.int (Int32.ofNat N2)), .val (.int nv), .val (.int (Int32.ofNat E1)), .val (.int (Int32.ofNat E2)), .val (.ref fa), .val (.int (Int32.ofNat L1)), .val (.int (Int32.ofNat L2)), .val (.ref ra), .val (.ref rb), .val (.ref rc), .val (.ref rd), .val (.int (Int32.ofNat (E0 + E1 + E2))), .val (.ref ob), .val (.int (Int32.ofNat o1.length)), .val (.int (Int32.ofNat o2.length)), .val (.int (Int32.ofNat o3.length)), .val (.int (Int32.ofNat 0)), .val (.int (Int32.ofNat o1.length)), .val (.int (Int32.ofNat o2.length)), .val (.int (Int32.ofNat o3.length)), .val (.int (1 : Int32)), .val (.int (Int32.ofNat (o1.length + o2.length)))]) (st' := [(.int (Int32.ofNat E2)), (.int (Int32.ofNat E1)), (.int (Int32.ofNat E0)), (.int sv), (.int (Int32.ofNat (o1.length + o2.length))), (.int (Int32.ofNat o3.length)), (.int (7 : Int32)), (.ref rc)]) (by decide +kernel) rfl ?_
    refine own_callS SA15 C (y := (⟨"com/example/holdfast/holdfast/fill/UnitOrderNextPinLaw", "at", "([IIIIIIII)Z"⟩ : MethodName)) (hw _ (List.mem_of_getElem? (i := 37) rfl)) (hw _ (List.mem_of_getElem? (i := 38) rfl)) (hw _ (List.mem_of_getElem? (i := 9) rfl)) (hw _ (List.mem_of_getElem? (i := 39) rfl)) (by decide) (rm_at l Z a0 hw [] rc (7 : Int32) (Int32.ofNat o3.length) (Int32.ofNat (o1.length + o2.length)) sv (Int32.ofNat E0) (Int32.ofNat E1) (Int32.ofNat E2) hV3 n0 SA15.size (o3.map (own_u sv) ++ List.replicate (12 - o3.length) (0 : Int32)) A31 (B3 7 (by decide))) 0 (by decide) (by decide) (ps := [(.array .int), .int, .int, .int, .int, .int, .int, .int]) (r := (some .boolean)) (by decide +kernel) [(.ref rc), (.int (7 : Int32)), (.int (Int32.ofNat o3.length)), (.int (Int32.ofNat (o1.length + o2.length))), (.int sv), (.int (Int32.ofNat E0)), (.int (Int32.ofNat E1)), (.int (Int32.ofNat E2))] [] rfl rfl rfl (Nat.le_of_eq rfl) rfl (by decide +kernel) (by decide) (by decide) (fun v TA16 hA16 SA16 q => ?_)
    obtain ⟨rfl, ha16⟩ := q
    rw [ha16] at SA16
    show Con p e below _ (mkF m 698 #[.val (.int x0), .val (.int x1), .val (.int x2), .val (.int x3), .val (.int sv), .val (.int (Int32.ofNat E0)), .val (.int (Int32.ofNat N1)), .val (.int (Int32.ofNat N2)), .val (.int nv), .val (.int (Int32.ofNat E1)), .val (.int (Int32.ofNat E2)), .val (.ref fa), .val (.int (Int32.ofNat L1)), .val (.int (Int32.ofNat L2)), .val (.ref ra), .val (.ref rb), .val (.ref rc), .val (.ref rd), .val (.int (Int32.ofNat (E0 + E1 + E2))), .val (.ref ob), .val (.int (Int32.ofNat o1.length)), .val (.int (Int32.ofNat o2.length)), .val (.int (Int32.ofNat o3.length)), .val (.int (Int32.ofNat 0)), .val (.int (Int32.ofNat o1.length)), .val (.int (Int32.ofNat o2.length)), .val (.int (Int32.ofNat o3.length)), .val (.int (1 : Int32)), .val (.int (Int32.ofNat (o1.length + o2.length)))] [(.int (1 : Int32))]) _
    refine own_if SA16 C (cd := .eq) (o := 95) (by decide +kernel) (pc' := 793) ⟨by decide, by decide⟩ (fun hc698 => absurd ((hh_eq).1.mp hc698) (show ¬ ((1 : Int) = (0 : Int)) by decide)) (fun _ => ?_)
    refine own_run SA16 C [.aload 16, .bipush 8, .iload 22, .iload 28, .iload 4, .iload 5, .iload 9, .iload 10] (pc' := 717) (Ls' := #[.val (.int x0), .val (.int x1), .val (.int x2), .val (.int x3), .val (.int sv), .val (.int (Int32.ofNat E0)), .val (.int (Int32.ofNat N1)), .val (.int (Int32.ofNat N2)), .val (.int nv), .val (.int (Int32.ofNat E1)), .val (.int (Int32.ofNat E2)), .val (.ref fa), .val (.int (Int32.ofNat L1)), .val (.int (Int32.ofNat L2)), .val (.ref ra), .val (.ref rb), .val (.ref rc), .val (.ref rd), .val (.int (Int32.ofNat (E0 + E1 + E2))), .val (.ref ob), .val (.int (Int32.ofNat o1.length)), .val (.int (Int32.ofNat o2.length)), .val (.int (Int32.ofNat o3.length)), .val (.int (Int32.ofNat 0)), .val (.int (Int32.ofNat o1.length)), .val (.int (Int32.ofNat o2.length)), .val (.int (Int32.ofNat o3.length)), .val (.int (1 : Int32)), .val (.int (Int32.ofNat (o1.length + o2.length)))]) (st' := [(.int (Int32.ofNat E2)), (.int (Int32.ofNat E1)), (.int (Int32.ofNat E0)), (.int sv), (.int (Int32.ofNat (o1.length + o2.length))), (.int (Int32.ofNat o3.length)), (.int (8 : Int32)), (.ref rc)]) (by decide +kernel) rfl ?_
    refine own_callS SA16 C (y := (⟨"com/example/holdfast/holdfast/fill/UnitOrderNextPinLaw", "at", "([IIIIIIII)Z"⟩ : MethodName)) (hw _ (List.mem_of_getElem? (i := 37) rfl)) (hw _ (List.mem_of_getElem? (i := 38) rfl)) (hw _ (List.mem_of_getElem? (i := 9) rfl)) (hw _ (List.mem_of_getElem? (i := 39) rfl)) (by decide) (rm_at l Z a0 hw [] rc (8 : Int32) (Int32.ofNat o3.length) (Int32.ofNat (o1.length + o2.length)) sv (Int32.ofNat E0) (Int32.ofNat E1) (Int32.ofNat E2) hV3 n0 SA16.size (o3.map (own_u sv) ++ List.replicate (12 - o3.length) (0 : Int32)) A31 (B3 8 (by decide))) 0 (by decide) (by decide) (ps := [(.array .int), .int, .int, .int, .int, .int, .int, .int]) (r := (some .boolean)) (by decide +kernel) [(.ref rc), (.int (8 : Int32)), (.int (Int32.ofNat o3.length)), (.int (Int32.ofNat (o1.length + o2.length))), (.int sv), (.int (Int32.ofNat E0)), (.int (Int32.ofNat E1)), (.int (Int32.ofNat E2))] [] rfl rfl rfl (Nat.le_of_eq rfl) rfl (by decide +kernel) (by decide) (by decide) (fun v TA17 hA17 SA17 q => ?_)
    obtain ⟨rfl, ha17⟩ := q
    rw [ha17] at SA17
    show Con p e below _ (mkF m 720 #[.val (.int x0), .val (.int x1), .val (.int x2), .val (.int x3), .val (.int sv), .val (.int (Int32.ofNat E0)), .val (.int (Int32.ofNat N1)), .val (.int (Int32.ofNat N2)), .val (.int nv), .val (.int (Int32.ofNat E1)), .val (.int (Int32.ofNat E2)), .val (.ref fa), .val (.int (Int32.ofNat L1)), .val (.int (Int32.ofNat L2)), .val (.ref ra), .val (.ref rb), .val (.ref rc), .val (.ref rd), .val (.int (Int32.ofNat (E0 + E1 + E2))), .val (.ref ob), .val (.int (Int32.ofNat o1.length)), .val (.int (Int32.ofNat o2.length)), .val (.int (Int32.ofNat o3.length)), .val (.int (Int32.ofNat 0)), .val (.int (Int32.ofNat o1.length)), .val (.int (Int32.ofNat o2.length)), .val (.int (Int32.ofNat o3.length)), .val (.int (1 : Int32)), .val (.int (Int32.ofNat (o1.length + o2.length)))] [(.int (1 : Int32))]) _
    refine own_if SA17 C (cd := .eq) (o := 73) (by decide +kernel) (pc' := 793) ⟨by decide, by decide⟩ (fun hc720 => absurd ((hh_eq).1.mp hc720) (show ¬ ((1 : Int) = (0 : Int)) by decide)) (fun _ => ?_)
    refine own_run SA17 C [.aload 16, .bipush 9, .iload 22, .iload 28, .iload 4, .iload 5, .iload 9, .iload 10] (pc' := 739) (Ls' := #[.val (.int x0), .val (.int x1), .val (.int x2), .val (.int x3), .val (.int sv), .val (.int (Int32.ofNat E0)), .val (.int (Int32.ofNat N1)), .val (.int (Int32.ofNat N2)), .val (.int nv), .val (.int (Int32.ofNat E1)), .val (.int (Int32.ofNat E2)), .val (.ref fa), .val (.int (Int32.ofNat L1)), .val (.int (Int32.ofNat L2)), .val (.ref ra), .val (.ref rb), .val (.ref rc), .val (.ref rd), .val (.int (Int32.ofNat (E0 + E1 + E2))), .val (.ref ob), .val (.int (Int32.ofNat o1.length)), .val (.int (Int32.ofNat o2.length)), .val (.int (Int32.ofNat o3.length)), .val (.int (Int32.ofNat 0)), .val (.int (Int32.ofNat o1.length)), .val (.int (Int32.ofNat o2.length)), .val (.int (Int32.ofNat o3.length)), .val (.int (1 : Int32)), .val (.int (Int32.ofNat (o1.length + o2.length)))]) (st' := [(.int (Int32.ofNat E2)), (.int (Int32.ofNat E1)), (.int (Int32.ofNat E0)), (.int sv), (.int (Int32.ofNat (o1.length + o2.length))), (.int (Int32.ofNat o3.length)), (.int (9 : Int32)), (.ref rc)]) (by decide +kernel) rfl ?_
    refine own_callS SA17 C (y := (⟨"com/example/holdfast/holdfast/fill/UnitOrderNextPinLaw", "at", "([IIIIIIII)Z"⟩ : MethodName)) (hw _ (List.mem_of_getElem? (i := 37) rfl)) (hw _ (List.mem_of_getElem? (i := 38) rfl)) (hw _ (List.mem_of_getElem? (i := 9) rfl)) (hw _ (List.mem_of_getElem? (i := 39) rfl)) (by decide) (rm_at l Z a0 hw [] rc (9 : Int32) (Int32.ofNat o3.length) (Int32.ofNat (o1.length + o2.length)) sv (Int32.ofNat E0) (Int32.ofNat E1) (Int32.ofNat E2) hV3 n0 SA17.size (o3.map (own_u sv) ++ List.replicate (12 - o3.length) (0 : Int32)) A31 (B3 9 (by decide))) 0 (by decide) (by decide) (ps := [(.array .int), .int, .int, .int, .int, .int, .int, .int]) (r := (some .boolean)) (by decide +kernel) [(.ref rc), (.int (9 : Int32)), (.int (Int32.ofNat o3.length)), (.int (Int32.ofNat (o1.length + o2.length))), (.int sv), (.int (Int32.ofNat E0)), (.int (Int32.ofNat E1)), (.int (Int32.ofNat E2))] [] rfl rfl rfl (Nat.le_of_eq rfl) rfl (by decide +kernel) (by decide) (by decide) (fun v TA18 hA18 SA18 q => ?_)
    obtain ⟨rfl, ha18⟩ := q
    rw [ha18] at SA18
    show Con p e below _ (mkF m 742 #[.val (.int x0), .val (.int x1), .val (.int x2), .val (.int x3), .val (.int sv), .val (.int (Int32.ofNat E0)), .val (.int (Int32.ofNat N1)), .val (.int (Int32.ofNat N2)), .val (.int nv), .val (.int (Int32.ofNat E1)), .val (.int (Int32.ofNat E2)), .val (.ref fa), .val (.int (Int32.ofNat L1)), .val (.int (Int32.ofNat L2)), .val (.ref ra), .val (.ref rb), .val (.ref rc), .val (.ref rd), .val (.int (Int32.ofNat (E0 + E1 + E2))), .val (.ref ob), .val (.int (Int32.ofNat o1.length)), .val (.int (Int32.ofNat o2.length)), .val (.int (Int32.ofNat o3.length)), .val (.int (Int32.ofNat 0)), .val (.int (Int32.ofNat o1.length)), .val (.int (Int32.ofNat o2.length)), .val (.int (Int32.ofNat o3.length)), .val (.int (1 : Int32)), .val (.int (Int32.ofNat (o1.length + o2.length)))] [(.int (1 : Int32))]) _
    refine own_if SA18 C (cd := .eq) (o := 51) (by decide +kernel) (pc' := 793) ⟨by decide, by decide⟩ (fun hc742 => absurd ((hh_eq).1.mp hc742) (show ¬ ((1 : Int) = (0 : Int)) by decide)) (fun _ => ?_)
    refine own_run SA18 C [.aload 16, .bipush 10, .iload 22, .iload 28, .iload 4, .iload 5, .iload 9, .iload 10] (pc' := 761) (Ls' := #[.val (.int x0), .val (.int x1), .val (.int x2), .val (.int x3), .val (.int sv), .val (.int (Int32.ofNat E0)), .val (.int (Int32.ofNat N1)), .val (.int (Int32.ofNat N2)), .val (.int nv), .val (.int (Int32.ofNat E1)), .val (.int (Int32.ofNat E2)), .val (.ref fa), .val (.int (Int32.ofNat L1)), .val (.int (Int32.ofNat L2)), .val (.ref ra), .val (.ref rb), .val (.ref rc), .val (.ref rd), .val (.int (Int32.ofNat (E0 + E1 + E2))), .val (.ref ob), .val (.int (Int32.ofNat o1.length)), .val (.int (Int32.ofNat o2.length)), .val (.int (Int32.ofNat o3.length)), .val (.int (Int32.ofNat 0)), .val (.int (Int32.ofNat o1.length)), .val (.int (Int32.ofNat o2.length)), .val (.int (Int32.ofNat o3.length)), .val (.int (1 : Int32)), .val (.int (Int32.ofNat (o1.length + o2.length)))]) (st' := [(.int (Int32.ofNat E2)), (.int (Int32.ofNat E1)), (.int (Int32.ofNat E0)), (.int sv), (.int (Int32.ofNat (o1.length + o2.length))), (.int (Int32.ofNat o3.length)), (.int (10 : Int32)), (.ref rc)]) (by decide +kernel) rfl ?_
    refine own_callS SA18 C (y := (⟨"com/example/holdfast/holdfast/fill/UnitOrderNextPinLaw", "at", "([IIIIIIII)Z"⟩ : MethodName)) (hw _ (List.mem_of_getElem? (i := 37) rfl)) (hw _ (List.mem_of_getElem? (i := 38) rfl)) (hw _ (List.mem_of_getElem? (i := 9) rfl)) (hw _ (List.mem_of_getElem? (i := 39) rfl)) (by decide) (rm_at l Z a0 hw [] rc (10 : Int32) (Int32.ofNat o3.length) (Int32.ofNat (o1.length + o2.length)) sv (Int32.ofNat E0) (Int32.ofNat E1) (Int32.ofNat E2) hV3 n0 SA18.size (o3.map (own_u sv) ++ List.replicate (12 - o3.length) (0 : Int32)) A31 (B3 10 (by decide))) 0 (by decide) (by decide) (ps := [(.array .int), .int, .int, .int, .int, .int, .int, .int]) (r := (some .boolean)) (by decide +kernel) [(.ref rc), (.int (10 : Int32)), (.int (Int32.ofNat o3.length)), (.int (Int32.ofNat (o1.length + o2.length))), (.int sv), (.int (Int32.ofNat E0)), (.int (Int32.ofNat E1)), (.int (Int32.ofNat E2))] [] rfl rfl rfl (Nat.le_of_eq rfl) rfl (by decide +kernel) (by decide) (by decide) (fun v TA19 hA19 SA19 q => ?_)
    obtain ⟨rfl, ha19⟩ := q
    rw [ha19] at SA19
    show Con p e below _ (mkF m 764 #[.val (.int x0), .val (.int x1), .val (.int x2), .val (.int x3), .val (.int sv), .val (.int (Int32.ofNat E0)), .val (.int (Int32.ofNat N1)), .val (.int (Int32.ofNat N2)), .val (.int nv), .val (.int (Int32.ofNat E1)), .val (.int (Int32.ofNat E2)), .val (.ref fa), .val (.int (Int32.ofNat L1)), .val (.int (Int32.ofNat L2)), .val (.ref ra), .val (.ref rb), .val (.ref rc), .val (.ref rd), .val (.int (Int32.ofNat (E0 + E1 + E2))), .val (.ref ob), .val (.int (Int32.ofNat o1.length)), .val (.int (Int32.ofNat o2.length)), .val (.int (Int32.ofNat o3.length)), .val (.int (Int32.ofNat 0)), .val (.int (Int32.ofNat o1.length)), .val (.int (Int32.ofNat o2.length)), .val (.int (Int32.ofNat o3.length)), .val (.int (1 : Int32)), .val (.int (Int32.ofNat (o1.length + o2.length)))] [(.int (1 : Int32))]) _
    refine own_if SA19 C (cd := .eq) (o := 29) (by decide +kernel) (pc' := 793) ⟨by decide, by decide⟩ (fun hc764 => absurd ((hh_eq).1.mp hc764) (show ¬ ((1 : Int) = (0 : Int)) by decide)) (fun _ => ?_)
    refine own_run SA19 C [.aload 16, .bipush 11, .iload 22, .iload 28, .iload 4, .iload 5, .iload 9, .iload 10] (pc' := 783) (Ls' := #[.val (.int x0), .val (.int x1), .val (.int x2), .val (.int x3), .val (.int sv), .val (.int (Int32.ofNat E0)), .val (.int (Int32.ofNat N1)), .val (.int (Int32.ofNat N2)), .val (.int nv), .val (.int (Int32.ofNat E1)), .val (.int (Int32.ofNat E2)), .val (.ref fa), .val (.int (Int32.ofNat L1)), .val (.int (Int32.ofNat L2)), .val (.ref ra), .val (.ref rb), .val (.ref rc), .val (.ref rd), .val (.int (Int32.ofNat (E0 + E1 + E2))), .val (.ref ob), .val (.int (Int32.ofNat o1.length)), .val (.int (Int32.ofNat o2.length)), .val (.int (Int32.ofNat o3.length)), .val (.int (Int32.ofNat 0)), .val (.int (Int32.ofNat o1.length)), .val (.int (Int32.ofNat o2.length)), .val (.int (Int32.ofNat o3.length)), .val (.int (1 : Int32)), .val (.int (Int32.ofNat (o1.length + o2.length)))]) (st' := [(.int (Int32.ofNat E2)), (.int (Int32.ofNat E1)), (.int (Int32.ofNat E0)), (.int sv), (.int (Int32.ofNat (o1.length + o2.length))), (.int (Int32.ofNat o3.length)), (.int (11 : Int32)), (.ref rc)]) (by decide +kernel) rfl ?_
    refine own_callS SA19 C (y := (⟨"com/example/holdfast/holdfast/fill/UnitOrderNextPinLaw", "at", "([IIIIIIII)Z"⟩ : MethodName)) (hw _ (List.mem_of_getElem? (i := 37) rfl)) (hw _ (List.mem_of_getElem? (i := 38) rfl)) (hw _ (List.mem_of_getElem? (i := 9) rfl)) (hw _ (List.mem_of_getElem? (i := 39) rfl)) (by decide) (rm_at l Z a0 hw [] rc (11 : Int32) (Int32.ofNat o3.length) (Int32.ofNat (o1.length + o2.length)) sv (Int32.ofNat E0) (Int32.ofNat E1) (Int32.ofNat E2) hV3 n0 SA19.size (o3.map (own_u sv) ++ List.replicate (12 - o3.length) (0 : Int32)) A31 (B3 11 (by decide))) 0 (by decide) (by decide) (ps := [(.array .int), .int, .int, .int, .int, .int, .int, .int]) (r := (some .boolean)) (by decide +kernel) [(.ref rc), (.int (11 : Int32)), (.int (Int32.ofNat o3.length)), (.int (Int32.ofNat (o1.length + o2.length))), (.int sv), (.int (Int32.ofNat E0)), (.int (Int32.ofNat E1)), (.int (Int32.ofNat E2))] [] rfl rfl rfl (Nat.le_of_eq rfl) rfl (by decide +kernel) (by decide) (by decide) (fun v TA20 hA20 SA20 q => ?_)
    obtain ⟨rfl, ha20⟩ := q
    rw [ha20] at SA20
    show Con p e below _ (mkF m 786 #[.val (.int x0), .val (.int x1), .val (.int x2), .val (.int x3), .val (.int sv), .val (.int (Int32.ofNat E0)), .val (.int (Int32.ofNat N1)), .val (.int (Int32.ofNat N2)), .val (.int nv), .val (.int (Int32.ofNat E1)), .val (.int (Int32.ofNat E2)), .val (.ref fa), .val (.int (Int32.ofNat L1)), .val (.int (Int32.ofNat L2)), .val (.ref ra), .val (.ref rb), .val (.ref rc), .val (.ref rd), .val (.int (Int32.ofNat (E0 + E1 + E2))), .val (.ref ob), .val (.int (Int32.ofNat o1.length)), .val (.int (Int32.ofNat o2.length)), .val (.int (Int32.ofNat o3.length)), .val (.int (Int32.ofNat 0)), .val (.int (Int32.ofNat o1.length)), .val (.int (Int32.ofNat o2.length)), .val (.int (Int32.ofNat o3.length)), .val (.int (1 : Int32)), .val (.int (Int32.ofNat (o1.length + o2.length)))] [(.int (1 : Int32))]) _
    refine own_if SA20 C (cd := .eq) (o := 7) (by decide +kernel) (pc' := 793) ⟨by decide, by decide⟩ (fun hc786 => absurd ((hh_eq).1.mp hc786) (show ¬ ((1 : Int) = (0 : Int)) by decide)) (fun _ => ?_)
    refine own_run SA20 C [.iconst 1, .goto 4, .istore 27, .iload 27] (pc' := 798) (Ls' := #[.val (.int x0), .val (.int x1), .val (.int x2), .val (.int x3), .val (.int sv), .val (.int (Int32.ofNat E0)), .val (.int (Int32.ofNat N1)), .val (.int (Int32.ofNat N2)), .val (.int nv), .val (.int (Int32.ofNat E1)), .val (.int (Int32.ofNat E2)), .val (.ref fa), .val (.int (Int32.ofNat L1)), .val (.int (Int32.ofNat L2)), .val (.ref ra), .val (.ref rb), .val (.ref rc), .val (.ref rd), .val (.int (Int32.ofNat (E0 + E1 + E2))), .val (.ref ob), .val (.int (Int32.ofNat o1.length)), .val (.int (Int32.ofNat o2.length)), .val (.int (Int32.ofNat o3.length)), .val (.int (Int32.ofNat 0)), .val (.int (Int32.ofNat o1.length)), .val (.int (Int32.ofNat o2.length)), .val (.int (Int32.ofNat o3.length)), .val (.int (1 : Int32)), .val (.int (Int32.ofNat (o1.length + o2.length)))]) (st' := [(.int (1 : Int32))]) (by decide +kernel) rfl ?_
    exact own_retz SA20 C (z' := (1 : Int32)) (by decide) (by decide +kernel) (by decide) (by decide) rfl
  rcases (show nb = 1 ∨ nb = 2 ∨ nb = 3 by omega) with rfl | rfl | rfl
  · skip
    refine own_run SM C [.iload 8, .iconst 2] (pc' := 46) (Ls' := #[.val (.int x0), .val (.int x1), .val (.int x2), .val (.int x3), .val (.int sv), .val (.int (Int32.ofNat E0)), .val (.int (Int32.ofNat N1)), .val (.int (Int32.ofNat N2)), .val (.int (Int32.ofNat 1)), .unset, .unset, .unset, .unset, .unset, .unset, .unset, .unset, .unset, .unset, .unset, .unset, .unset, .unset, .unset, .unset, .unset, .unset, .unset, .unset]) (st' := [(.int (2 : Int32)), (.int (Int32.ofNat 1))]) (by decide +kernel) rfl ?_
    refine own_icmp SM C (cd := .lt) (o := 8) (by decide +kernel) (pc' := 54) ⟨by decide, by decide⟩ (fun _ => ?_) (fun hc46 => absurd ((hh_lt).2.mp hc46) (show ¬ ((Int32.ofNat 1).toInt ≥ (2 : Int)) by decide))
    refine own_run SM C [.iconst 0, .istore 9, .iload 8, .iconst 3] (pc' := 60) (Ls' := #[.val (.int x0), .val (.int x1), .val (.int x2), .val (.int x3), .val (.int sv), .val (.int (Int32.ofNat E0)), .val (.int (Int32.ofNat N1)), .val (.int (Int32.ofNat N2)), .val (.int (Int32.ofNat 1)), .val (.int (0 : Int32)), .unset, .unset, .unset, .unset, .unset, .unset, .unset, .unset, .unset, .unset, .unset, .unset, .unset, .unset, .unset, .unset, .unset, .unset, .unset]) (st' := [(.int (3 : Int32)), (.int (Int32.ofNat 1))]) (by decide +kernel) rfl ?_
    refine own_icmp SM C (cd := .lt) (o := 8) (by decide +kernel) (pc' := 68) ⟨by decide, by decide⟩ (fun _ => ?_) (fun hc60 => absurd ((hh_lt).2.mp hc60) (show ¬ ((Int32.ofNat 1).toInt ≥ (3 : Int)) by decide))
    refine own_run SM C [.iconst 0, .istore 10, .iload 8, .iconst 1] (pc' := 74) (Ls' := #[.val (.int x0), .val (.int x1), .val (.int x2), .val (.int x3), .val (.int sv), .val (.int (Int32.ofNat E0)), .val (.int (Int32.ofNat N1)), .val (.int (Int32.ofNat N2)), .val (.int (Int32.ofNat 1)), .val (.int (0 : Int32)), .val (.int (0 : Int32)), .unset, .unset, .unset, .unset, .unset, .unset, .unset, .unset, .unset, .unset, .unset, .unset, .unset, .unset, .unset, .unset, .unset, .unset]) (st' := [(.int (1 : Int32)), (.int (Int32.ofNat 1))]) (by decide +kernel) rfl ?_
    refine own_icmp SM C (cd := .ne) (o := 24) (by decide +kernel) (pc' := 98) ⟨by decide, by decide⟩ (fun hc74 => absurd ((hh_ne).1.mp hc74) (show ¬ ((Int32.ofNat 1).toInt ≠ (1 : Int)) by decide)) (fun _ => ?_)
    refine own_run SM C [.iconst 2] (pc' := 78) (Ls' := #[.val (.int x0), .val (.int x1), .val (.int x2), .val (.int x3), .val (.int sv), .val (.int (Int32.ofNat E0)), .val (.int (Int32.ofNat N1)), .val (.int (Int32.ofNat N2)), .val (.int (Int32.ofNat 1)), .val (.int (0 : Int32)), .val (.int (0 : Int32)), .unset, .unset, .unset, .unset, .unset, .unset, .unset, .unset, .unset, .unset, .unset, .unset, .unset, .unset, .unset, .unset, .unset, .unset]) (st' := [(.int (2 : Int32))]) (by decide +kernel) rfl ?_
    refine own_newarray SM C (hw _ (List.mem_of_getElem? (i := 5) rfl)) (by decide +kernel) (n := (2 : Int32)) (by decide) 4 (by decide) (by decide) (by decide) (by decide) (vs := [(0 : Int32), (0 : Int32)]) rfl (fun T32 h32 b32 e32 S32 E32 g32 A32 => ?_)
    refine own_run S32 C [.dup, .iconst 0, .iload 4] (pc' := 84) (Ls' := #[.val (.int x0), .val (.int x1), .val (.int x2), .val (.int x3), .val (.int sv), .val (.int (Int32.ofNat E0)), .val (.int (Int32.ofNat N1)), .val (.int (Int32.ofNat N2)), .val (.int (Int32.ofNat 1)), .val (.int (0 : Int32)), .val (.int (0 : Int32)), .unset, .unset, .unset, .unset, .unset, .unset, .unset, .unset, .unset, .unset, .unset, .unset, .unset, .unset, .unset, .unset, .unset, .unset]) (st' := [(.int sv), (.int (0 : Int32)), (.ref b32), (.ref b32)]) (by decide +kernel) rfl ?_
    refine own_iastore S32 C A32 (by decide +kernel) (j := (0 : Int32)) (x := sv) ⟨by decide, (by decide : (0 : Int32).toInt < ((2 : Nat) : Int))⟩ g32 (vs' := [sv, (0 : Int32)]) rfl (fun T33 h33 S33 K33 A33 => ?_)
    refine own_run S33 C [.dup, .iconst 1, .iload 4, .iload 5, .iadd] (pc' := 92) (Ls' := #[.val (.int x0), .val (.int x1), .val (.int x2), .val (.int x3), .val (.int sv), .val (.int (Int32.ofNat E0)), .val (.int (Int32.ofNat N1)), .val (.int (Int32.ofNat N2)), .val (.int (Int32.ofNat 1)), .val (.int (0 : Int32)), .val (.int (0 : Int32)), .unset, .unset, .unset, .unset, .unset, .unset, .unset, .unset, .unset, .unset, .unset, .unset, .unset, .unset, .unset, .unset, .unset, .unset]) (st' := [(.int (sv + (Int32.ofNat E0))), (.int (1 : Int32)), (.ref b32), (.ref b32)]) (by decide +kernel) rfl ?_
    refine own_iastore S33 C A33 (by decide +kernel) (j := (1 : Int32)) (x := (sv + (Int32.ofNat E0))) ⟨by decide, (by decide : (1 : Int32).toInt < ((2 : Nat) : Int))⟩ g32 (vs' := [sv, (sv + (Int32.ofNat E0))]) rfl (fun T34 h34 S34 K34 A34 => ?_)
    refine own_run S34 C [.astore 11, .goto 84] (pc' := 179) (Ls' := #[.val (.int x0), .val (.int x1), .val (.int x2), .val (.int x3), .val (.int sv), .val (.int (Int32.ofNat E0)), .val (.int (Int32.ofNat N1)), .val (.int (Int32.ofNat N2)), .val (.int (Int32.ofNat 1)), .val (.int (0 : Int32)), .val (.int (0 : Int32)), .val (.ref b32), .unset, .unset, .unset, .unset, .unset, .unset, .unset, .unset, .unset, .unset, .unset, .unset, .unset, .unset, .unset, .unset, .unset]) (st' := []) (by decide +kernel) rfl ?_
    refine cont _ 0 0 b32 _ _ ⟨a1, a2, by omega, by omega, by omega⟩ S34 g32 ?_
    have eF : (own_F E0 0 0).map (own_u sv) = [sv, (sv + (Int32.ofNat E0))] := by
      have e0 : own_u sv 0 = sv := by unfold own_u; exact Int32.add_zero sv
      rw [own_F, if_pos rfl]
      simp only [List.map_cons, List.map_nil, e0]
      simp only [own_u, Int32.ofNat_add, Int32.add_assoc]
    rw [eF]; exact A34
  · skip
    refine own_run SM C [.iload 8, .iconst 2] (pc' := 46) (Ls' := #[.val (.int x0), .val (.int x1), .val (.int x2), .val (.int x3), .val (.int sv), .val (.int (Int32.ofNat E0)), .val (.int (Int32.ofNat N1)), .val (.int (Int32.ofNat N2)), .val (.int (Int32.ofNat 2)), .unset, .unset, .unset, .unset, .unset, .unset, .unset, .unset, .unset, .unset, .unset, .unset, .unset, .unset, .unset, .unset, .unset, .unset, .unset, .unset]) (st' := [(.int (2 : Int32)), (.int (Int32.ofNat 2))]) (by decide +kernel) rfl ?_
    refine own_icmp SM C (cd := .lt) (o := 8) (by decide +kernel) (pc' := 54) ⟨by decide, by decide⟩ (fun hc46 => absurd ((hh_lt).1.mp hc46) (show ¬ ((Int32.ofNat 2).toInt < (2 : Int)) by decide)) (fun _ => ?_)
    refine own_run SM C [.iload 6, .goto 4, .istore 9, .iload 8, .iconst 3] (pc' := 60) (Ls' := #[.val (.int x0), .val (.int x1), .val (.int x2), .val (.int x3), .val (.int sv), .val (.int (Int32.ofNat E0)), .val (.int (Int32.ofNat N1)), .val (.int (Int32.ofNat N2)), .val (.int (Int32.ofNat 2)), .val (.int (Int32.ofNat N1)), .unset, .unset, .unset, .unset, .unset, .unset, .unset, .unset, .unset, .unset, .unset, .unset, .unset, .unset, .unset, .unset, .unset, .unset, .unset]) (st' := [(.int (3 : Int32)), (.int (Int32.ofNat 2))]) (by decide +kernel) rfl ?_
    refine own_icmp SM C (cd := .lt) (o := 8) (by decide +kernel) (pc' := 68) ⟨by decide, by decide⟩ (fun _ => ?_) (fun hc60 => absurd ((hh_lt).2.mp hc60) (show ¬ ((Int32.ofNat 2).toInt ≥ (3 : Int)) by decide))
    refine own_run SM C [.iconst 0, .istore 10, .iload 8, .iconst 1] (pc' := 74) (Ls' := #[.val (.int x0), .val (.int x1), .val (.int x2), .val (.int x3), .val (.int sv), .val (.int (Int32.ofNat E0)), .val (.int (Int32.ofNat N1)), .val (.int (Int32.ofNat N2)), .val (.int (Int32.ofNat 2)), .val (.int (Int32.ofNat N1)), .val (.int (0 : Int32)), .unset, .unset, .unset, .unset, .unset, .unset, .unset, .unset, .unset, .unset, .unset, .unset, .unset, .unset, .unset, .unset, .unset, .unset]) (st' := [(.int (1 : Int32)), (.int (Int32.ofNat 2))]) (by decide +kernel) rfl ?_
    refine own_icmp SM C (cd := .ne) (o := 24) (by decide +kernel) (pc' := 98) ⟨by decide, by decide⟩ (fun _ => ?_) (fun hc74 => absurd ((hh_ne).2.mp hc74) (show ¬ ((Int32.ofNat 2).toInt = (1 : Int)) by decide))
    refine own_run SM C [.iload 8, .iconst 2] (pc' := 101) (Ls' := #[.val (.int x0), .val (.int x1), .val (.int x2), .val (.int x3), .val (.int sv), .val (.int (Int32.ofNat E0)), .val (.int (Int32.ofNat N1)), .val (.int (Int32.ofNat N2)), .val (.int (Int32.ofNat 2)), .val (.int (Int32.ofNat N1)), .val (.int (0 : Int32)), .unset, .unset, .unset, .unset, .unset, .unset, .unset, .unset, .unset, .unset, .unset, .unset, .unset, .unset, .unset, .unset, .unset, .unset]) (st' := [(.int (2 : Int32)), (.int (Int32.ofNat 2))]) (by decide +kernel) rfl ?_
    refine own_icmp SM C (cd := .ne) (o := 35) (by decide +kernel) (pc' := 136) ⟨by decide, by decide⟩ (fun hc101 => absurd ((hh_ne).1.mp hc101) (show ¬ ((Int32.ofNat 2).toInt ≠ (2 : Int)) by decide)) (fun _ => ?_)
    refine own_run SM C [.iconst 3] (pc' := 105) (Ls' := #[.val (.int x0), .val (.int x1), .val (.int x2), .val (.int x3), .val (.int sv), .val (.int (Int32.ofNat E0)), .val (.int (Int32.ofNat N1)), .val (.int (Int32.ofNat N2)), .val (.int (Int32.ofNat 2)), .val (.int (Int32.ofNat N1)), .val (.int (0 : Int32)), .unset, .unset, .unset, .unset, .unset, .unset, .unset, .unset, .unset, .unset, .unset, .unset, .unset, .unset, .unset, .unset, .unset, .unset]) (st' := [(.int (3 : Int32))]) (by decide +kernel) rfl ?_
    refine own_newarray SM C (hw _ (List.mem_of_getElem? (i := 5) rfl)) (by decide +kernel) (n := (3 : Int32)) (by decide) 4 (by decide) (by decide) (by decide) (by decide) (vs := [(0 : Int32), (0 : Int32), (0 : Int32)]) rfl (fun T35 h35 b35 e35 S35 E35 g35 A35 => ?_)
    refine own_run S35 C [.dup, .iconst 0, .iload 4] (pc' := 111) (Ls' := #[.val (.int x0), .val (.int x1), .val (.int x2), .val (.int x3), .val (.int sv), .val (.int (Int32.ofNat E0)), .val (.int (Int32.ofNat N1)), .val (.int (Int32.ofNat N2)), .val (.int (Int32.ofNat 2)), .val (.int (Int32.ofNat N1)), .val (.int (0 : Int32)), .unset, .unset, .unset, .unset, .unset, .unset, .unset, .unset, .unset, .unset, .unset, .unset, .unset, .unset, .unset, .unset, .unset, .unset]) (st' := [(.int sv), (.int (0 : Int32)), (.ref b35), (.ref b35)]) (by decide +kernel) rfl ?_
    refine own_iastore S35 C A35 (by decide +kernel) (j := (0 : Int32)) (x := sv) ⟨by decide, (by decide : (0 : Int32).toInt < ((3 : Nat) : Int))⟩ g35 (vs' := [sv, (0 : Int32), (0 : Int32)]) rfl (fun T36 h36 S36 K36 A36 => ?_)
    refine own_run S36 C [.dup, .iconst 1, .iload 4, .iload 5, .iadd] (pc' := 119) (Ls' := #[.val (.int x0), .val (.int x1), .val (.int x2), .val (.int x3), .val (.int sv), .val (.int (Int32.ofNat E0)), .val (.int (Int32.ofNat N1)), .val (.int (Int32.ofNat N2)), .val (.int (Int32.ofNat 2)), .val (.int (Int32.ofNat N1)), .val (.int (0 : Int32)), .unset, .unset, .unset, .unset, .unset, .unset, .unset, .unset, .unset, .unset, .unset, .unset, .unset, .unset, .unset, .unset, .unset, .unset]) (st' := [(.int (sv + (Int32.ofNat E0))), (.int (1 : Int32)), (.ref b35), (.ref b35)]) (by decide +kernel) rfl ?_
    refine own_iastore S36 C A36 (by decide +kernel) (j := (1 : Int32)) (x := (sv + (Int32.ofNat E0))) ⟨by decide, (by decide : (1 : Int32).toInt < ((3 : Nat) : Int))⟩ g35 (vs' := [sv, (sv + (Int32.ofNat E0)), (0 : Int32)]) rfl (fun T37 h37 S37 K37 A37 => ?_)
    refine own_run S37 C [.dup, .iconst 2, .iload 4, .iload 5, .iadd, .iload 9, .iadd] (pc' := 130) (Ls' := #[.val (.int x0), .val (.int x1), .val (.int x2), .val (.int x3), .val (.int sv), .val (.int (Int32.ofNat E0)), .val (.int (Int32.ofNat N1)), .val (.int (Int32.ofNat N2)), .val (.int (Int32.ofNat 2)), .val (.int (Int32.ofNat N1)), .val (.int (0 : Int32)), .unset, .unset, .unset, .unset, .unset, .unset, .unset, .unset, .unset, .unset, .unset, .unset, .unset, .unset, .unset, .unset, .unset, .unset]) (st' := [(.int ((sv + (Int32.ofNat E0)) + (Int32.ofNat N1))), (.int (2 : Int32)), (.ref b35), (.ref b35)]) (by decide +kernel) rfl ?_
    refine own_iastore S37 C A37 (by decide +kernel) (j := (2 : Int32)) (x := ((sv + (Int32.ofNat E0)) + (Int32.ofNat N1))) ⟨by decide, (by decide : (2 : Int32).toInt < ((3 : Nat) : Int))⟩ g35 (vs' := [sv, (sv + (Int32.ofNat E0)), ((sv + (Int32.ofNat E0)) + (Int32.ofNat N1))]) rfl (fun T38 h38 S38 K38 A38 => ?_)
    refine own_run S38 C [.astore 11, .goto 46] (pc' := 179) (Ls' := #[.val (.int x0), .val (.int x1), .val (.int x2), .val (.int x3), .val (.int sv), .val (.int (Int32.ofNat E0)), .val (.int (Int32.ofNat N1)), .val (.int (Int32.ofNat N2)), .val (.int (Int32.ofNat 2)), .val (.int (Int32.ofNat N1)), .val (.int (0 : Int32)), .val (.ref b35), .unset, .unset, .unset, .unset, .unset, .unset, .unset, .unset, .unset, .unset, .unset, .unset, .unset, .unset, .unset, .unset, .unset]) (st' := []) (by decide +kernel) rfl ?_
    refine cont _ N1 0 b35 _ _ ⟨a1, a2, by omega, by omega, by omega⟩ S38 g35 ?_
    have eF : (own_F E0 N1 0).map (own_u sv) = [sv, (sv + (Int32.ofNat E0)), ((sv + (Int32.ofNat E0)) + (Int32.ofNat N1))] := by
      have e0 : own_u sv 0 = sv := by unfold own_u; exact Int32.add_zero sv
      rw [own_F, if_neg (by omega), if_pos rfl]
      simp only [List.map_cons, List.map_nil, e0]
      simp only [own_u, Int32.ofNat_add, Int32.add_assoc]
    rw [eF]; exact A38
  · skip
    refine own_run SM C [.iload 8, .iconst 2] (pc' := 46) (Ls' := #[.val (.int x0), .val (.int x1), .val (.int x2), .val (.int x3), .val (.int sv), .val (.int (Int32.ofNat E0)), .val (.int (Int32.ofNat N1)), .val (.int (Int32.ofNat N2)), .val (.int (Int32.ofNat 3)), .unset, .unset, .unset, .unset, .unset, .unset, .unset, .unset, .unset, .unset, .unset, .unset, .unset, .unset, .unset, .unset, .unset, .unset, .unset, .unset]) (st' := [(.int (2 : Int32)), (.int (Int32.ofNat 3))]) (by decide +kernel) rfl ?_
    refine own_icmp SM C (cd := .lt) (o := 8) (by decide +kernel) (pc' := 54) ⟨by decide, by decide⟩ (fun hc46 => absurd ((hh_lt).1.mp hc46) (show ¬ ((Int32.ofNat 3).toInt < (2 : Int)) by decide)) (fun _ => ?_)
    refine own_run SM C [.iload 6, .goto 4, .istore 9, .iload 8, .iconst 3] (pc' := 60) (Ls' := #[.val (.int x0), .val (.int x1), .val (.int x2), .val (.int x3), .val (.int sv), .val (.int (Int32.ofNat E0)), .val (.int (Int32.ofNat N1)), .val (.int (Int32.ofNat N2)), .val (.int (Int32.ofNat 3)), .val (.int (Int32.ofNat N1)), .unset, .unset, .unset, .unset, .unset, .unset, .unset, .unset, .unset, .unset, .unset, .unset, .unset, .unset, .unset, .unset, .unset, .unset, .unset]) (st' := [(.int (3 : Int32)), (.int (Int32.ofNat 3))]) (by decide +kernel) rfl ?_
    refine own_icmp SM C (cd := .lt) (o := 8) (by decide +kernel) (pc' := 68) ⟨by decide, by decide⟩ (fun hc60 => absurd ((hh_lt).1.mp hc60) (show ¬ ((Int32.ofNat 3).toInt < (3 : Int)) by decide)) (fun _ => ?_)
    refine own_run SM C [.iload 7, .goto 4, .istore 10, .iload 8, .iconst 1] (pc' := 74) (Ls' := #[.val (.int x0), .val (.int x1), .val (.int x2), .val (.int x3), .val (.int sv), .val (.int (Int32.ofNat E0)), .val (.int (Int32.ofNat N1)), .val (.int (Int32.ofNat N2)), .val (.int (Int32.ofNat 3)), .val (.int (Int32.ofNat N1)), .val (.int (Int32.ofNat N2)), .unset, .unset, .unset, .unset, .unset, .unset, .unset, .unset, .unset, .unset, .unset, .unset, .unset, .unset, .unset, .unset, .unset, .unset]) (st' := [(.int (1 : Int32)), (.int (Int32.ofNat 3))]) (by decide +kernel) rfl ?_
    refine own_icmp SM C (cd := .ne) (o := 24) (by decide +kernel) (pc' := 98) ⟨by decide, by decide⟩ (fun _ => ?_) (fun hc74 => absurd ((hh_ne).2.mp hc74) (show ¬ ((Int32.ofNat 3).toInt = (1 : Int)) by decide))
    refine own_run SM C [.iload 8, .iconst 2] (pc' := 101) (Ls' := #[.val (.int x0), .val (.int x1), .val (.int x2), .val (.int x3), .val (.int sv), .val (.int (Int32.ofNat E0)), .val (.int (Int32.ofNat N1)), .val (.int (Int32.ofNat N2)), .val (.int (Int32.ofNat 3)), .val (.int (Int32.ofNat N1)), .val (.int (Int32.ofNat N2)), .unset, .unset, .unset, .unset, .unset, .unset, .unset, .unset, .unset, .unset, .unset, .unset, .unset, .unset, .unset, .unset, .unset, .unset]) (st' := [(.int (2 : Int32)), (.int (Int32.ofNat 3))]) (by decide +kernel) rfl ?_
    refine own_icmp SM C (cd := .ne) (o := 35) (by decide +kernel) (pc' := 136) ⟨by decide, by decide⟩ (fun _ => ?_) (fun hc101 => absurd ((hh_ne).2.mp hc101) (show ¬ ((Int32.ofNat 3).toInt = (2 : Int)) by decide))
    refine own_run SM C [.iconst 4] (pc' := 137) (Ls' := #[.val (.int x0), .val (.int x1), .val (.int x2), .val (.int x3), .val (.int sv), .val (.int (Int32.ofNat E0)), .val (.int (Int32.ofNat N1)), .val (.int (Int32.ofNat N2)), .val (.int (Int32.ofNat 3)), .val (.int (Int32.ofNat N1)), .val (.int (Int32.ofNat N2)), .unset, .unset, .unset, .unset, .unset, .unset, .unset, .unset, .unset, .unset, .unset, .unset, .unset, .unset, .unset, .unset, .unset, .unset]) (st' := [(.int (4 : Int32))]) (by decide +kernel) rfl ?_
    refine own_newarray SM C (hw _ (List.mem_of_getElem? (i := 5) rfl)) (by decide +kernel) (n := (4 : Int32)) (by decide) 4 (by decide) (by decide) (by decide) (by decide) (vs := [(0 : Int32), (0 : Int32), (0 : Int32), (0 : Int32)]) rfl (fun T39 h39 b39 e39 S39 E39 g39 A39 => ?_)
    refine own_run S39 C [.dup, .iconst 0, .iload 4] (pc' := 143) (Ls' := #[.val (.int x0), .val (.int x1), .val (.int x2), .val (.int x3), .val (.int sv), .val (.int (Int32.ofNat E0)), .val (.int (Int32.ofNat N1)), .val (.int (Int32.ofNat N2)), .val (.int (Int32.ofNat 3)), .val (.int (Int32.ofNat N1)), .val (.int (Int32.ofNat N2)), .unset, .unset, .unset, .unset, .unset, .unset, .unset, .unset, .unset, .unset, .unset, .unset, .unset, .unset, .unset, .unset, .unset, .unset]) (st' := [(.int sv), (.int (0 : Int32)), (.ref b39), (.ref b39)]) (by decide +kernel) rfl ?_
    refine own_iastore S39 C A39 (by decide +kernel) (j := (0 : Int32)) (x := sv) ⟨by decide, (by decide : (0 : Int32).toInt < ((4 : Nat) : Int))⟩ g39 (vs' := [sv, (0 : Int32), (0 : Int32), (0 : Int32)]) rfl (fun T40 h40 S40 K40 A40 => ?_)
    refine own_run S40 C [.dup, .iconst 1, .iload 4, .iload 5, .iadd] (pc' := 151) (Ls' := #[.val (.int x0), .val (.int x1), .val (.int x2), .val (.int x3), .val (.int sv), .val (.int (Int32.ofNat E0)), .val (.int (Int32.ofNat N1)), .val (.int (Int32.ofNat N2)), .val (.int (Int32.ofNat 3)), .val (.int (Int32.ofNat N1)), .val (.int (Int32.ofNat N2)), .unset, .unset, .unset, .unset, .unset, .unset, .unset, .unset, .unset, .unset, .unset, .unset, .unset, .unset, .unset, .unset, .unset, .unset]) (st' := [(.int (sv + (Int32.ofNat E0))), (.int (1 : Int32)), (.ref b39), (.ref b39)]) (by decide +kernel) rfl ?_
    refine own_iastore S40 C A40 (by decide +kernel) (j := (1 : Int32)) (x := (sv + (Int32.ofNat E0))) ⟨by decide, (by decide : (1 : Int32).toInt < ((4 : Nat) : Int))⟩ g39 (vs' := [sv, (sv + (Int32.ofNat E0)), (0 : Int32), (0 : Int32)]) rfl (fun T41 h41 S41 K41 A41 => ?_)
    refine own_run S41 C [.dup, .iconst 2, .iload 4, .iload 5, .iadd, .iload 9, .iadd] (pc' := 162) (Ls' := #[.val (.int x0), .val (.int x1), .val (.int x2), .val (.int x3), .val (.int sv), .val (.int (Int32.ofNat E0)), .val (.int (Int32.ofNat N1)), .val (.int (Int32.ofNat N2)), .val (.int (Int32.ofNat 3)), .val (.int (Int32.ofNat N1)), .val (.int (Int32.ofNat N2)), .unset, .unset, .unset, .unset, .unset, .unset, .unset, .unset, .unset, .unset, .unset, .unset, .unset, .unset, .unset, .unset, .unset, .unset]) (st' := [(.int ((sv + (Int32.ofNat E0)) + (Int32.ofNat N1))), (.int (2 : Int32)), (.ref b39), (.ref b39)]) (by decide +kernel) rfl ?_
    refine own_iastore S41 C A41 (by decide +kernel) (j := (2 : Int32)) (x := ((sv + (Int32.ofNat E0)) + (Int32.ofNat N1))) ⟨by decide, (by decide : (2 : Int32).toInt < ((4 : Nat) : Int))⟩ g39 (vs' := [sv, (sv + (Int32.ofNat E0)), ((sv + (Int32.ofNat E0)) + (Int32.ofNat N1)), (0 : Int32)]) rfl (fun T42 h42 S42 K42 A42 => ?_)
    refine own_run S42 C [.dup, .iconst 3, .iload 4, .iload 5, .iadd, .iload 9, .iadd, .iload 10, .iadd] (pc' := 176) (Ls' := #[.val (.int x0), .val (.int x1), .val (.int x2), .val (.int x3), .val (.int sv), .val (.int (Int32.ofNat E0)), .val (.int (Int32.ofNat N1)), .val (.int (Int32.ofNat N2)), .val (.int (Int32.ofNat 3)), .val (.int (Int32.ofNat N1)), .val (.int (Int32.ofNat N2)), .unset, .unset, .unset, .unset, .unset, .unset, .unset, .unset, .unset, .unset, .unset, .unset, .unset, .unset, .unset, .unset, .unset, .unset]) (st' := [(.int (((sv + (Int32.ofNat E0)) + (Int32.ofNat N1)) + (Int32.ofNat N2))), (.int (3 : Int32)), (.ref b39), (.ref b39)]) (by decide +kernel) rfl ?_
    refine own_iastore S42 C A42 (by decide +kernel) (j := (3 : Int32)) (x := (((sv + (Int32.ofNat E0)) + (Int32.ofNat N1)) + (Int32.ofNat N2))) ⟨by decide, (by decide : (3 : Int32).toInt < ((4 : Nat) : Int))⟩ g39 (vs' := [sv, (sv + (Int32.ofNat E0)), ((sv + (Int32.ofNat E0)) + (Int32.ofNat N1)), (((sv + (Int32.ofNat E0)) + (Int32.ofNat N1)) + (Int32.ofNat N2))]) rfl (fun T43 h43 S43 K43 A43 => ?_)
    refine own_run S43 C [.astore 11] (pc' := 179) (Ls' := #[.val (.int x0), .val (.int x1), .val (.int x2), .val (.int x3), .val (.int sv), .val (.int (Int32.ofNat E0)), .val (.int (Int32.ofNat N1)), .val (.int (Int32.ofNat N2)), .val (.int (Int32.ofNat 3)), .val (.int (Int32.ofNat N1)), .val (.int (Int32.ofNat N2)), .val (.ref b39), .unset, .unset, .unset, .unset, .unset, .unset, .unset, .unset, .unset, .unset, .unset, .unset, .unset, .unset, .unset, .unset, .unset]) (st' := []) (by decide +kernel) rfl ?_
    refine cont _ N1 N2 b39 _ _ ⟨a1, a2, by omega, by omega, by omega⟩ S43 g39 ?_
    have eF : (own_F E0 N1 N2).map (own_u sv) = [sv, (sv + (Int32.ofNat E0)), ((sv + (Int32.ofNat E0)) + (Int32.ofNat N1)), (((sv + (Int32.ofNat E0)) + (Int32.ofNat N1)) + (Int32.ofNat N2))] := by
      have e0 : own_u sv 0 = sv := by unfold own_u; exact Int32.add_zero sv
      rw [own_F, if_neg (by omega), if_neg (by omega)]
      simp only [List.map_cons, List.map_nil, e0]
      simp only [own_u, Int32.ofNat_add, Int32.add_assoc]
    rw [eF]; exact A43
set_option maxRecDepth 65536 in
set_option maxHeartbeats 40000000 in
theorem comes_1 {Post : Tables → Env → Array Value → State → Outcome → State → Prop} (hpost : ∀ tb e args s v u, (limb_1_1.after args s (.returned v) u = true ∧ limb_1_2.after args s (.returned v) u = true ∧ True) → FrameEnd s (.returned v) u (Jvm.fieldLocs frame_1_writes args s ++ Jvm.arrayLocs frame_1_arrays args s ++ Jvm.staticLocs frame_1_statics s) 24 192 → Post tb e args s (.returned v) u) :
    ArmFor flags0 classFile x code maxLocals ret World_1 tables_1 room_1 Calls_1 rest_1 Pre_1 Post := by
  intro l hfl _ _ p e ha hc hk s m args below hf hA hF happ hP
  obtain ⟨hcalls, hrest, hpre⟩ := hP
  obtain ⟨-, -, -, hnamed, -, -, -, hat⟩ := (Spec.applies_iff hf).mp happ
  obtain ⟨hg, hn⟩ := and_e (Cond.before_iff.mp (show (Jvm.Cond.and given_1 narrow_1).before args s = true from hpre))
  obtain ⟨hcount, g0⟩ := and_e hg
  obtain ⟨k0, g1⟩ := and_e g0
  obtain ⟨k1, g2⟩ := and_e g1
  obtain ⟨k2, g3⟩ := and_e g2
  obtain ⟨w0, w1, w2, w3, rfl⟩ : ∃ w0 w1 w2 w3 : Value, args = #[w0, w1, w2, w3] := by
    have hs : args.size = 4 := by simpa [Cond.value, given_1] using hcount
    obtain ⟨L⟩ := args
    match L, hs with
    | [w0, w1, w2, w3], _ => exact ⟨w0, w1, w2, w3, rfl⟩
  have hw := fun d (hd : d ∈ tables_1) => atoms_spec (ws := Jvm.Cond.code x code maxLocals ret :: tables_1) hat d (List.mem_cons_of_mem _ hd)
  obtain ⟨i0, ei0⟩ := is_v k0
  obtain rfl : w0 = (.int i0) := Option.some.inj ei0
  obtain ⟨i1, ei1⟩ := is_v k1
  obtain rfl : w1 = (.int i1) := Option.some.inj ei1
  obtain ⟨i2, ei2⟩ := is_v k2
  obtain rfl : w2 = (.int i2) := Option.some.inj ei2
  obtain ⟨i3, ei3⟩ := is_v g3
  obtain rfl : w3 = (.int i3) := Option.some.inj ei3
  obtain ⟨n, o, h1, h2, h3, v, L, rfl, ⟨N, -, hv⟩, hq⟩ := rm_law l s _ hw tables_1 i0 i1 i2 i3 s.heap s.heap.size (Nat.le_refl _) p e ha hc hk s m _ below hf ((Spec.applies_iff_loose hf).mp happ).1 ⟨rfl, State.Warmed39.refl s, rfl⟩ trivial
  obtain rfl : v = some (.int 1) := hv
  refine ⟨n, _, h1, h2, h3, hpost _ _ _ _ _ _ ⟨Cond.after_iff.mpr rfl, Cond.after_iff.mpr (eq_i res_at (Term.int_eval (1)) rfl), trivial⟩ ⟨hq.1, hq.2.1, (hq.2.2.sift fun y hy => Or.inr (N y hy)).mono (by decide) (by decide)⟩⟩
theorem main_1_1 : Claimed_1_1 := comes_1 fun _ _ _ _ _ _ h hF => ⟨h.1, hF⟩
theorem main_1_2 : Claimed_1_2 := comes_1 fun _ _ _ _ _ _ h hF => ⟨h.2.1, hF⟩
end Jvm.Pilot.@@N@@
namespace Jvm.Pilot.@@N@@
open Jvm Jvm.ClassFile Sem Op Lib Jvm.Free Jvm.Stand Jvm.Pilot.@@N@@.Jvm.D
/-! MADE BY PROGRAM (witnessworld.py) out of the Statement's table words and the real class files: 10 classes; the members and pool entries that the words name. The judged class is class 1, her method 1. -/
namespace start1
open Jvm.ClassFile
def u (s : String) : CpInfo := .utf8 (stringToUtf16 s)
/-- a pool by its gaps: so many unusable entries, then the entry; so many at the end -/
def gap : Nat → List CpInfo → List CpInfo
  | 0, r => r
  | n + 1, r => .unusable :: gap n r
def poolList (es : List (Nat × CpInfo)) (last : Nat) : List CpInfo := es.foldr (fun e r => gap e.1 (e.2 :: r)) (gap last [])
def pool (es : List (Nat × CpInfo)) (last : Nat) : Array CpInfo := ⟨poolList es last⟩
def fileOf (pool : Array CpInfo) (this : Nat) (attrs : Array Attribute := #[]) (ms : Array MethodInfo := #[]) (fl : Nat := 33) (sup : Nat := 0) (ifs : Array Nat := #[]) (fds : Array FieldInfo := #[]) : ClassFile where
  minorVersion := 0
  majorVersion := 65
  constantPool := pool
  accessFlags := fl
  thisClass := this
  superClass := sup
  interfaces := ifs
  fields := fds
  methods := ms
  attributes := attrs
def plain (name : String) (sup : Option ClassId) : Class where
  name := name
  kind := .ordinary
  loader := none
  accessFlags := 33
  super := sup
  interfaces := #[]
  cf := none
  fields := #[]
  methods := #[]
  instanceTypes := #[]
  staticTypes := #[]
  resolved := #[]
  callSites := []
  init := .initialized
  statics := none
  mirror := none

def pool0 : Array CpInfo := pool [(5, u "<init>"), (0, u "()V"), (1, .class_ 10), (1, u "java/lang/Object")] 113

def k0c0 : Code := { maxStack := 0, maxLocals := 1, code := object_method_1_code, exceptionTable := #[], attributes := #[] }
def k0m0 : Method := { name := "<init>", desc := "()V", sig := { parameters := [], returnType := none }, accessFlags := 1, code := some k0c0 }
/-- java/lang/Object -/
def k0 : Class := { plain "java/lang/Object" none with
  accessFlags := 33
  interfaces := #[]
  cf := some (fileOf pool0 8 #[] #[{ accessFlags := 1, nameIndex := 5, descriptorIndex := 6, attributes := #[] }] 33 0 #[] #[])
  fields := #[]
  methods := #[k0m0]
  instanceTypes := #[]
  staticTypes := #[]
  resolved := Array.replicate 124 none
  statics := none }

def pool1 : Array CpInfo := pool [(2, .class_ 4), (1, u "java/lang/Object"), (0, u "<init>"), (0, u "()V"), (2, .integer 2147483634), (0, .methodref 11 12), (0, .class_ 13), (0, .nameAndType 14 15), (0, u "java/lang/Math"), (0, u "min"), (0, u "(II)I"), (0, .integer 2147483647), (0, .methodref 18 19), (0, .class_ 20), (0, .nameAndType 21 22), (0, u "com/example/holdfast/holdfast/fill/UnitOrderNextPinLaw"), (0, u "arr"), (0, u "(I)[I"), (0, .class_ 24), (0, u "com/example/holdfast/holdfast/fill/UnitOrder"), (0, .methodref 23 26), (0, .nameAndType 5 27), (0, u "([I)V"), (0, .methodref 23 29), (0, .nameAndType 30 31), (0, u "next"), (0, u "([I)I"), (0, .methodref 18 33), (0, .nameAndType 34 35), (0, u "at"), (0, u "([IIIIIIII)Z"), (0, .methodref 18 37), (0, .nameAndType 38 39), (0, u "expected"), (0, u "(IIIII)I"), (0, .methodref 18 41), (0, .nameAndType 42 43), (0, u "cnt"), (0, u "(IIII)I"), (2, u "law"), (0, u "(IIII)Z")] 5

def k1m0 : Method := { name := "<init>", desc := "()V", sig := { parameters := [], returnType := none }, accessFlags := 1, code := none }
def k1c1 : Code := { maxStack := 8, maxLocals := 29, code := code, exceptionTable := #[], attributes := #[] }
def k1m1 : Method := { name := "law", desc := "(IIII)Z", sig := { parameters := [.int, .int, .int, .int], returnType := some .boolean }, accessFlags := 9, code := some k1c1 }
def k1c2 : Code := { maxStack := 2, maxLocals := 1, code := method_3_code, exceptionTable := #[], attributes := #[] }
def k1m2 : Method := { name := "arr", desc := "(I)[I", sig := { parameters := [.int], returnType := some (.array .int) }, accessFlags := 10, code := some k1c2 }
def k1c3 : Code := { maxStack := 6, maxLocals := 8, code := method_4_code, exceptionTable := #[], attributes := #[] }
def k1m3 : Method := { name := "at", desc := "([IIIIIIII)Z", sig := { parameters := [(.array .int), .int, .int, .int, .int, .int, .int, .int], returnType := some .boolean }, accessFlags := 10, code := some k1c3 }
def k1c4 : Code := { maxStack := 3, maxLocals := 4, code := method_5_code, exceptionTable := #[], attributes := #[] }
def k1m4 : Method := { name := "cnt", desc := "(IIII)I", sig := { parameters := [.int, .int, .int, .int], returnType := some .int }, accessFlags := 10, code := some k1c4 }
def k1c5 : Code := { maxStack := 4, maxLocals := 12, code := method_6_code, exceptionTable := #[], attributes := #[] }
def k1m5 : Method := { name := "expected", desc := "(IIIII)I", sig := { parameters := [.int, .int, .int, .int, .int], returnType := some .int }, accessFlags := 10, code := some k1c5 }
/-- com/example/holdfast/holdfast/fill/UnitOrderNextPinLaw -/
def k1 : Class := { plain "com/example/holdfast/holdfast/fill/UnitOrderNextPinLaw" (some 0) with
  accessFlags := 49
  interfaces := #[]
  cf := some (fileOf pool1 18 #[] #[{ accessFlags := 1, nameIndex := 5, descriptorIndex := 6, attributes := #[] }, { accessFlags := 9, nameIndex := 46, descriptorIndex := 47, attributes := #[] }, { accessFlags := 10, nameIndex := 21, descriptorIndex := 22, attributes := #[] }, { accessFlags := 10, nameIndex := 34, descriptorIndex := 35, attributes := #[] }, { accessFlags := 10, nameIndex := 42, descriptorIndex := 43, attributes := #[] }, { accessFlags := 10, nameIndex := 38, descriptorIndex := 39, attributes := #[] }] 49 2 #[] #[])
  fields := #[]
  methods := #[k1m0, k1m1, k1m2, k1m3, k1m4, k1m5]
  instanceTypes := #[]
  staticTypes := #[]
  resolved := Array.replicate 53 none
  statics := none }

def pool2 : Array CpInfo := pool [(1, .class_ 2), (0, u "java/lang/Math"), (1, .class_ 6), (1, u "java/lang/Object"), (0, u "<init>"), (0, u "()V"), (89, .class_ 100), (1, u "java/lang/Math$RandomNumberGeneratorHolder"), (71, u "negativeZeroFloatBits"), (0, u "J"), (2, u "negativeZeroDoubleBits"), (24, u "min"), (43, u "$assertionsDisabled"), (0, u "Z"), (88, u "(II)I"), (2, u "twoToTheDoubleScaleDown"), (0, u "D"), (4, u "twoToTheDoubleScaleUp"), (9, u "E"), (3, u "PI"), (2, u "TAU"), (2, u "DEGREES_TO_RADIANS"), (0, u "RADIANS_TO_DEGREES")] 94

def k2m0 : Method := { name := "<init>", desc := "()V", sig := { parameters := [], returnType := none }, accessFlags := 2, code := none }
def k2c1 : Code := { maxStack := 2, maxLocals := 2, code := jdk_29_method_69_code, exceptionTable := #[], attributes := #[] }
def k2m1 : Method := { name := "min", desc := "(II)I", sig := { parameters := [.int, .int], returnType := some .int }, accessFlags := 9, code := some k2c1 }
/-- java/lang/Math -/
def k2 : Class := { plain "java/lang/Math" (some 0) with
  accessFlags := 49
  interfaces := #[]
  cf := some (fileOf pool2 1 #[.nestMembers #[98]] #[{ accessFlags := 2, nameIndex := 7, descriptorIndex := 8, attributes := #[] }, { accessFlags := 9, nameIndex := 201, descriptorIndex := 335, attributes := #[] }] 49 4 #[] #[{ accessFlags := 25, nameIndex := 354, descriptorIndex := 339, attributes := #[] }, { accessFlags := 25, nameIndex := 358, descriptorIndex := 339, attributes := #[] }, { accessFlags := 25, nameIndex := 361, descriptorIndex := 339, attributes := #[] }, { accessFlags := 26, nameIndex := 364, descriptorIndex := 339, attributes := #[] }, { accessFlags := 26, nameIndex := 365, descriptorIndex := 339, attributes := #[] }, { accessFlags := 26, nameIndex := 172, descriptorIndex := 173, attributes := #[] }, { accessFlags := 26, nameIndex := 176, descriptorIndex := 173, attributes := #[] }, { accessFlags := 8, nameIndex := 344, descriptorIndex := 339, attributes := #[] }, { accessFlags := 8, nameIndex := 338, descriptorIndex := 339, attributes := #[] }, { accessFlags := 4120, nameIndex := 245, descriptorIndex := 246, attributes := #[] }])
  fields := #[{ name := "E", type := .double, accessFlags := 25, slot := 0, constantValue := 0 }, { name := "PI", type := .double, accessFlags := 25, slot := 1, constantValue := 0 }, { name := "TAU", type := .double, accessFlags := 25, slot := 2, constantValue := 0 }, { name := "DEGREES_TO_RADIANS", type := .double, accessFlags := 26, slot := 3, constantValue := 0 }, { name := "RADIANS_TO_DEGREES", type := .double, accessFlags := 26, slot := 4, constantValue := 0 }, { name := "negativeZeroFloatBits", type := .long, accessFlags := 26, slot := 5, constantValue := 0 }, { name := "negativeZeroDoubleBits", type := .long, accessFlags := 26, slot := 6, constantValue := 0 }, { name := "twoToTheDoubleScaleUp", type := .double, accessFlags := 8, slot := 7, constantValue := 0 }, { name := "twoToTheDoubleScaleDown", type := .double, accessFlags := 8, slot := 8, constantValue := 0 }, { name := "$assertionsDisabled", type := .boolean, accessFlags := 4120, slot := 9, constantValue := 0 }]
  methods := #[k2m0, k2m1]
  instanceTypes := #[]
  staticTypes := #[.double, .double, .double, .double, .double, .long, .long, .double, .double, .boolean]
  resolved := Array.replicate 460 none
  statics := none }

def pool3 : Array CpInfo := pool [(1, .methodref 2 3), (0, .class_ 4), (0, .nameAndType 5 6), (0, u "java/lang/Object"), (0, u "<init>"), (0, u "()V"), (0, .fieldref 8 9), (0, .class_ 10), (0, .nameAndType 11 12), (0, u "com/example/holdfast/holdfast/fill/UnitOrder"), (0, u "previous"), (0, u "I"), (0, .fieldref 8 14), (0, .nameAndType 15 16), (0, u "first"), (0, u "[I"), (0, .fieldref 8 18), (0, .nameAndType 19 16), (0, u "following"), (2, u "([I)V"), (10, u "next"), (0, u "([I)I"), (0, .fieldref 8 36), (0, .nameAndType 37 12), (0, u "block"), (0, .fieldref 8 39), (0, .nameAndType 40 12), (0, u "place"), (14, .fieldref 8 56), (0, .nameAndType 57 12), (0, u "head")] 10

def k3c0 : Code := { maxStack := 4, maxLocals := 3, code := prog_76_method_1_code, exceptionTable := #[], attributes := #[] }
def k3m0 : Method := { name := "<init>", desc := "([I)V", sig := { parameters := [(.array .int)], returnType := none }, accessFlags := 0, code := some k3c0 }
def k3c1 : Code := { maxStack := 4, maxLocals := 5, code := prog_76_method_7_code, exceptionTable := #[], attributes := #[] }
def k3m1 : Method := { name := "next", desc := "([I)I", sig := { parameters := [(.array .int)], returnType := some .int }, accessFlags := 1, code := some k3c1 }
/-- com/example/holdfast/holdfast/fill/UnitOrder -/
def k3 : Class := { plain "com/example/holdfast/holdfast/fill/UnitOrder" (some 0) with
  accessFlags := 49
  interfaces := #[]
  cf := some (fileOf pool3 8 #[] #[{ accessFlags := 0, nameIndex := 5, descriptorIndex := 22, attributes := #[] }, { accessFlags := 1, nameIndex := 33, descriptorIndex := 34, attributes := #[] }] 49 2 #[] #[{ accessFlags := 18, nameIndex := 15, descriptorIndex := 16, attributes := #[] }, { accessFlags := 18, nameIndex := 19, descriptorIndex := 16, attributes := #[] }, { accessFlags := 2, nameIndex := 57, descriptorIndex := 12, attributes := #[] }, { accessFlags := 2, nameIndex := 11, descriptorIndex := 12, attributes := #[] }, { accessFlags := 2, nameIndex := 37, descriptorIndex := 12, attributes := #[] }, { accessFlags := 2, nameIndex := 40, descriptorIndex := 12, attributes := #[] }])
  fields := #[{ name := "first", type := (.array .int), accessFlags := 18, slot := 0, constantValue := 0 }, { name := "following", type := (.array .int), accessFlags := 18, slot := 1, constantValue := 0 }, { name := "head", type := .int, accessFlags := 2, slot := 2, constantValue := 0 }, { name := "previous", type := .int, accessFlags := 2, slot := 3, constantValue := 0 }, { name := "block", type := .int, accessFlags := 2, slot := 4, constantValue := 0 }, { name := "place", type := .int, accessFlags := 2, slot := 5, constantValue := 0 }]
  methods := #[k3m0, k3m1]
  instanceTypes := #[(.array .int), (.array .int), .int, .int, .int, .int]
  staticTypes := #[]
  resolved := Array.replicate 68 none
  statics := none }

def pool4 : Array CpInfo := pool [(1, u "java/lang/Cloneable"), (0, .class_ 1), (0, u "java/lang/Object"), (0, .class_ 3)] 3

/-- java/lang/Cloneable -/
def k4 : Class := { plain "java/lang/Cloneable" (some 0) with
  accessFlags := 1537
  interfaces := #[]
  cf := some (fileOf pool4 2 #[] #[] 1537 4 #[] #[])
  fields := #[]
  methods := #[]
  instanceTypes := #[]
  staticTypes := #[]
  resolved := Array.replicate 8 none
  statics := none }

def pool5 : Array CpInfo := pool [(1, u "java/io/Serializable"), (0, .class_ 1), (0, u "java/lang/Object"), (0, .class_ 3)] 3

/-- java/io/Serializable -/
def k5 : Class := { plain "java/io/Serializable" (some 0) with
  accessFlags := 1537
  interfaces := #[]
  cf := some (fileOf pool5 2 #[] #[] 1537 4 #[] #[])
  fields := #[]
  methods := #[]
  instanceTypes := #[]
  staticTypes := #[]
  resolved := Array.replicate 8 none
  statics := none }

/-- the primitive byte -/
def k6 : Class := { plain "byte" none with kind := .primitive 'B', accessFlags := 0x411 }
/-- [B -/
def k7 : Class := { plain "[B" (some 0) with kind := .array 6 .byte, interfaces := #[4, 5], accessFlags := 1041 }

/-- the primitive int -/
def k8 : Class := { plain "int" none with kind := .primitive 'I', accessFlags := 0x411 }
/-- [I -/
def k9 : Class := { plain "[I" (some 0) with kind := .array 8 .int, interfaces := #[4, 5], accessFlags := 1041 }

def heap : Heap := #[]
def classes : Array Class := #[k0, k1, k2, k3, k4, k5, k6, k7, k8, k9]
def interned : List (Array UInt16 × Addr) := []
def slotsUsed : Nat := 0
def theMethod : MethodId := ⟨1, 1⟩
def args0 : Array Value := #[.int 5, .int 7, .int 2, .int 9]
def aboutOver (below : List Frame) : State where
  vm := { classes := classes, interned := interned.toArray }
  heap := heap
  slotsUsed := slotsUsed
  threads := #[{ frames := .invoking theMethod args0 :: below }]
def below0 : List Frame := [.native { method := ⟨0, 0⟩, args := #[] }]
def about1 : State := aboutOver below0
def p0 : Program := .bare "" "" ""
def e0 : Env := launch0.env 0 0 0
theorem w_frames : about1.frames = Frame.invoking theMethod args0 :: below0 := rfl
set_option maxRecDepth 65536 in
theorem w_args : argsFit about1.vm theMethod args0 = true := by decide +kernel
set_option maxRecDepth 65536 in
theorem w_heap : heapFits about1 = true := by decide +kernel
set_option maxRecDepth 65536 in
theorem w_runnable : about1.curStatus? = some .runnable := by decide +kernel
set_option maxRecDepth 65536 in
theorem w_alone : about1.alone = true := by decide +kernel
set_option maxRecDepth 65536 in
theorem w_named : about1.methodNamed? x = some theMethod := by decide +kernel
set_option maxRecDepth 65536 in
theorem w_hears : about1.hears theMethod below0 = true := by decide +kernel
set_option maxRecDepth 65536 in
theorem w_ripe : about1.ripe theMethod args0 below0 = true := by decide +kernel
theorem w_running : about1.status = .running := rfl
set_option maxRecDepth 65536 in
theorem w_room : about1.hasRoom e0.platform room_1 = true :=
  launch0.hasRoom_least _ room_1 (by decide +kernel) (by decide +kernel) (by decide +kernel) (by decide +kernel) (by decide +kernel) (by decide +kernel)
theorem allAtoms_all (ts : List Jvm.Cond) (a : Array Jvm.Value) (st : Jvm.State) : (allAtoms ts).before a st = ts.all (fun c => c.before a st) := by
  induction ts with
  | nil => rfl
  | cons c t ih =>
    show (Jvm.Cond.and c (allAtoms t)).before a st = _
    rw [Jvm.Cond.before_and, ih, List.all_cons]
def words1 : List Jvm.Cond := Jvm.Cond.code x code maxLocals ret :: tables_1
/-- a 'code' word, met by the world's own term for the bytes: nothing is compared byte by byte -/
theorem code_word {y : MethodName} {bytes : ByteArray} {mx : Nat} {rt : Option FieldType} {a : Array Value} {s : State} {m : MethodId} {meth : Method} {c : Code} (h1 : s.methodNamed? y = some m) (h2 : s.vm.method? m = some meth) (h3 : meth.code = some c) (h4 : c.code = bytes)
    (h5 : (c.maxLocals == mx && c.exceptionTable.isEmpty && decide (c.maxStack ≤ mostOperands) && decide (meth.sig.returnType = rt) && !meth.locks && decide (parseMethodDescriptor y.desc = some meth.sig)) = true) : (Jvm.Cond.code y bytes mx rt).before a s = true := by
  simp only [Bool.and_eq_true, beq_iff_eq, Bool.not_eq_true', decide_eq_true_eq] at h5
  obtain ⟨⟨⟨⟨⟨g1, g2⟩, g3⟩, g4⟩, g5⟩, g6⟩ := h5
  simp [Cond.before, Cond.holds, Cond.value, h1, h2, h3, h4, g1, g2, g3, g4, g5, g6]
def isCode : Jvm.Cond → Bool
  | .code _ _ _ _ => true
  | _ => false
theorem all_split {L : List Jvm.Cond} {P : Jvm.Cond → Bool} (h1 : L.all (fun c => isCode c || P c) = true) (h2 : ∀ c ∈ L.filter isCode, P c = true) : L.all P = true := by
  refine List.all_eq_true.mpr fun c hc => ?_
  have h := List.all_eq_true.mp h1 c hc
  rcases Bool.eq_false_or_eq_true (isCode c) with hi | hi
  · exact h2 c (List.mem_filter.mpr ⟨hc, hi⟩)
  · simpa [hi] using h
set_option maxRecDepth 65536 in
theorem w_c0 : (Jvm.Cond.code x code maxLocals ret).before args0 about1 = true := code_word (m := ⟨1, 1⟩) (meth := k1m1) (c := k1c1) (by decide +kernel) rfl rfl rfl (by decide +kernel)
set_option maxRecDepth 65536 in
theorem w_c1 : (Jvm.Cond.code ({ cls := "java/lang/Math", name := "min", desc := "(II)I" } : Jvm.MethodName) jdk_29_method_69_code (2 : Nat) (Option.some Jvm.ClassFile.FieldType.int)).before args0 about1 = true := code_word (m := ⟨2, 1⟩) (meth := k2m1) (c := k2c1) (by decide +kernel) rfl rfl rfl (by decide +kernel)
set_option maxRecDepth 65536 in
theorem w_c2 : (Jvm.Cond.code ({ cls := "com/example/holdfast/holdfast/fill/UnitOrderNextPinLaw", name := "arr", desc := "(I)[I" } : Jvm.MethodName) method_3_code (1 : Nat) (Option.some (Jvm.ClassFile.FieldType.array Jvm.ClassFile.FieldType.int))).before args0 about1 = true := code_word (m := ⟨1, 2⟩) (meth := k1m2) (c := k1c2) (by decide +kernel) rfl rfl rfl (by decide +kernel)
set_option maxRecDepth 65536 in
theorem w_c3 : (Jvm.Cond.code ({ cls := "com/example/holdfast/holdfast/fill/UnitOrder", name := "<init>", desc := "([I)V" } : Jvm.MethodName) prog_76_method_1_code (3 : Nat) (Option.none : Option Jvm.ClassFile.FieldType)).before args0 about1 = true := code_word (m := ⟨3, 0⟩) (meth := k3m0) (c := k3c0) (by decide +kernel) rfl rfl rfl (by decide +kernel)
set_option maxRecDepth 65536 in
theorem w_c4 : (Jvm.Cond.code ({ cls := "java/lang/Object", name := "<init>", desc := "()V" } : Jvm.MethodName) object_method_1_code (1 : Nat) (Option.none : Option Jvm.ClassFile.FieldType)).before args0 about1 = true := code_word (m := ⟨0, 0⟩) (meth := k0m0) (c := k0c0) (by decide +kernel) rfl rfl rfl (by decide +kernel)
set_option maxRecDepth 65536 in
theorem w_c5 : (Jvm.Cond.code ({ cls := "com/example/holdfast/holdfast/fill/UnitOrder", name := "next", desc := "([I)I" } : Jvm.MethodName) prog_76_method_7_code (5 : Nat) (Option.some Jvm.ClassFile.FieldType.int)).before args0 about1 = true := code_word (m := ⟨3, 1⟩) (meth := k3m1) (c := k3c1) (by decide +kernel) rfl rfl rfl (by decide +kernel)
set_option maxRecDepth 65536 in
theorem w_c6 : (Jvm.Cond.code ({ cls := "com/example/holdfast/holdfast/fill/UnitOrderNextPinLaw", name := "at", desc := "([IIIIIIII)Z" } : Jvm.MethodName) method_4_code (8 : Nat) (Option.some Jvm.ClassFile.FieldType.boolean)).before args0 about1 = true := code_word (m := ⟨1, 3⟩) (meth := k1m3) (c := k1c3) (by decide +kernel) rfl rfl rfl (by decide +kernel)
set_option maxRecDepth 65536 in
theorem w_c7 : (Jvm.Cond.code ({ cls := "com/example/holdfast/holdfast/fill/UnitOrderNextPinLaw", name := "expected", desc := "(IIIII)I" } : Jvm.MethodName) method_6_code (12 : Nat) (Option.some Jvm.ClassFile.FieldType.int)).before args0 about1 = true := code_word (m := ⟨1, 5⟩) (meth := k1m5) (c := k1c5) (by decide +kernel) rfl rfl rfl (by decide +kernel)
set_option maxRecDepth 65536 in
theorem w_c8 : (Jvm.Cond.code ({ cls := "com/example/holdfast/holdfast/fill/UnitOrderNextPinLaw", name := "cnt", desc := "(IIII)I" } : Jvm.MethodName) method_5_code (4 : Nat) (Option.some Jvm.ClassFile.FieldType.int)).before args0 about1 = true := code_word (m := ⟨1, 4⟩) (meth := k1m4) (c := k1c4) (by decide +kernel) rfl rfl rfl (by decide +kernel)
def codes1 : List Jvm.Cond := [Jvm.Cond.code x code maxLocals ret, Jvm.Cond.code ({ cls := "java/lang/Math", name := "min", desc := "(II)I" } : Jvm.MethodName) jdk_29_method_69_code (2 : Nat) (Option.some Jvm.ClassFile.FieldType.int), Jvm.Cond.code ({ cls := "com/example/holdfast/holdfast/fill/UnitOrderNextPinLaw", name := "arr", desc := "(I)[I" } : Jvm.MethodName) method_3_code (1 : Nat) (Option.some (Jvm.ClassFile.FieldType.array Jvm.ClassFile.FieldType.int)), Jvm.Cond.code ({ cls := "com/example/holdfast/holdfast/fill/UnitOrder", name := "<init>", desc := "([I)V" } : Jvm.MethodName) prog_76_method_1_code (3 : Nat) (Option.none : Option Jvm.ClassFile.FieldType), Jvm.Cond.code ({ cls := "java/lang/Object", name := "<init>", desc := "()V" } : Jvm.MethodName) object_method_1_code (1 : Nat) (Option.none : Option Jvm.ClassFile.FieldType), Jvm.Cond.code ({ cls := "com/example/holdfast/holdfast/fill/UnitOrder", name := "next", desc := "([I)I" } : Jvm.MethodName) prog_76_method_7_code (5 : Nat) (Option.some Jvm.ClassFile.FieldType.int), Jvm.Cond.code ({ cls := "com/example/holdfast/holdfast/fill/UnitOrderNextPinLaw", name := "at", desc := "([IIIIIIII)Z" } : Jvm.MethodName) method_4_code (8 : Nat) (Option.some Jvm.ClassFile.FieldType.boolean), Jvm.Cond.code ({ cls := "com/example/holdfast/holdfast/fill/UnitOrderNextPinLaw", name := "expected", desc := "(IIIII)I" } : Jvm.MethodName) method_6_code (12 : Nat) (Option.some Jvm.ClassFile.FieldType.int), Jvm.Cond.code ({ cls := "com/example/holdfast/holdfast/fill/UnitOrderNextPinLaw", name := "cnt", desc := "(IIII)I" } : Jvm.MethodName) method_5_code (4 : Nat) (Option.some Jvm.ClassFile.FieldType.int)]
set_option maxRecDepth 65536 in
theorem codes_eq : words1.filter isCode = codes1 := rfl
theorem w_codes : ∀ c ∈ words1.filter isCode, c.before args0 about1 = true := by
  rw [codes_eq]
  intro c hc
  simp only [codes1, List.mem_cons, List.not_mem_nil, or_false] at hc
  rcases hc with rfl | rfl | rfl | rfl | rfl | rfl | rfl | rfl | rfl
  · exact w_c0
  · exact w_c1
  · exact w_c2
  · exact w_c3
  · exact w_c4
  · exact w_c5
  · exact w_c6
  · exact w_c7
  · exact w_c8
set_option maxRecDepth 65536 in
theorem w_t1 : (words1.take 24).all (fun c => isCode c || c.before args0 about1) = true := by decide +kernel
set_option maxRecDepth 65536 in
theorem w_t2 : (words1.drop 24).all (fun c => isCode c || c.before args0 about1) = true := by decide +kernel
theorem w_tables : (allAtoms (Jvm.Cond.code x code maxLocals ret :: tables_1)).before args0 about1 = true := by
  rw [allAtoms_all]
  show words1.all (fun c => c.before args0 about1) = true
  refine all_split ?_ w_codes
  rw [← List.take_append_drop 24 words1, List.all_append, w_t1, w_t2]
  rfl
set_option maxRecDepth 65536 in
theorem w_case : (Jvm.Cond.and given_1 narrow_1).before args0 about1 = true := by decide +kernel
theorem w_applies : (headSpec (Jvm.Cond.code x code maxLocals ret :: tables_1) room_1).applies x e0.platform about1 = true :=
  (Spec.applies_iff w_frames).mpr ⟨w_running, w_runnable, w_alone, w_named, w_hears, w_ripe, w_room, w_tables⟩
theorem atStart : AtStart classFile x code maxLocals ret World_1 tables_1 room_1 Calls_1 rest_1 Pre_1 launch0 p0 e0 about1 theMethod args0 below0 :=
  ⟨lists_1, trivial, launch0.admits_env _ _ _, launch0.least_env, fairChoices_fair.cas, fairChoices_fair.clock, w_frames, w_args, w_heap, w_applies, trivial, trivial, w_case⟩
end start1
theorem witness_1 : WitnessClaimed_1 := ⟨start1.p0, start1.e0, start1.about1, start1.theMethod, start1.args0, start1.below0, start1.atStart⟩
end Jvm.Pilot.@@N@@
