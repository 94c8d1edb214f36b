import JvmDerived
import JvmDerived.Pilot.@@N@@Statement
import JvmDerived.Pilot.@@N@@Code
set_option linter.unusedVariables false
set_option linter.unusedSimpArgs false
namespace Jvm.RoadKit
open Sem ClassFile Op Lib Jvm.Stand Jvm.Free Jvm.LawKit
section New
variable {p : Program} {l : Launch} {e : Env} {R : Room} {s : State} {m : MethodId} {args : Array Value} {below : List Frame} {meth : Method} {c : Code} {T : State} {locs : List Loc} {cells slots : Nat}
theorem retI (X : Stand p l e R s m args below meth c T locs cells slots) (hx : p.tables.exec = Jvm.exec) {pc : Nat} {Ls : Array Slot} {z : Int32} {rest : List Value} (hret : meth.sig.returnType = some .int) (hd : decode c.code pc = .ok (.ireturn, 1)) {fs : List Frame}
    (hl : ∀ (f : JFrame) (acts : List Action), f.method = m → f.locked = none → f.entered = [] → (doReturn e (T.setTop f) acts (some (.int z))).1 = T.setFrames fs) : Steps p.tables e below (T.setTop (mkF m pc Ls (.int z :: rest))) (T.setFrames fs) := by
  have hm' : T.vm.method? m = some meth := X.method'
  have hn : narrow .int (.int z) = .int z := rfl
  show Steps p.tables e below (T.setTop { method := m, pc := pc, locals := Ls, stack := _ :: rest, locked := none }) _
  jvm_step X.here [X.here.top, hx, hd, hm', hret, hn]
  first | (intro acts; rw [hl _ acts rfl rfl rfl]) | rw [hl _ _ rfl rfl rfl]
  exact Steps.refl _
end New
end Jvm.RoadKit
namespace Jvm.Pilot.@@N@@
open Jvm Jvm.ClassFile Sem Op Lib Jvm.Free Jvm.Stand Jvm.LawKit Jvm.RoadKit Bundle Jvm.Pilot.@@N@@.Jvm.D
/-! THE WALK IN SHORT: where a walk stands (St), what is fixed about the body (Cx), that a run from a frame comes to an end that says P (Con); a straight run of plain instructions in one row (own_run). -/
section OwnKit
def St (p : Program) (l : Launch) (e : Env) (R : Room) (s : State) (m : MethodId) (args : Array Value) (below : List Frame) (meth : Method) (c : Code) (n0 : Nat) (T : State) (h : Heap) (cells slots : Nat) : Prop :=
  ∃ locs, Stand p l e R s m args below meth c T locs cells slots ∧ T.heap = h ∧ Fr n0 locs ∧ n0 ≤ h.size
def Cx (p : Program) (s Z : State) (m : MethodId) (meth : Method) (c : Code) (bytes : ByteArray) (own : String) (maxL : Nat) (ret : Option FieldType) (nm : String) : Prop :=
  p.tables.exec = Jvm.exec ∧ Z.Warmed39 s.vm ∧ c.code = bytes ∧ s.vm.findClass own = some m.cls ∧ c.maxLocals = maxL ∧ meth.sig.returnType = ret ∧ meth.locks = false ∧ meth.name = nm
def Con (p : Program) (e : Env) (below : List Frame) (T : State) (g : JFrame) (P : State → Outcome → Prop) : Prop :=
  ∃ t o, Steps p.tables e below (T.setTop g) t ∧ t.status = .running ∧ Ended t below o ∧ P t o
def ilen : Instr → Nat
  | .iload _ => 2 | .aload _ => 2 | .istore _ => 2 | .astore _ => 2 | .bipush _ => 2 | .lload _ => 2 | .lstore _ => 2
  | .sipush _ => 3 | .iinc _ _ => 3 | .goto _ => 3
  | _ => 1
def pstep (i : Instr) (pc : Nat) (Ls : Array Slot) (st : List Value) : Option (Nat × Array Slot × List Value) :=
  match i with
  | .iload_n k => match Ls[k.val]? with | some (.val (.int v)) => some (pc + 1, Ls, .int v :: st) | _ => none
  | .iload k => match Ls[k]? with | some (.val (.int v)) => some (pc + 2, Ls, .int v :: st) | _ => none
  | .aload_n k => match Ls[k.val]? with | some (.val v) => if v.isRef = true then some (pc + 1, Ls, v :: st) else none | _ => none
  | .aload k => match Ls[k]? with | some (.val v) => if v.isRef = true then some (pc + 2, Ls, v :: st) else none | _ => none
  | .lload k => match Ls[k]? with | some (.val (.long v)) => some (pc + 2, Ls, .long v :: st) | _ => none
  | .istore_n k => match st with | .int x :: r => (match storeLocals Ls k.val (.int x) with | some L => some (pc + 1, L, r) | none => none) | _ => none
  | .istore k => match st with | .int x :: r => (match storeLocals Ls k (.int x) with | some L => some (pc + 2, L, r) | none => none) | _ => none
  | .astore_n k => match st with | x :: r => (if x.isRef = true then (match storeLocals Ls k.val x with | some L => some (pc + 1, L, r) | none => none) else none) | _ => none
  | .astore k => match st with | x :: r => (if x.isRef = true then (match storeLocals Ls k x with | some L => some (pc + 2, L, r) | none => none) else none) | _ => none
  | .lstore k => match st with | .long x :: r => (match storeLocals Ls k (.long x) with | some L => some (pc + 2, L, r) | none => none) | _ => none
  | .iconst i => some (pc + 1, Ls, .int (Int32.ofInt i) :: st)
  | .lconst k => some (pc + 1, Ls, .long (Int64.ofNat k) :: st)
  | .bipush i => some (pc + 2, Ls, .int (Int8.ofInt i).toInt32 :: st)
  | .sipush i => some (pc + 3, Ls, .int (Int16.ofInt i).toInt32 :: st)
  | .aconst_null => some (pc + 1, Ls, .null :: st)
  | .iadd => match st with | .int y :: .int x :: r => some (pc + 1, Ls, .int (x + y) :: r) | _ => none
  | .isub => match st with | .int y :: .int x :: r => some (pc + 1, Ls, .int (x - y) :: r) | _ => none
  | .imul => match st with | .int y :: .int x :: r => some (pc + 1, Ls, .int (x * y) :: r) | _ => none
  | .iand => match st with | .int y :: .int x :: r => some (pc + 1, Ls, .int (x &&& y) :: r) | _ => none
  | .ior => match st with | .int y :: .int x :: r => some (pc + 1, Ls, .int (x ||| y) :: r) | _ => none
  | .ishl => match st with | .int y :: .int x :: r => some (pc + 1, Ls, .int (x <<< (y &&& 31)) :: r) | _ => none
  | .ishr => match st with | .int y :: .int x :: r => some (pc + 1, Ls, .int (x >>> (y &&& 31)) :: r) | _ => none
  | .iushr => match st with | .int y :: .int x :: r => some (pc + 1, Ls, .int (XT.ushr x y) :: r) | _ => none
  | .idiv => match st with | .int y :: .int x :: r => (if y = 0 then none else some (pc + 1, Ls, .int (x / y) :: r)) | _ => none
  | .irem => match st with | .int y :: .int x :: r => (if y = 0 then none else some (pc + 1, Ls, .int (x - (x / y) * y) :: r)) | _ => none
  | .i2b => match st with | .int x :: r => some (pc + 1, Ls, .int (x.toInt8.toInt32) :: r) | _ => none
  | .i2l => match st with | .int x :: r => some (pc + 1, Ls, .long (x.toInt64) :: r) | _ => none
  | .lsub => match st with | .long y :: .long x :: r => some (pc + 1, Ls, .long (x - y) :: r) | _ => none
  | .lneg => match st with | .long x :: r => some (pc + 1, Ls, .long (-x) :: r) | _ => none
  | .lcmp => match st with | .long y :: .long x :: r => some (pc + 1, Ls, .int (XT.cmpL x y) :: r) | _ => none
  | .dup => match st with | x :: r => (if x.category = 1 then some (pc + 1, Ls, x :: x :: r) else none) | _ => none
  | .iinc k z => match Ls[k]? with | some (.val (.int x)) => (match storeLocals Ls k (.int (x + Int32.ofInt z)) with | some L => some (pc + 3, L, st) | none => none) | _ => none
  | .goto o => if 0 ≤ (pc : Int) + o then some (((pc : Int) + o).toNat, Ls, st) else none
  | _ => none
/-- where the next instruction of a straight run lies -/
def nextPc (i : Instr) (pc : Nat) : Nat := match i with | .goto o => ((pc : Int) + o).toNat | _ => pc + ilen i
def fetchOk (bytes : ByteArray) : Nat → List Instr → Bool
  | _, [] => true
  | pc, i :: r => decide (decode bytes pc = .ok (i, ilen i)) && fetchOk bytes (nextPc i pc) r
def prun : Nat → Array Slot → List Value → List Instr → Option (Nat × Array Slot × List Value)
  | pc, Ls, st, [] => some (pc, Ls, st)
  | pc, Ls, st, i :: r => match pstep i pc Ls st with | some (pc', Ls', st') => if nextPc i pc = pc' then prun pc' Ls' st' r else none | none => none
variable {p : Program} {l : Launch} {e : Env} {R : Room} {s : State} {m : MethodId} {args : Array Value} {below : List Frame} {meth : Method} {c : Code} {T : State} {h : Heap} {cells slots n0 : Nat} {Z : State} {a0 : Array Value} {bytes : ByteArray} {own : String} {maxL : Nat} {ret : Option FieldType} {nm : String} {P : State → Outcome → Prop}
theorem via {T' : State} {g g' : JFrame} (st : ∀ target, Steps p.tables e below (T'.setTop g') target → Steps p.tables e below (T.setTop g) target) (k : Con p e below T' g' P) : Con p e below T g P := by
  obtain ⟨t, o, h1, r⟩ := k; exact ⟨t, o, st t h1, r⟩
theorem own_run1 (S : St p l e R s m args below meth c n0 T h cells slots) (C : Cx p s Z m meth c bytes own maxL ret nm) {i : Instr} {pc : Nat} {Ls : Array Slot} {st : List Value} {q : Nat × Array Slot × List Value}
    (hd : decode bytes pc = .ok (i, ilen i)) (hp : pstep i pc Ls st = some q) (k : Con p e below T (mkF m q.1 q.2.1 q.2.2) P) : Con p e below T (mkF m pc Ls st) P := by
  obtain ⟨locs, X, -⟩ := S
  obtain ⟨hx, -, hby, -⟩ := C
  have hd' := hb hby hd
  unfold pstep at hp
  split at hp
  · split at hp
    · cases hp; exact via (fun t z => XS.iloadN X.here hx rfl hd' ‹_› z) k
    · cases hp
  · split at hp
    · cases hp; exact via (fun t z => XS.iload X.here hx rfl hd' ‹_› z) k
    · cases hp
  · split at hp
    · split at hp
      · cases hp; exact via (fun t z => XS.aloadN X.here hx rfl hd' ‹_› ‹_› z) k
      · cases hp
    · cases hp
  · split at hp
    · split at hp
      · cases hp; exact via (fun t z => XS.aload X.here hx rfl hd' ‹_› ‹_› z) k
      · cases hp
    · cases hp
  · split at hp
    · cases hp; exact via (fun t z => XT.lload X.here hx rfl hd' ‹_› z) k
    · cases hp
  · split at hp
    · split at hp
      · cases hp; exact via (fun t z => XS.istoreN X.here hx rfl hd' rfl ‹_› z) k
      · cases hp
    · cases hp
  · split at hp
    · split at hp
      · cases hp; exact via (fun t z => XS.istore X.here hx rfl hd' rfl ‹_› z) k
      · cases hp
    · cases hp
  · split at hp
    · split at hp
      · split at hp
        · cases hp; exact via (fun t z => XS.astoreN X.here hx rfl hd' rfl ‹_› ‹_› z) k
        · cases hp
      · cases hp
    · cases hp
  · split at hp
    · split at hp
      · split at hp
        · cases hp; exact via (fun t z => XS.astore X.here hx rfl hd' rfl ‹_› ‹_› z) k
        · cases hp
      · cases hp
    · cases hp
  · split at hp
    · split at hp
      · cases hp; exact via (fun t z => XT.lstore X.here hx rfl hd' rfl ‹_› z) k
      · cases hp
    · cases hp
  · cases hp; exact via (fun t z => XS.iconst X.here hx rfl hd' z) k
  · cases hp; exact via (fun t z => XT.lconst X.here hx rfl hd' z) k
  · cases hp; exact via (fun t z => XS.bipush X.here hx rfl hd' z) k
  · cases hp; exact via (fun t z => XS.sipush X.here hx rfl hd' z) k
  · cases hp; exact via (fun t z => XS.aconstNull X.here hx rfl hd' z) k
  · split at hp
    · cases hp; exact via (fun t z => XS.iadd X.here hx rfl hd' rfl z) k
    · cases hp
  · split at hp
    · cases hp; exact via (fun t z => XS.isub X.here hx rfl hd' rfl z) k
    · cases hp
  · split at hp
    · cases hp; exact via (fun t z => XS.imul X.here hx rfl hd' rfl z) k
    · cases hp
  · split at hp
    · cases hp; exact via (fun t z => XS.iand X.here hx rfl hd' rfl z) k
    · cases hp
  · split at hp
    · cases hp; exact via (fun t z => XT.ior X.here hx rfl hd' rfl z) k
    · cases hp
  · split at hp
    · cases hp; exact via (fun t z => XT.ishl X.here hx rfl hd' rfl z) k
    · cases hp
  · split at hp
    · cases hp; exact via (fun t z => XT.ishr X.here hx rfl hd' rfl z) k
    · cases hp
  · split at hp
    · cases hp; exact via (fun t z => XT.iushr X.here hx rfl hd' rfl z) k
    · cases hp
  · split at hp
    · split at hp
      · cases hp
      · cases hp; exact via (fun t z => XS.idiv X.here hx rfl hd' rfl ‹_› z) k
    · cases hp
  · split at hp
    · split at hp
      · cases hp
      · cases hp; exact via (fun t z => XS.irem X.here hx rfl hd' rfl ‹_› z) k
    · cases hp
  · split at hp
    · cases hp; exact via (fun t z => XT.i2b X.here hx rfl hd' rfl z) k
    · cases hp
  · split at hp
    · cases hp; exact via (fun t z => XT.i2l X.here hx rfl hd' rfl z) k
    · cases hp
  · split at hp
    · cases hp; exact via (fun t z => XT.lsub X.here hx rfl hd' rfl z) k
    · cases hp
  · split at hp
    · cases hp; exact via (fun t z => XT.lneg X.here hx rfl hd' rfl z) k
    · cases hp
  · split at hp
    · cases hp; exact via (fun t z => XT.lcmp X.here hx rfl hd' rfl z) k
    · cases hp
  · split at hp
    · split at hp
      · cases hp; exact via (fun t z => XS.dup X.here hx rfl hd' rfl ‹_› z) k
      · cases hp
    · cases hp
  · split at hp
    · split at hp
      · cases hp; exact via (fun t z => XS.iinc X.here hx rfl hd' ‹_› ‹_› z) k
      · cases hp
    · cases hp
  · split at hp
    · cases hp; exact via (fun t z => XS.goto X.here hx rfl rfl hd' ‹_› rfl z) k
    · cases hp
  · cases hp
/-- a straight run of plain instructions -/
theorem own_run (S : St p l e R s m args below meth c n0 T h cells slots) (C : Cx p s Z m meth c bytes own maxL ret nm) {pc' : Nat} {Ls' : Array Slot} {st' : List Value} :
    ∀ (is : List Instr) {pc : Nat} {Ls : Array Slot} {st : List Value}, fetchOk bytes pc is = true → prun pc Ls st is = some (pc', Ls', st') → Con p e below T (mkF m pc' Ls' st') P → Con p e below T (mkF m pc Ls st) P
  | [], pc, Ls, st, _, hp, k => by cases hp; exact k
  | i :: r, pc, Ls, st, hf, hp, k => by
    simp only [fetchOk, Bool.and_eq_true, decide_eq_true_eq] at hf
    simp only [prun] at hp
    split at hp
    · split at hp
      · rename_i pc1 Ls1 st1 h1 h2
        subst h2
        exact own_run1 S C hf.1 h1 (own_run S C r hf.2 hp k)
      · cases hp
    · cases hp
end OwnKit
section OwnKit2
variable {p : Program} {l : Launch} {e : Env} {R : Room} {s : State} {m : MethodId} {args : Array Value} {below : List Frame} {meth : Method} {c : Code} {T : State} {h h' : Heap} {cells slots n0 : Nat} {Z : State} {a0 : Array Value} {bytes : ByteArray} {own : String} {maxL : Nat} {ret : Option FieldType} {nm : String} {P : State → Outcome → Prop} {pc pc' : Nat} {Ls : Array Slot} {st : List Value}
/-! branches -/
theorem own_icmp (S : St p l e R s m args below meth c n0 T h cells slots) (C : Cx p s Z m meth c bytes own maxL ret nm) {cd : ClassFile.Cond} {o : Int} {x y : Int32} (hd : decode bytes pc = .ok (.if_icmp cd o, 3)) (hp : 0 ≤ (pc : Int) + o ∧ ((pc : Int) + o).toNat = pc')
    (yes : if_icmp.holds cd x y = true → Con p e below T (mkF m pc' Ls st) P) (no : if_icmp.holds cd x y = false → Con p e below T (mkF m (pc + 3) Ls st) P) : Con p e below T (mkF m pc Ls (.int y :: .int x :: st)) P := by
  obtain ⟨locs, X, -⟩ := S
  obtain ⟨hx, -, hby, -⟩ := C
  cases hc : if_icmp.holds cd x y with
  | true => exact via (fun t z => XS.icmpYes X.here hx rfl rfl (hb hby hd) rfl hc hp.1 hp.2 z) (yes hc)
  | false => exact via (fun t z => XS.icmpNo X.here hx rfl (hb hby hd) rfl hc z) (no hc)
theorem own_if (S : St p l e R s m args below meth c n0 T h cells slots) (C : Cx p s Z m meth c bytes own maxL ret nm) {cd : ClassFile.Cond} {o : Int} {x : Int32} (hd : decode bytes pc = .ok (.ifCond cd o, 3)) (hp : 0 ≤ (pc : Int) + o ∧ ((pc : Int) + o).toNat = pc')
    (yes : if_icmp.holds cd x 0 = true → Con p e below T (mkF m pc' Ls st) P) (no : if_icmp.holds cd x 0 = false → Con p e below T (mkF m (pc + 3) Ls st) P) : Con p e below T (mkF m pc Ls (.int x :: st)) P := by
  obtain ⟨locs, X, -⟩ := S
  obtain ⟨hx, -, hby, -⟩ := C
  cases hc : if_icmp.holds cd x 0 with
  | true => exact via (fun t z => XS.ifYes X.here hx rfl rfl (hb hby hd) rfl ((if0 cd x).trans hc) hp.1 hp.2 z) (yes hc)
  | false => exact via (fun t z => XS.ifNo X.here hx rfl (hb hby hd) rfl ((if0 cd x).trans hc) z) (no hc)
theorem own_ifnullNo (S : St p l e R s m args below meth c n0 T h cells slots) (C : Cx p s Z m meth c bytes own maxL ret nm) {o : Int} {b : Addr} (hd : decode bytes pc = .ok (.ifnull o, 3))
    (k : Con p e below T (mkF m (pc + 3) Ls st) P) : Con p e below T (mkF m pc Ls (.ref b :: st)) P := by
  obtain ⟨locs, X, -⟩ := S
  obtain ⟨hx, -, hby, -⟩ := C
  exact via (fun t z => XS.ifnullNo X.here hx rfl (hb hby hd) rfl z) k
theorem hh_lt {x y : Int32} : (if_icmp.holds .lt x y = true ↔ x.toInt < y.toInt) ∧ (if_icmp.holds .lt x y = false ↔ y.toInt ≤ x.toInt) := by
  rw [show if_icmp.holds .lt x y = decide (x < y) from rfl, decide_eq_true_eq, decide_eq_false_iff_not, Int32.lt_iff_toInt_lt]; omega
theorem hh_ge {x y : Int32} : (if_icmp.holds .ge x y = true ↔ y.toInt ≤ x.toInt) ∧ (if_icmp.holds .ge x y = false ↔ x.toInt < y.toInt) := by
  rw [show if_icmp.holds .ge x y = decide (y ≤ x) from rfl, decide_eq_true_eq, decide_eq_false_iff_not, Int32.le_iff_toInt_le]; omega
theorem hh_gt {x y : Int32} : (if_icmp.holds .gt x y = true ↔ y.toInt < x.toInt) ∧ (if_icmp.holds .gt x y = false ↔ x.toInt ≤ y.toInt) := by
  rw [show if_icmp.holds .gt x y = decide (y < x) from rfl, decide_eq_true_eq, decide_eq_false_iff_not, Int32.lt_iff_toInt_lt]; omega
theorem hh_le {x y : Int32} : (if_icmp.holds .le x y = true ↔ x.toInt ≤ y.toInt) ∧ (if_icmp.holds .le x y = false ↔ y.toInt < x.toInt) := by
  rw [show if_icmp.holds .le x y = decide (x ≤ y) from rfl, decide_eq_true_eq, decide_eq_false_iff_not, Int32.le_iff_toInt_le]; omega
theorem hh_eq {x y : Int32} : (if_icmp.holds .eq x y = true ↔ x.toInt = y.toInt) ∧ (if_icmp.holds .eq x y = false ↔ x.toInt ≠ y.toInt) := by
  rw [show if_icmp.holds .eq x y = (x == y) from rfl, beq_iff_eq, beq_eq_false_iff_ne, ne_eq, ← Int32.toInt_inj]; exact ⟨Iff.rfl, Iff.rfl⟩
theorem hh_ne {x y : Int32} : (if_icmp.holds .ne x y = true ↔ x.toInt ≠ y.toInt) ∧ (if_icmp.holds .ne x y = false ↔ x.toInt = y.toInt) := by
  rw [show if_icmp.holds .ne x y = (x != y) from rfl, bne_iff_ne, bne_eq_false_iff_eq, ne_eq, ← Int32.toInt_inj]; exact ⟨Iff.rfl, Iff.rfl⟩
/-! constants -/
theorem own_ldc (S : St p l e R s m args below meth c n0 T h cells slots) (C : Cx p s Z m meth c bytes own maxL ret nm) {idx : Nat} {v : Int32} (w : (Jvm.Cond.constant own idx v).before a0 Z = true) (hd : decode bytes pc = .ok (.ldc idx, 2))
    (k : Con p e below T (mkF m (pc + 2) Ls (.int v :: st)) P) : Con p e below T (mkF m pc Ls st) P := by
  obtain ⟨locs, X, -⟩ := S
  obtain ⟨hx, hZ, hby, hown, -⟩ := C
  exact via (X.ldcInt hx hown (mvT hZ w) (g := mkF m pc Ls st) rfl (hb hby hd)) k
/-- a remainder whose divisor isn't 0 -/
theorem own_irem (S : St p l e R s m args below meth c n0 T h cells slots) (C : Cx p s Z m meth c bytes own maxL ret nm) {x y : Int32} (hy : y ≠ 0) (hd : decode bytes pc = .ok (.irem, 1))
    (k : Con p e below T (mkF m (pc + 1) Ls (.int (x - (x / y) * y) :: st)) P) : Con p e below T (mkF m pc Ls (.int y :: .int x :: st)) P := by
  obtain ⟨locs, X, -⟩ := S
  obtain ⟨hx, hZ, hby, hown, -⟩ := C
  exact via (fun t z => XS.irem X.here hx rfl (hb hby hd) rfl hy z) k
/-! arrays of ints -/
def Ai (Z : State) (h : Heap) (a : Addr) (vs : List Int32) : Prop :=
  ∃ cl : Cell, Arr Z h a cl .int ∧ cl.slots.size = vs.length ∧ vs.length < 2 ^ 31 ∧ ∀ j, j < vs.length → cl.slots[j]? = some (.int (vs.getD j 0))
theorem Ai.lt {a : Addr} {vs : List Int32} (A : Ai Z h a vs) : a < h.size := by obtain ⟨c, A, -⟩ := A; exact A.lt
theorem Ai.ext {a : Addr} {vs : List Int32} (A : Ai Z h a vs) (E : Ext h h') : Ai Z h' a vs := by obtain ⟨c, A, r⟩ := A; exact ⟨c, A.ext E, r⟩
theorem Ai.other {a b : Addr} {vs : List Int32} {sl : Nat} {v : Value} (A : Ai Z h b vs) (W : Wr h h' a sl v) (q : b ≠ a) : Ai Z h' b vs := by obtain ⟨c, A, r⟩ := A; exact ⟨c, A.other W q, r⟩
theorem Ai.keep {a : Addr} {vs : List Int32} {ws : List Addr} (A : Ai Z h a vs) (K : Keep h h' ws) (q : a ∉ ws) : Ai Z h' a vs := by obtain ⟨c, A, r⟩ := A; exact ⟨c, ⟨K.2.1 a c A.1 q, A.2⟩, r⟩
theorem Ai.small {a : Addr} {vs : List Int32} (A : Ai Z h a vs) : vs.length < 2 ^ 31 := by obtain ⟨c, -, -, r, -⟩ := A; exact r
theorem own_idx {j : Int32} {n k : Nat} (hj : 0 ≤ j.toInt ∧ j.toInt < (n : Int)) (e : k = n) : ¬ (j < 0 ∨ k ≤ j.toNatClampNeg) := by
  subst e
  rw [Int32.lt_iff_toInt_lt, show (0 : Int32).toInt = 0 from rfl, show j.toNatClampNeg = j.toInt.toNat from rfl]
  omega
theorem own_newarray (S : St p l e R s m args below meth c n0 T h cells slots) (C : Cx p s Z m meth c bytes own maxL ret nm) (w : (Jvm.Cond.arrayClass .int).before a0 Z = true) (hd : decode bytes pc = .ok (.newarray .int, 2)) {n : Int32} (hn : 0 ≤ n.toInt) (cap : Nat) (hcap : n.toNatClampNeg ≤ cap) (hbig : cap * 8 ≤ 536870912)
    (hc : cells + 1 ≤ R.cells) (hs : slots + cap ≤ R.slots) {vs : List Int32} (hvs : List.replicate n.toNatClampNeg (0 : Int32) = vs)
    (k : ∀ (T' : State) (h' : Heap) (a : Addr), a = h.size → St p l e R s m args below meth c n0 T' h' (cells + 1) (slots + cap) → Ext h h' → n0 ≤ a → Ai Z h' a vs → Con p e below T' (mkF m (pc + 2) Ls (.ref a :: st)) P) : Con p e below T (mkF m pc Ls (.int n :: st)) P := by
  obtain ⟨locs, X, e0, N, Z0⟩ := S
  obtain ⟨hx, hZ, hby, hown, -⟩ := C
  have hneg : ¬ n < 0 := by rw [Int32.lt_iff_toInt_lt, show (0 : Int32).toInt = 0 from rfl]; omega
  obtain ⟨T', h', cA, X', e', E, A, stp⟩ := newP X hx hZ (aty := .int) w e0 (g := mkF m pc Ls (.int n :: st)) rfl (hb hby hd) rfl hneg (cap := cap) hcap hbig hc hs
  refine via stp (k T' h' h.size rfl ⟨locs, X', e', N, Nat.le_trans Z0 E.1⟩ E Z0 ⟨_, A, ?_, ?_, fun j hj => ?_⟩)
  · rw [sz_new, ← hvs, List.length_replicate]
  · rw [← hvs, List.length_replicate, show n.toNatClampNeg = n.toInt.toNat from rfl]
    have := n.toInt_lt
    omega
  · subst hvs
    rw [List.length_replicate] at hj
    have hg : (List.replicate n.toNatClampNeg (0 : Int32)).getD j 0 = 0 := by
      rw [List.getD_eq_getElem?_getD, List.getElem?_replicate]; split <;> rfl
    rw [hg]
    show (Array.replicate n.toNatClampNeg (Value.int 0))[j]? = _
    rw [Array.getElem?_replicate, if_pos hj]
theorem own_alen (S : St p l e R s m args below meth c n0 T h cells slots) (C : Cx p s Z m meth c bytes own maxL ret nm) {a : Addr} {vs : List Int32} (A : Ai Z h a vs) (hd : decode bytes pc = .ok (.arraylength, 1)) {v : Int32} (hv : Int32.ofNat vs.length = v)
    (k : Con p e below T (mkF m (pc + 1) Ls (.int v :: st)) P) : Con p e below T (mkF m pc Ls (.ref a :: st)) P := by
  obtain ⟨locs, X, e0, N, Z0⟩ := S
  obtain ⟨hx, hZ, hby, hown, -⟩ := C
  obtain ⟨cl, A, hsz, hsm, hat⟩ := A
  refine via (fun t z => X.arraylength hx (cell := cl) (by rw [e0]; exact A.1) (State.isArrayOf_alike hZ.alike A.2.1) (g := mkF m pc Ls (.ref a :: st)) rfl (rest := st) rfl (hb hby hd) t z) ?_
  rw [hsz]; subst hv; exact k
theorem own_iaload (S : St p l e R s m args below meth c n0 T h cells slots) (C : Cx p s Z m meth c bytes own maxL ret nm) {a : Addr} {vs : List Int32} (A : Ai Z h a vs) (hd : decode bytes pc = .ok (.iaload, 1)) {j v : Int32} (hj : 0 ≤ j.toInt ∧ j.toInt < (vs.length : Int)) (hv : vs.getD j.toNatClampNeg 0 = v)
    (k : Con p e below T (mkF m (pc + 1) Ls (.int v :: st)) P) : Con p e below T (mkF m pc Ls (.int j :: .ref a :: st)) P := by
  obtain ⟨locs, X, e0, N, Z0⟩ := S
  obtain ⟨hx, hZ, hby, hown, -⟩ := C
  obtain ⟨cl, A, hsz, hsm, hat⟩ := A
  have hlt : j.toNatClampNeg < vs.length := by rw [show j.toNatClampNeg = j.toInt.toNat from rfl]; omega
  subst hv
  exact via (fun t z => X.iaload hx (j := j) (v := .int (vs.getD j.toNatClampNeg 0)) (by rw [e0]; exact A.1) (State.isArrayOf_alike hZ.alike A.2.1) A.2.2 (own_idx hj hsz) (hat _ hlt) (g := mkF m pc Ls (.int j :: .ref a :: st)) rfl rfl (hb hby hd) t z) k
theorem own_iastore (S : St p l e R s m args below meth c n0 T h cells slots) (C : Cx p s Z m meth c bytes own maxL ret nm) {a : Addr} {vs vs' : List Int32} (A : Ai Z h a vs) (hd : decode bytes pc = .ok (.iastore, 1)) {j x : Int32} (hj : 0 ≤ j.toInt ∧ j.toInt < (vs.length : Int)) (ge : n0 ≤ a) (hv : vs.set j.toNatClampNeg x = vs')
    (k : ∀ (T' : State) (h' : Heap), St p l e R s m args below meth c n0 T' h' cells slots → Keep h h' [a] → Ai Z h' a vs' → Con p e below T' (mkF m (pc + 1) Ls st) P) : Con p e below T (mkF m pc Ls (.int x :: .int j :: .ref a :: st)) P := by
  obtain ⟨locs, X, e0, N, Z0⟩ := S
  obtain ⟨hx, hZ, hby, hown, -⟩ := C
  obtain ⟨cl, A, hsz, hsm, hat⟩ := A
  have hlt : j.toNatClampNeg < vs.length := by rw [show j.toNatClampNeg = j.toInt.toNat from rfl]; omega
  obtain ⟨T', h', X', e', W, stp⟩ := stI X hx hZ e0 A (j := j) (x := x) (own_idx hj hsz) (g := mkF m pc Ls (.int x :: .int j :: .ref a :: st)) rfl rfl (hb hby hd)
  subst hv
  refine via stp (k T' h' ⟨_, X', e', Fr.snoc X' N ge, Nat.le_trans Z0 (Keep.of_wr W).1⟩ (Keep.of_wr W) ⟨_, A.same W, ?_, ?_, fun i hi => ?_⟩)
  · rw [sz_set, List.length_set]; exact hsz
  · rw [List.length_set]; exact hsm
  · rw [List.length_set] at hi
    by_cases u : j.toNatClampNeg = i
    · subst u
      rw [List.getD_eq_getElem?_getD, List.getElem?_set_self hi]
      simp only [Cell.setSlot]
      rw [Array.getElem?_setIfInBounds_self_of_lt (by rw [hsz]; exact hi)]
      rfl
    · have := hat i hi
      rw [List.getD_eq_getElem?_getD] at this ⊢
      rw [List.getElem?_set_ne u, ← this]
      simp only [Cell.setSlot]
      rw [Array.getElem?_setIfInBounds_ne u]
/-! what a body leaves -/
def Pq (s : State) (rm : Room) (n0 : Nat) (Q : Option Value → Heap → Prop) : State → Outcome → Prop := fun U' o => ∃ v L, o = .returned v ∧ (Fr n0 L ∧ n0 ≤ U'.heap.size ∧ Q v U'.heap) ∧ FrameEnd s o U' L rm.cells rm.slots
variable {Q : Option Value → Heap → Prop}
theorem own_reti (S : St p l e R s m args below meth c n0 T h cells slots) (C : Cx p s Z m meth c bytes own maxL (some .int) nm) {z : Int32} (hd : decode bytes pc = .ok (.ireturn, 1)) (hc : cells ≤ R.cells) (hs : slots ≤ R.slots) (q : Q (some (.int z)) h) : Con p e below T (mkF m pc Ls (.int z :: st)) (Pq s R n0 Q) := by
  obtain ⟨locs, X, e0, N, Z0⟩ := S
  obtain ⟨hx, hZ, hby, hown, hml, hret, hlk, -⟩ := C
  obtain ⟨fs, hr, hrun, hended, hW, hsame⟩ := X.leave (v := some (.int z)) (fun h => by rw [hret] at h; cases h) hlk
  subst e0
  exact ⟨_, _, retI X hx hret (hb hby hd) hr, hrun, hended, _, locs, rfl, ⟨N, Z0, q⟩, ⟨_, rfl⟩, hW, hsame.mono hc hs⟩
theorem own_retz (S : St p l e R s m args below meth c n0 T h cells slots) (C : Cx p s Z m meth c bytes own maxL (some .boolean) nm) {z z' : Int32} (hz : z &&& 1 = z') (hd : decode bytes pc = .ok (.ireturn, 1)) (hc : cells ≤ R.cells) (hs : slots ≤ R.slots) (q : Q (some (.int z')) h) : Con p e below T (mkF m pc Ls (.int z :: st)) (Pq s R n0 Q) := by
  obtain ⟨locs, X, e0, N, Z0⟩ := S
  obtain ⟨hx, hZ, hby, hown, hml, hret, hlk, -⟩ := C
  obtain ⟨fs, hr, hrun, hended, hW, hsame⟩ := X.leave (v := some (.int (nar .boolean z))) (fun h => by rw [hret] at h; cases h) hlk
  subst e0
  subst hz
  exact ⟨_, _, retN X hx (t := .boolean) hret (Or.inl rfl) (hb hby hd) hr, hrun, hended, _, locs, rfl, ⟨N, Z0, q⟩, ⟨_, rfl⟩, hW, hsame.mono hc hs⟩
theorem own_reta (S : St p l e R s m args below meth c n0 T h cells slots) {ft : FieldType} (C : Cx p s Z m meth c bytes own maxL (some ft) nm) (hft : ft.isReference = true) {a : Addr} (hd : decode bytes pc = .ok (.areturn, 1)) (hc : cells ≤ R.cells) (hs : slots ≤ R.slots) (q : Q (some (.ref a)) h) : Con p e below T (mkF m pc Ls [.ref a]) (Pq s R n0 Q) := by
  obtain ⟨locs, X, e0, N, Z0⟩ := S
  obtain ⟨hx, hZ, hby, hown, hml, hret, hlk, -⟩ := C
  obtain ⟨fs, hr, hrun, hended, hW, hsame⟩ := X.leave (v := some (.ref a)) (fun h => by rw [hret] at h; cases h) hlk
  subst e0
  exact ⟨_, _, X.areturnOut hx rfl hret hft (hb hby hd) hr, hrun, hended, _, locs, rfl, ⟨N, Z0, q⟩, ⟨_, rfl⟩, hW, hsame.mono hc hs⟩
theorem own_retv (S : St p l e R s m args below meth c n0 T h cells slots) (C : Cx p s Z m meth c bytes own maxL none nm) (hd : decode bytes pc = .ok (.return_, 1)) (hc : cells ≤ R.cells) (hs : slots ≤ R.slots) (q : Q none h) : Con p e below T (mkF m pc Ls []) (Pq s R n0 Q) := by
  obtain ⟨locs, X, e0, N, Z0⟩ := S
  obtain ⟨hx, hZ, hby, hown, hml, hret, hlk, -⟩ := C
  obtain ⟨fs, hr, hrun, hended, hW, hsame⟩ := X.leave (v := none) (fun _ => rfl) hlk
  subst e0
  exact ⟨_, _, X.returnOut hx hret (hb hby hd) hr, hrun, hended, _, locs, rfl, ⟨N, Z0, q⟩, ⟨_, rfl⟩, hW, hsame.mono hc hs⟩
/-! a body's contract, and how it is entered -/
def Mt (l : Launch) (Z : State) (y : MethodName) (bytes : ByteArray) (maxL : Nat) (ret : Option FieldType) (ws : List Jvm.Cond) (rm : Room) (as : Array Value) (h0 : Heap) (n0 : Nat) (Q : Option Value → Heap → Prop) : Prop :=
  MetFree l y (head1 (Jvm.Cond.code y bytes maxL ret :: ws) rm) (fun a U => a = as ∧ Z.Warmed39 U.vm ∧ U.heap = h0) (fun _ _ _ _ _ => True) (fun _ U o U' => ∃ v L, o = .returned v ∧ (Fr n0 L ∧ n0 ≤ U'.heap.size ∧ Q v U'.heap) ∧ FrameEnd U o U' L rm.cells rm.slots)
theorem Mt.of {y : MethodName} {ws : List Jvm.Cond} {rm : Room} {as : Array Value} (pn : plainFor y = true) (Z0 : n0 ≤ h.size) (ef : ∀ m, entryFrame m as maxL = mkF m 0 Ls []) (ho : y.cls = own) (hn : y.name = nm)
    (body : ∀ (p : Program) (e : Env) (s : State) (m : MethodId) (below : List Frame) (meth : Method) (c : Code) (T : State), Cx p s Z m meth c bytes own maxL ret nm → St p l e rm s m as below meth c n0 T h 0 0 → Con p e below T (mkF m 0 Ls []) (Pq s rm n0 Q)) :
    Mt l Z y bytes maxL ret ws rm as h n0 Q := by
  refine MetFree.of_bodySF pn hisR ?_
  intro p e s m args below meth c s₁ Bd hml0 hP hK
  obtain ⟨rfl, hZ, hh⟩ := hP
  have X0 : Stand p l e rm s m args below meth c s₁ [] 0 0 := Stand.of_body Bd
  have e0 : s₁.heap = h := by rw [← hh, Bd.state]; rfl
  subst ho hn
  obtain ⟨t, o, h1, h2, h3, h4⟩ := body p e s m below meth c s₁ ⟨Bd.exec, hZ, Bd.bytes, findClass_of_methodNamed Bd.named, hml0, Bd.returns, Bd.notSynchronized, (name_of_methodNamed Bd.named Bd.method).1⟩ ⟨[], X0, e0, Fr.nil n0, Z0⟩
  exact ⟨t, o, castTop (ef m) h1, h2, h3, h4⟩
/-! calls by contract -/
theorem own_callS (S : St p l e R s m args below meth c n0 T h cells slots) (C : Cx p s Z m meth c bytes own maxL ret nm) {y : MethodName} {yb : ByteArray} {yL : Nat} {yr : Option FieldType} {rm : Room} {idx : Nat} (w1 : (Jvm.Cond.methodLink own idx y).before a0 Z = true) (w2 : (Jvm.Cond.static y).before a0 Z = true) (w3 : (Jvm.Cond.initialized y.cls).before a0 Z = true) (w4 : (Jvm.Cond.code y yb yL yr).before a0 Z = true)
    (hy : y.cls ≠ "java/lang/invoke/MethodHandle" ∧ y.cls ≠ "java/lang/invoke/VarHandle") {as : Array Value} (hM : Mt l Z y yb yL yr [] rm as h n0 Q) (W : Nat) (hf : rm.frames + 1 ≤ R.frames) (hl : W + (yL + 11) + rm.locals ≤ R.locals) {ps : List FieldType} {r : Option FieldType} (pd : parseMethodDescriptor y.desc = some ⟨ps, r⟩) (argsL rest : List Value) (hn : argsL.length = ps.length) (ha : argsL.toArray = as)
    (hst : st = argsL.reverse ++ rest) (hW : (rest.map fun v => v.category).sum ≤ W) (hsz : Ls.size = maxL) (hd : decode bytes pc = .ok (.invokestatic idx, 3)) (hc : cells + rm.cells ≤ R.cells) (hs : slots + rm.slots ≤ R.slots)
    (k : ∀ (v : Option Value) (T' : State) (h' : Heap), St p l e R s m args below meth c n0 T' h' (cells + rm.cells) (slots + rm.slots) → Q v h' → Con p e below T' (mkF m (pc + 3) Ls (v.toList ++ rest)) P) : Con p e below T (mkF m pc Ls st) P := by
  obtain ⟨locs, X, e0, N, Z0⟩ := S
  obtain ⟨hx, hZ, hby, hown, hml, -⟩ := C
  obtain ⟨v, vm1, ⟨T', L', k', n'⟩, -, X', ⟨Lc, hQ, l1, y1, z1⟩, stp⟩ := Jvm.LawKit.callS X hx (y := y) hown (mvT hZ w1) (mvT hZ w2) (mvT hZ w3) (mvT hZ w4) hy (backOf (W := W) (Q := fun v h L => Fr n0 L ∧ n0 ≤ h.size ∧ Q v h) hM hZ w4 w3 hf hl) (g := mkF m pc Ls st) rfl (by rw [hml]; exact hsz) (argsL := argsL) (rest := rest) (lenOf pd hn) hst (by show 2 * 0 + _ ≤ _; omega) (hb hby hd) (fun _ _ => ⟨ha, e0, hc, hs⟩)
  dsimp only [Pt.U, Pt.locs, Pt.cells, Pt.slots] at X' l1 y1 z1 stp hQ
  subst l1 y1 z1
  exact via stp (k v T' _ ⟨_, X', rfl, Fr.app N hQ.1, hQ.2.1⟩ hQ.2.2)
theorem own_callI (S : St p l e R s m args below meth c n0 T h cells slots) (C : Cx p s Z m meth c bytes own maxL ret nm) {y : MethodName} {yb : ByteArray} {yL : Nat} {rm : Room} {idx : Nat} (hy1 : y.name = "<init>") (w1 : (Jvm.Cond.methodLink own idx y).before a0 Z = true) (w2 : (Jvm.Cond.instanceMethod y).before a0 Z = true) (w3 : (Jvm.Cond.initialized y.cls).before a0 Z = true) (w4 : (Jvm.Cond.code y yb yL none).before a0 Z = true)
    (hy : y.cls ≠ "java/lang/invoke/MethodHandle" ∧ y.cls ≠ "java/lang/invoke/VarHandle") {as : Array Value} (hM : Mt l Z y yb yL none [] rm as h n0 Q) (W : Nat) (hf : rm.frames + 1 ≤ R.frames) (hl : W + (yL + 11) + rm.locals ≤ R.locals) {ps : List FieldType} {r : Option FieldType} (pd : parseMethodDescriptor y.desc = some ⟨ps, r⟩) (a : Addr) (argsL rest : List Value) (hn : argsL.length = ps.length) (ha : (.ref a :: argsL).toArray = as)
    (hst : st = argsL.reverse ++ .ref a :: rest) (hW : (rest.map fun v => v.category).sum ≤ W) (hsz : Ls.size = maxL) (hd : decode bytes pc = .ok (.invokespecial idx, 3)) (hc : cells + rm.cells ≤ R.cells) (hs : slots + rm.slots ≤ R.slots)
    (k : ∀ (v : Option Value) (T' : State) (h' : Heap), St p l e R s m args below meth c n0 T' h' (cells + rm.cells) (slots + rm.slots) → Q v h' → Con p e below T' (mkF m (pc + 3) Ls (v.toList ++ rest)) P) : Con p e below T (mkF m pc Ls st) P := by
  obtain ⟨locs, X, e0, N, Z0⟩ := S
  obtain ⟨hx, hZ, hby, hown, hml, -⟩ := C
  obtain ⟨v, vm1, ⟨T', L', k', n'⟩, -, X', ⟨Lc, hQ, l1, y1, z1⟩, stp⟩ := X.specialBack hx (y := y) hy1 hown (mvT hZ w1) (mvT hZ w2) (mvT hZ w4) hy (backOf (W := W) (Q := fun v h L => Fr n0 L ∧ n0 ≤ h.size ∧ Q v h) hM hZ w4 w3 hf hl) (g := mkF m pc Ls st) rfl (by rw [hml]; exact hsz) (Steps.refl _) (a := a) (argsL := argsL) (rest := rest) (lenOf pd hn) hst (by show 2 * 0 + _ ≤ _; omega) (hb hby hd) (fun _ _ => ⟨ha, e0, hc, hs⟩)
  dsimp only [Pt.U, Pt.locs, Pt.cells, Pt.slots] at X' l1 y1 z1 stp hQ
  subst l1 y1 z1
  exact via (fun t z => stp.trans z) (k v T' _ ⟨_, X', rfl, Fr.app N hQ.1, hQ.2.1⟩ hQ.2.2)
theorem own_callV (S : St p l e R s m args below meth c n0 T h cells slots) (C : Cx p s Z m meth c bytes own maxL ret nm) {y : MethodName} {yb : ByteArray} {yL : Nat} {yr : Option FieldType} {rm : Room} {idx : Nat} {D : String} (w1 : (Jvm.Cond.methodLink own idx y).before a0 Z = true) (w2 : (Jvm.Cond.declares y).before a0 Z = true) (w3 : (Jvm.Cond.selects D y y).before a0 Z = true) (w4 : (Jvm.Cond.instanceMethod y).before a0 Z = true) (w5 : (Jvm.Cond.initialized y.cls).before a0 Z = true) (w6 : (Jvm.Cond.code y yb yL yr).before a0 Z = true)
    (hy : y.cls ≠ "java/lang/invoke/MethodHandle" ∧ y.cls ≠ "java/lang/invoke/VarHandle") {a : Addr} (E : Exa Z h a D) {as : Array Value} (hM : Mt l Z y yb yL yr [] rm as h n0 Q) (W : Nat) (hf : rm.frames + 1 ≤ R.frames) (hl : W + (yL + 11) + rm.locals ≤ R.locals) {ps : List FieldType} {r : Option FieldType} (pd : parseMethodDescriptor y.desc = some ⟨ps, r⟩) (argsL rest : List Value) (hn : argsL.length = ps.length) (ha : (.ref a :: argsL).toArray = as)
    (hst : st = argsL.reverse ++ .ref a :: rest) (hW : (rest.map fun v => v.category).sum ≤ W) (hsz : Ls.size = maxL) (hd : decode bytes pc = .ok (.invokevirtual idx, 3)) (hc : cells + rm.cells ≤ R.cells) (hs : slots + rm.slots ≤ R.slots)
    (k : ∀ (v : Option Value) (T' : State) (h' : Heap), St p l e R s m args below meth c n0 T' h' (cells + rm.cells) (slots + rm.slots) → Q v h' → Con p e below T' (mkF m (pc + 3) Ls (v.toList ++ rest)) P) : Con p e below T (mkF m pc Ls st) P := by
  obtain ⟨locs, X, e0, N, Z0⟩ := S
  obtain ⟨hx, hZ, hby, hown, hml, -⟩ := C
  obtain ⟨cq, kq, qa, qb, qc⟩ := isOf hZ e0 E
  obtain ⟨v, vm1, ⟨T', L', k', n'⟩, -, X', ⟨Lc, hQ, l1, y1, z1⟩, stp⟩ := X.virtualBack hx (y := y) (z := y) hown (mvT hZ w1) (mvT hZ w2) (notFace_of_selects (args := #[]) (mvT hZ w3)) (mvT hZ w3) (mvT hZ w4) hy (backOf (W := W) (Q := fun v h L => Fr n0 L ∧ n0 ≤ h.size ∧ Q v h) hM hZ w6 w5 hf hl) qa qc (g := mkF m pc Ls st) rfl (by rw [hml]; exact hsz) (Steps.refl _) (argsL := argsL) (rest := rest) (lenOf pd hn) hst (by show 2 * 0 + _ ≤ _; omega) (hb hby hd) (fun _ _ => ⟨ha, e0, hc, hs⟩)
  dsimp only [Pt.U, Pt.locs, Pt.cells, Pt.slots] at X' l1 y1 z1 stp hQ
  subst l1 y1 z1
  exact via (fun t z => stp.trans z) (k v T' _ ⟨_, X', rfl, Fr.app N hQ.1, hQ.2.1⟩ hQ.2.2)
theorem own_callU (S : St p l e R s m args below meth c n0 T h cells slots) (C : Cx p s Z m meth c bytes own maxL ret nm) {y z : MethodName} {yb : ByteArray} {yL : Nat} {yr : Option FieldType} {rm : Room} {idx : Nat} {D O : String} (w1 : (Jvm.Cond.methodLink own idx y).before a0 Z = true) (ws : (Jvm.Cond.sameMethod y.cls O y.name y.desc).before a0 Z = true) (w2 : (Jvm.Cond.declares ⟨O, y.name, y.desc⟩).before a0 Z = true) (w3 : (Jvm.Cond.selects D y z).before a0 Z = true) (w4 : (Jvm.Cond.instanceMethod z).before a0 Z = true) (w5 : (Jvm.Cond.initialized z.cls).before a0 Z = true) (w6 : (Jvm.Cond.code z yb yL yr).before a0 Z = true)
    (hy : O ≠ "java/lang/invoke/MethodHandle" ∧ O ≠ "java/lang/invoke/VarHandle") {a : Addr} (E : Exa Z h a D) {as : Array Value} (hM : Mt l Z z yb yL yr [] rm as h n0 Q) (W : Nat) (hf : rm.frames + 1 ≤ R.frames) (hl : W + (yL + 11) + rm.locals ≤ R.locals) {ps : List FieldType} {r : Option FieldType} (pd : parseMethodDescriptor y.desc = some ⟨ps, r⟩) (argsL rest : List Value) (hn : argsL.length = ps.length) (ha : (.ref a :: argsL).toArray = as)
    (hst : st = argsL.reverse ++ .ref a :: rest) (hW : (rest.map fun v => v.category).sum ≤ W) (hsz : Ls.size = maxL) (hd : decode bytes pc = .ok (.invokevirtual idx, 3)) (hc : cells + rm.cells ≤ R.cells) (hs : slots + rm.slots ≤ R.slots)
    (k : ∀ (v : Option Value) (T' : State) (h' : Heap), St p l e R s m args below meth c n0 T' h' (cells + rm.cells) (slots + rm.slots) → Q v h' → Con p e below T' (mkF m (pc + 3) Ls (v.toList ++ rest)) P) : Con p e below T (mkF m pc Ls st) P := by
  obtain ⟨locs, X, e0, N, Z0⟩ := S
  obtain ⟨hx, hZ, hby, hown, hml, -⟩ := C
  obtain ⟨cq, kq, qa, qb, qc⟩ := isOf hZ e0 E
  obtain ⟨v, vm1, ⟨T', L', k', n'⟩, -, X', ⟨Lc, hQ, l1, y1, z1⟩, stp⟩ := X.virtualBackUp hx (x := y) (y := z) (owner := O) hown (mvT hZ w1) (mvT hZ ws) (mvT hZ w2) hy (mvT hZ w3) (mvT hZ w4) (backOf (W := W) (Q := fun v h L => Fr n0 L ∧ n0 ≤ h.size ∧ Q v h) hM hZ w6 w5 hf hl) qa qc (g := mkF m pc Ls st) rfl (by rw [hml]; exact hsz) (Steps.refl _) (argsL := argsL) (rest := rest) (lenOf pd hn) hst (by show 2 * 0 + _ ≤ _; omega) (hb hby hd) (fun _ _ => ⟨ha, e0, hc, hs⟩)
  dsimp only [Pt.U, Pt.locs, Pt.cells, Pt.slots] at X' l1 y1 z1 stp hQ
  subst l1 y1 z1
  exact via (fun t z => stp.trans z) (k v T' _ ⟨_, X', rfl, Fr.app N hQ.1, hQ.2.1⟩ hQ.2.2)
/-! objects -/
theorem own_new (S : St p l e R s m args below meth c n0 T h cells slots) (C : Cx p s Z m meth c bytes own maxL ret nm) {D : String} {idx n : Nat} (w1 : (Jvm.Cond.classLink own idx D).before a0 Z = true) (w2 : (Jvm.Cond.instantiable D n).before a0 Z = true) (w3 : (Jvm.Cond.initialized D).before a0 Z = true) (hd : decode bytes pc = .ok (.new idx, 3)) (hc : cells + 1 ≤ R.cells) (hs : slots + n ≤ R.slots)
    (k : ∀ (T' : State) (h' : Heap) (a : Addr), a = h.size → St p l e R s m args below meth c n0 T' h' (cells + 1) (slots + n) → Ext h h' → n0 ≤ a → Exa Z h' a D → (∀ {O nm d : String} {ty : FieldType}, Laid Z a0 D O nm d → parseFieldDescriptor d = some ty → Fld Z h' a O nm d (defaultValue ty)) → Con p e below T' (mkF m (pc + 3) Ls (.ref a :: st)) P) : Con p e below T (mkF m pc Ls st) P := by
  obtain ⟨locs, X, e0, N, Z0⟩ := S
  obtain ⟨hx, hZ, hby, hown, -⟩ := C
  obtain ⟨T', h', X', e', E, A, D', -, stp⟩ := newO X hx hZ hown w1 w2 w3 e0 (g := mkF m pc Ls st) rfl (hb hby hd) hc hs
  exact via stp (k T' h' h.size rfl ⟨locs, X', e', N, Nat.le_trans Z0 E.1⟩ E Z0 A D')
theorem own_getf (S : St p l e R s m args below meth c n0 T h cells slots) (C : Cx p s Z m meth c bytes own maxL ret nm) {O f d : String} {idx : Nat} (w : (Jvm.Cond.fieldLink own idx O f d).before a0 Z = true) {a : Addr} {v : Value} (F : Fld Z h a O f d v) (hd : decode bytes pc = .ok (.getfield idx, 3))
    (k : ∀ T' : State, St p l e R s m args below meth c n0 T' h cells slots → Con p e below T' (mkF m (pc + 3) Ls (v :: st)) P) : Con p e below T (mkF m pc Ls (.ref a :: st)) P := by
  obtain ⟨locs, X, e0, N, Z0⟩ := S
  obtain ⟨hx, hZ, hby, hown, -⟩ := C
  obtain ⟨T', X', e', stp⟩ := getF X hx hZ hown (host := "") (Or.inl w) Via.refl e0 F (g := mkF m pc Ls (.ref a :: st)) rfl rfl (hb hby hd)
  exact via stp (k T' ⟨locs, X', e', N, Z0⟩)
theorem own_putf (S : St p l e R s m args below meth c n0 T h cells slots) (C : Cx p s Z m meth c bytes own maxL ret nm) {O f d D : String} {idx kk : Nat} {ty : FieldType} (w : (Jvm.Cond.fieldLink own idx O f d).before a0 Z = true) {a : Addr} {v old : Value} (F : Fld Z h a O f d old) (E : Exa Z h a D) (L : (Jvm.Cond.lays D O f d).before a0 Z = true ∨ ((Jvm.Cond.laysFinal D O f d).before a0 Z = true ∧ own = O ∧ nm = "<init>")) (wi : (Jvm.Cond.instantiable D kk).before a0 Z = true) (hty : parseFieldDescriptor d = some ty) (hn : narrow ty v = v) (hf : fits ty v = true) (ge : n0 ≤ a) (hd : decode bytes pc = .ok (.putfield idx, 3))
    (k : ∀ (T' : State) (h' : Heap), St p l e R s m args below meth c n0 T' h' cells slots → Wr h h' a (Jvm.RoadKit.slotOf Z O f d) v → Con p e below T' (mkF m (pc + 3) Ls st) P) : Con p e below T (mkF m pc Ls (v :: .ref a :: st)) P := by
  obtain ⟨locs, X, e0, N, Z0⟩ := S
  obtain ⟨hx, hZ, hby, hown, -, -, -, hnm⟩ := C
  obtain ⟨T', h', X', e', W, stp⟩ := putF X hx hZ hown (host := "") (Or.inl w) Via.refl e0 F E (L.imp id fun q => ⟨q.1, q.2.1, hnm.trans q.2.2⟩) wi hty hn hf (g := mkF m pc Ls (v :: .ref a :: st)) rfl rfl (hb hby hd)
  exact via stp (k T' h' ⟨_, X', e', Fr.snoc X' N ge, Nat.le_trans Z0 (Keep.of_wr W).1⟩ W)
end OwnKit2
section OwnKit3
variable {p : Program} {l : Launch} {e : Env} {R : Room} {s : State} {m : MethodId} {args : Array Value} {below : List Frame} {meth : Method} {c : Code} {T : State} {h h' : Heap} {cells slots n0 : Nat} {Z : State} {a0 : Array Value} {bytes : ByteArray} {own : String} {maxL : Nat} {ret : Option FieldType} {nm : String} {P : State → Outcome → Prop} {pc pc' : Nat} {Ls Ls' : Array Slot} {st : List Value}
/-- a slot that holds nothing or one word -/
def Sl (o : Slot) : Prop := o = .unset ∨ ∃ w : Value, o = .val w ∧ w.category = 1
theorem Sl.i (x : Int32) : Sl (.val (.int x)) := Or.inr ⟨_, rfl, rfl⟩
theorem Sl.u : Sl .unset := Or.inl rfl
theorem own_istoreG (S : St p l e R s m args below meth c n0 T h cells slots) (C : Cx p s Z m meth c bytes own maxL ret nm) {k : Nat} {x : Int32} {o : Slot} (ho : Sl o) (hd : decode bytes pc = .ok (.istore k, 2)) (hold : Ls[k]? = some o) (hL : Ls.setIfInBounds k (.val (.int x)) = Ls')
    (q : Con p e below T (mkF m (pc + 2) Ls' st) P) : Con p e below T (mkF m pc Ls (.int x :: st)) P := by
  obtain ⟨locs, X, -⟩ := S
  obtain ⟨hx, -, hby, -⟩ := C
  subst hL
  exact via (fun t z => XS.istoreS X.here hx rfl (hb hby hd) rfl hold ho z) q
theorem own_istoreGN (S : St p l e R s m args below meth c n0 T h cells slots) (C : Cx p s Z m meth c bytes own maxL ret nm) {k : Fin 4} {x : Int32} {o : Slot} (ho : Sl o) (hd : decode bytes pc = .ok (.istore_n k, 1)) (hold : Ls[k.val]? = some o) (hL : Ls.setIfInBounds k.val (.val (.int x)) = Ls')
    (q : Con p e below T (mkF m (pc + 1) Ls' st) P) : Con p e below T (mkF m pc Ls (.int x :: st)) P := by
  obtain ⟨locs, X, -⟩ := S
  obtain ⟨hx, -, hby, -⟩ := C
  subst hL
  exact via (fun t z => XS.istoreNS X.here hx rfl (hb hby hd) rfl hold ho z) q
theorem own_ne {a b : Addr} (l : a < h.size) (e : b = h.size) : a ≠ b := by rw [e]; exact Nat.ne_of_lt l
theorem own_nl {a b : Addr} (l : a < h.size) (e : b = h.size) : @LT.lt Nat _ a b := by rw [e]; exact l
theorem St.size (S : St p l e R s m args below meth c n0 T h cells slots) : n0 ≤ h.size := by obtain ⟨_, _, _, _, q⟩ := S; exact q
end OwnKit3
/-! numbers -/
theorem own_toInt (x : Int32) : x.toInt = x.toBitVec.toInt := rfl
theorem own_and_le (x m : Int32) (hm : 0 ≤ m.toInt) : 0 ≤ (x &&& m).toInt ∧ (x &&& m).toInt ≤ m.toInt := by
  have h1 : (x &&& m).toBitVec.toNat ≤ m.toBitVec.toNat := by rw [Int32.toBitVec_and, BitVec.toNat_and]; exact Nat.and_le_right
  have h2 := (x &&& m).toBitVec.isLt
  have h3 := m.toBitVec.isLt
  rw [own_toInt, BitVec.toInt_eq_toNat_cond] at hm ⊢
  rw [own_toInt m, BitVec.toInt_eq_toNat_cond]
  split at hm
  · rw [if_pos (by omega), if_pos (by omega)]; omega
  · omega
theorem own_add {x y : Int32} (h1 : -2147483648 ≤ x.toInt + y.toInt) (h2 : x.toInt + y.toInt < 2147483648) : (x + y).toInt = x.toInt + y.toInt := by
  rw [Int32.toInt_add]; exact Int.bmod_eq_of_le (by omega) (by omega)
theorem own_sub {x y : Int32} (h1 : -2147483648 ≤ x.toInt - y.toInt) (h2 : x.toInt - y.toInt < 2147483648) : (x - y).toInt = x.toInt - y.toInt := by
  rw [Int32.toInt_sub]; exact Int.bmod_eq_of_le (by omega) (by omega)
theorem own_div {x y : Int32} (hx : 0 ≤ x.toInt) (hy : 0 < y.toInt) : (x / y).toInt = x.toInt / y.toInt := by
  have h1 := x.toInt_lt
  have h2 : x.toInt / y.toInt ≤ x.toInt := Int.ediv_le_self _ hx
  have h3 : 0 ≤ x.toInt / y.toInt := Int.ediv_nonneg hx (by omega)
  rw [Int32.toInt_div, Int.tdiv_eq_ediv_of_nonneg hx]
  exact Int.bmod_eq_of_le (by omega) (by omega)
theorem own_rem {x y : Int32} (hx : 0 ≤ x.toInt) (hy : 0 < y.toInt) : (x - x / y * y).toInt = x.toInt % y.toInt := by
  have h1 := x.toInt_lt
  have hd := own_div hx hy
  have e1 : x.toInt / y.toInt * y.toInt + x.toInt % y.toInt = x.toInt := Int.ediv_mul_add_emod _ _
  have h3 : 0 ≤ x.toInt % y.toInt := Int.emod_nonneg _ (by omega)
  have h4 : 0 ≤ x.toInt / y.toInt := Int.ediv_nonneg hx (by omega)
  have h5 : 0 ≤ x.toInt / y.toInt * y.toInt := Int.mul_nonneg h4 (by omega)
  have hm : (x / y * y).toInt = x.toInt / y.toInt * y.toInt := by
    rw [Int32.toInt_mul, hd]; exact Int.bmod_eq_of_le (by omega) (by omega)
  rw [own_sub (by rw [hm]; omega) (by rw [hm]; omega), hm]; omega
theorem own_ofNat {x : Int32} (h : 0 ≤ x.toInt) : x = Int32.ofNat x.toInt.toNat := by
  apply Int32.toInt_inj.mp
  have := x.toInt_lt
  rw [Int32.toInt_ofNat_of_lt (by omega)]; omega
theorem own_n2 {n : Nat} (h : n < 2147483648) : (Int32.ofNat n).toInt = (n : Int) := Int32.toInt_ofNat_of_lt h
theorem own_n3 {n : Nat} (h : n < 2147483648) : (Int32.ofNat n).toNatClampNeg = n := by
  rw [show (Int32.ofNat n).toNatClampNeg = (Int32.ofNat n).toInt.toNat from rfl, own_n2 h]; rfl
theorem own_succ (n : Nat) : Int32.ofNat n + (1 : Int32) = Int32.ofNat (n + 1) := (Int32.ofNat_add n 1).symm
theorem own_ushr (x k : Int32) (n : Nat) (hk : (k &&& 31).toUInt32.toNat = n) (h1 : 1 ≤ n) (h2 : n < 32) : 0 ≤ (XT.ushr x k).toInt ∧ (XT.ushr x k).toInt < 2 ^ (32 - n) := by
  have e : (XT.ushr x k).toBitVec.toNat = x.toUInt32.toNat >>> n := by
    show (x.toUInt32 >>> (k &&& 31).toUInt32).toNat = _
    rw [UInt32.toNat_shiftRight, hk, Nat.mod_eq_of_lt h2]
  have hx := x.toUInt32.toNat_lt
  have hb : x.toUInt32.toNat >>> n < 2 ^ (32 - n) := by
    rw [Nat.shiftRight_eq_div_pow]
    apply Nat.div_lt_of_lt_mul
    rw [← Nat.pow_add, show n + (32 - n) = 32 by omega]; exact hx
  have hp : 2 ^ (32 - n) ≤ 2 ^ 31 := Nat.pow_le_pow_right (by decide) (by omega)
  rw [own_toInt, BitVec.toInt_eq_toNat_cond, e, if_pos (by omega)]
  exact ⟨Int.natCast_nonneg _, by exact_mod_cast hb⟩

/-! what Ceilings.first computes -/
def own_adv (fl : List Int32) (v : Int32) : Nat → Nat → Nat
  | 0, f => f
  | n + 1, f => if f < fl.length ∧ (fl.getD f 0).toInt < v.toInt then own_adv fl v n (f + 1) else f
def own_go (ts fl : List Int32) (ex : Nat) : Nat → List Int32 → Nat → Nat → Option (List Int32)
  | 0, acc, _, _ => if acc.length = ex then some acc else none
  | n + 1, acc, f, i => if acc.length = ex then some acc else if i < ts.length then
      (if own_adv fl (ts.getD i 0) (fl.length - f) f < fl.length ∧ (fl.getD (own_adv fl (ts.getD i 0) (fl.length - f) f) 0).toInt = (ts.getD i 0).toInt then own_go ts fl ex n acc (own_adv fl (ts.getD i 0) (fl.length - f) f) (i + 1)
       else own_go ts fl ex n (acc ++ [ts.getD i 0]) (own_adv fl (ts.getD i 0) (fl.length - f) f) (i + 1)) else none
theorem own_adv_le (fl : List Int32) (v : Int32) : ∀ n f, f + n ≤ fl.length → own_adv fl v n f ≤ fl.length
  | 0, f, h => h
  | n + 1, f, h => by
    unfold own_adv
    split
    · exact own_adv_le fl v n (f + 1) (by omega)
    · omega
theorem own_pset (vs : List Int32) (z : Nat) (v : Int32) (h : 0 < z) : (vs ++ List.replicate z (0 : Int32)).set vs.length v = (vs ++ [v]) ++ List.replicate (z - 1) (0 : Int32) := by
  obtain ⟨k, rfl⟩ : ∃ k, z = k + 1 := ⟨z - 1, by omega⟩
  rw [List.replicate_succ, List.set_append_right _ _ (Nat.le_refl _)]
  simp
set_option maxRecDepth 65536 in
set_option maxHeartbeats 40000000 in
theorem own_inner {p : Program} {l : Launch} {e : Env} {s : State} {m : MethodId} {args : Array Value} {below : List Frame} {meth : Method} {c : Code} {n0 : Nat} {Z : State} {P : State → Outcome → Prop} (C : Cx p s Z m meth c prog_39_method_3_code "com/example/holdfast/holdfast/fill/Ceilings" 8 (some (.array .int)) "first") {T : State} {h : Heap} (S : St p l e ({ frames := 0, cells := 1, slots := 4, locals := 0 } : Room) s m args below meth c n0 T h 1 4) {tk fu r : Addr} {E sz at' v : Int32} {fl : List Int32} (AF : Ai Z h fu fl) :
    ∀ n f, f + n = fl.length → Con p e below T (mkF m 47 #[.val (.ref tk), .val (.int E), .val (.ref fu), .val (.ref r), .val (.int sz), .val (.int (Int32.ofNat (own_adv fl v n f))), .val (.int at'), .val (.int v)] []) P →
      Con p e below T (mkF m 25 #[.val (.ref tk), .val (.int E), .val (.ref fu), .val (.ref r), .val (.int sz), .val (.int (Int32.ofNat f)), .val (.int at'), .val (.int v)] []) P := by
  have hsm := AF.small
  intro n
  induction n with
  | zero =>
    intro f hf k
    have e1 := own_n2 (n := f) (by omega)
    have e2 := own_n2 (n := fl.length) (by omega)
    refine own_run S C [.iload 5, .aload_n 2] (pc' := 28) (Ls' := #[.val (.ref tk), .val (.int E), .val (.ref fu), .val (.ref r), .val (.int sz), .val (.int (Int32.ofNat f)), .val (.int at'), .val (.int v)]) (st' := [(.ref fu), (.int (Int32.ofNat f))]) (by decide +kernel) rfl ?_
    refine own_alen S C AF (by decide +kernel) (v := (Int32.ofNat fl.length)) rfl ?_
    show Con p e below _ (mkF m 29 #[.val (.ref tk), .val (.int E), .val (.ref fu), .val (.ref r), .val (.int sz), .val (.int (Int32.ofNat f)), .val (.int at'), .val (.int v)] [(.int (Int32.ofNat fl.length)), (.int (Int32.ofNat f))]) _
    refine own_icmp S C (cd := .ge) (o := 18) (by decide +kernel) (pc' := 47) ⟨by decide, by decide⟩ (fun _ => ?_) (fun hc29 => absurd ((hh_ge).2.mp hc29) (show ¬ ((Int32.ofNat f).toInt < (Int32.ofNat fl.length).toInt) by omega))
    exact k
  | succ n ih =>
    intro f hf k
    have e1 := own_n2 (n := f) (by omega)
    have e2 := own_n2 (n := fl.length) (by omega)
    have e3 := own_n3 (n := f) (by omega)
    refine own_run S C [.iload 5, .aload_n 2] (pc' := 28) (Ls' := #[.val (.ref tk), .val (.int E), .val (.ref fu), .val (.ref r), .val (.int sz), .val (.int (Int32.ofNat f)), .val (.int at'), .val (.int v)]) (st' := [(.ref fu), (.int (Int32.ofNat f))]) (by decide +kernel) rfl ?_
    refine own_alen S C AF (by decide +kernel) (v := (Int32.ofNat fl.length)) rfl ?_
    show Con p e below _ (mkF m 29 #[.val (.ref tk), .val (.int E), .val (.ref fu), .val (.ref r), .val (.int sz), .val (.int (Int32.ofNat f)), .val (.int at'), .val (.int v)] [(.int (Int32.ofNat fl.length)), (.int (Int32.ofNat f))]) _
    refine own_icmp S C (cd := .ge) (o := 18) (by decide +kernel) (pc' := 47) ⟨by decide, by decide⟩ (fun hc29 => absurd ((hh_ge).1.mp hc29) (show ¬ ((Int32.ofNat f).toInt ≥ (Int32.ofNat fl.length).toInt) by omega)) (fun _ => ?_)
    refine own_run S C [.aload_n 2, .iload 5] (pc' := 35) (Ls' := #[.val (.ref tk), .val (.int E), .val (.ref fu), .val (.ref r), .val (.int sz), .val (.int (Int32.ofNat f)), .val (.int at'), .val (.int v)]) (st' := [(.int (Int32.ofNat f)), (.ref fu)]) (by decide +kernel) rfl ?_
    refine own_iaload S C AF (by decide +kernel) (j := (Int32.ofNat f)) (v := (fl.getD f 0)) (by omega) (by rw [e3]) ?_
    show Con p e below _ (mkF m 36 #[.val (.ref tk), .val (.int E), .val (.ref fu), .val (.ref r), .val (.int sz), .val (.int (Int32.ofNat f)), .val (.int at'), .val (.int v)] [(.int (fl.getD f 0))]) _
    refine own_run S C [.iload 7] (pc' := 38) (Ls' := #[.val (.ref tk), .val (.int E), .val (.ref fu), .val (.ref r), .val (.int sz), .val (.int (Int32.ofNat f)), .val (.int at'), .val (.int v)]) (st' := [(.int v), (.int (fl.getD f 0))]) (by decide +kernel) rfl ?_
    refine own_icmp S C (cd := .ge) (o := 9) (by decide +kernel) (pc' := 47) ⟨by decide, by decide⟩ (fun hc38 => ?_) (fun hc38 => ?_)
    · skip
      have k38 : (fl.getD f 0).toInt ≥ v.toInt := (hh_ge).1.mp hc38
      have e : own_adv fl v (n + 1) f = f := by unfold own_adv; rw [if_neg (by omega)]
      rw [e] at k
      exact k
    · skip
      have k38 : (fl.getD f 0).toInt < v.toInt := (hh_ge).2.mp hc38
      have e : own_adv fl v (n + 1) f = own_adv fl v n (f + 1) := by rw [own_adv, if_pos (by omega)]
      rw [e] at k
      refine own_run S C [.iinc 5 1, .goto (-19)] (pc' := 25) (Ls' := #[.val (.ref tk), .val (.int E), .val (.ref fu), .val (.ref r), .val (.int sz), .val (.int ((Int32.ofNat f) + (1 : Int32))), .val (.int at'), .val (.int v)]) (st' := []) (by decide +kernel) rfl ?_
      rw [own_succ]
      exact ih (f + 1) (by omega) k
set_option maxRecDepth 65536 in
set_option maxHeartbeats 40000000 in
theorem own_outer {p : Program} {l : Launch} {e : Env} {s : State} {m : MethodId} {args : Array Value} {below : List Frame} {meth : Method} {c : Code} {n0 : Nat} {Z : State} (C : Cx p s Z m meth c prog_39_method_3_code "com/example/holdfast/holdfast/fill/Ceilings" 8 (some (.array .int)) "first") {hA : Heap} {tk fu r : Addr} {ex : Nat} (hex : ex ≤ 4) {ts fl rs : List Int32} (gr : n0 ≤ r) (hr : hA.size ≤ r) (n1 : tk ≠ r) (n2 : fu ≠ r) :
    ∀ n acc f i (s7 : Slot) (T : State) (h : Heap), Sl s7 → St p l e ({ frames := 0, cells := 1, slots := 4, locals := 0 } : Room) s m args below meth c n0 T h 1 4 → Keep hA h [] → Ai Z h tk ts → Ai Z h fu fl → Ai Z h r (acc ++ List.replicate (ex - acc.length) (0 : Int32)) → acc.length ≤ ex → f ≤ fl.length → own_go ts fl ex n acc f i = some rs →
      Con p e below T (mkF m 13 #[.val (.ref tk), .val (.int (Int32.ofNat ex)), .val (.ref fu), .val (.ref r), .val (.int (Int32.ofNat acc.length)), .val (.int (Int32.ofNat f)), .val (.int (Int32.ofNat i)), s7] []) (Pq s ({ frames := 0, cells := 1, slots := 4, locals := 0 } : Room) n0 (fun v h' => ∃ r, v = some (.ref r) ∧ Keep hA h' [] ∧ Ai Z h' r rs)) := by
  intro n
  induction n with
  | zero =>
    intro acc f i s7 T h h7 S K AT AF AR hacc hf hg
    unfold own_go at hg
    split at hg
    · rename_i hq
      have hg : acc = rs := Option.some.inj hg
      have q1 := own_n2 (n := acc.length) (by omega)
      have q2 := own_n2 (n := ex) (by omega)
      refine own_run S C [.iload 4, .iload_n 1] (pc' := 16) (Ls' := #[.val (.ref tk), .val (.int (Int32.ofNat ex)), .val (.ref fu), .val (.ref r), .val (.int (Int32.ofNat acc.length)), .val (.int (Int32.ofNat f)), .val (.int (Int32.ofNat i)), s7]) (st' := [(.int (Int32.ofNat ex)), (.int (Int32.ofNat acc.length))]) (by decide +kernel) rfl ?_
      refine own_icmp S C (cd := .ge) (o := 62) (by decide +kernel) (pc' := 78) ⟨by decide, by decide⟩ (fun _ => ?_) (fun hc16 => absurd ((hh_ge).2.mp hc16) (show ¬ ((Int32.ofNat acc.length).toInt < (Int32.ofNat ex).toInt) by omega))
      refine own_run S C [.aload_n 3] (pc' := 79) (Ls' := #[.val (.ref tk), .val (.int (Int32.ofNat ex)), .val (.ref fu), .val (.ref r), .val (.int (Int32.ofNat acc.length)), .val (.int (Int32.ofNat f)), .val (.int (Int32.ofNat i)), s7]) (st' := [(.ref r)]) (by decide +kernel) rfl ?_
      exact own_reta S C rfl (by decide +kernel) (by decide) (by decide) ⟨r, rfl, K, by rw [← hg]; rw [hq, Nat.sub_self] at AR; simpa using AR⟩
    · cases hg
  | succ n ih =>
    intro acc f i s7 T h h7 S K AT AF AR hacc hf hg
    unfold own_go at hg
    split at hg
    · rename_i hq
      have hg : acc = rs := Option.some.inj hg
      have q1 := own_n2 (n := acc.length) (by omega)
      have q2 := own_n2 (n := ex) (by omega)
      refine own_run S C [.iload 4, .iload_n 1] (pc' := 16) (Ls' := #[.val (.ref tk), .val (.int (Int32.ofNat ex)), .val (.ref fu), .val (.ref r), .val (.int (Int32.ofNat acc.length)), .val (.int (Int32.ofNat f)), .val (.int (Int32.ofNat i)), s7]) (st' := [(.int (Int32.ofNat ex)), (.int (Int32.ofNat acc.length))]) (by decide +kernel) rfl ?_
      refine own_icmp S C (cd := .ge) (o := 62) (by decide +kernel) (pc' := 78) ⟨by decide, by decide⟩ (fun _ => ?_) (fun hc16 => absurd ((hh_ge).2.mp hc16) (show ¬ ((Int32.ofNat acc.length).toInt < (Int32.ofNat ex).toInt) by omega))
      refine own_run S C [.aload_n 3] (pc' := 79) (Ls' := #[.val (.ref tk), .val (.int (Int32.ofNat ex)), .val (.ref fu), .val (.ref r), .val (.int (Int32.ofNat acc.length)), .val (.int (Int32.ofNat f)), .val (.int (Int32.ofNat i)), s7]) (st' := [(.ref r)]) (by decide +kernel) rfl ?_
      exact own_reta S C rfl (by decide +kernel) (by decide) (by decide) ⟨r, rfl, K, by rw [← hg]; rw [hq, Nat.sub_self] at AR; simpa using AR⟩
    · rename_i hq
      split at hg
      · rename_i hi
        have q1 := own_n2 (n := acc.length) (by omega)
        have q2 := own_n2 (n := ex) (by omega)
        have hts := AT.small
        have hfl := AF.small
        have q3 := own_n2 (n := i) (by omega)
        have q4 := own_n3 (n := i) (by omega)
        refine own_run S C [.iload 4, .iload_n 1] (pc' := 16) (Ls' := #[.val (.ref tk), .val (.int (Int32.ofNat ex)), .val (.ref fu), .val (.ref r), .val (.int (Int32.ofNat acc.length)), .val (.int (Int32.ofNat f)), .val (.int (Int32.ofNat i)), s7]) (st' := [(.int (Int32.ofNat ex)), (.int (Int32.ofNat acc.length))]) (by decide +kernel) rfl ?_
        refine own_icmp S C (cd := .ge) (o := 62) (by decide +kernel) (pc' := 78) ⟨by decide, by decide⟩ (fun hc16 => absurd ((hh_ge).1.mp hc16) (show ¬ ((Int32.ofNat acc.length).toInt ≥ (Int32.ofNat ex).toInt) by omega)) (fun _ => ?_)
        refine own_run S C [.aload_n 0, .iload 6] (pc' := 22) (Ls' := #[.val (.ref tk), .val (.int (Int32.ofNat ex)), .val (.ref fu), .val (.ref r), .val (.int (Int32.ofNat acc.length)), .val (.int (Int32.ofNat f)), .val (.int (Int32.ofNat i)), s7]) (st' := [(.int (Int32.ofNat i)), (.ref tk)]) (by decide +kernel) rfl ?_
        refine own_iaload S C AT (by decide +kernel) (j := (Int32.ofNat i)) (v := (ts.getD i 0)) (by omega) (by rw [q4]) ?_
        show Con p e below _ (mkF m 23 #[.val (.ref tk), .val (.int (Int32.ofNat ex)), .val (.ref fu), .val (.ref r), .val (.int (Int32.ofNat acc.length)), .val (.int (Int32.ofNat f)), .val (.int (Int32.ofNat i)), s7] [(.int (ts.getD i 0))]) _
        refine own_istoreG S C (k := 7) (o := s7) h7 (by decide +kernel) rfl (Ls' := #[.val (.ref tk), .val (.int (Int32.ofNat ex)), .val (.ref fu), .val (.ref r), .val (.int (Int32.ofNat acc.length)), .val (.int (Int32.ofNat f)), .val (.int (Int32.ofNat i)), .val (.int (ts.getD i 0))]) rfl ?_
        show Con p e below _ (mkF m 25 #[.val (.ref tk), .val (.int (Int32.ofNat ex)), .val (.ref fu), .val (.ref r), .val (.int (Int32.ofNat acc.length)), .val (.int (Int32.ofNat f)), .val (.int (Int32.ofNat i)), .val (.int (ts.getD i 0))] []) _
        generalize ts.getD i 0 = v at hg ⊢
        refine own_inner C S AF (fl.length - f) f (by omega) ?_
        have hle := own_adv_le fl v (fl.length - f) f (by omega)
        generalize own_adv fl v (fl.length - f) f = g at hg hle ⊢
        have q5 := own_n2 (n := g) (by omega)
        have q6 := own_n3 (n := g) (by omega)
        have q7 := own_n2 (n := fl.length) (by omega)
        have take : ¬ (g < fl.length ∧ (fl.getD g 0).toInt = v.toInt) → Con p e below T (mkF m 63 #[.val (.ref tk), .val (.int (Int32.ofNat ex)), .val (.ref fu), .val (.ref r), .val (.int (Int32.ofNat acc.length)), .val (.int (Int32.ofNat g)), .val (.int (Int32.ofNat i)), .val (.int v)] []) (Pq s ({ frames := 0, cells := 1, slots := 4, locals := 0 } : Room) n0 (fun v h' => ∃ r, v = some (.ref r) ∧ Keep hA h' [] ∧ Ai Z h' r rs)) := by
          intro hno
          rw [if_neg hno] at hg
          refine own_run S C [.aload_n 3, .iload 4, .iinc 4 1, .iload 7] (pc' := 71) (Ls' := #[.val (.ref tk), .val (.int (Int32.ofNat ex)), .val (.ref fu), .val (.ref r), .val (.int ((Int32.ofNat acc.length) + (1 : Int32))), .val (.int (Int32.ofNat g)), .val (.int (Int32.ofNat i)), .val (.int v)]) (st' := [(.int v), (.int (Int32.ofNat acc.length)), (.ref r)]) (by decide +kernel) rfl ?_
          have q8 := own_n3 (n := acc.length) (by omega)
          refine own_iastore S C AR (by decide +kernel) (j := (Int32.ofNat acc.length)) (x := v) (by rw [q1, List.length_append, List.length_replicate]; omega) gr (vs' := (acc ++ [v]) ++ List.replicate (ex - (acc ++ [v]).length) (0 : Int32)) (by rw [q8, own_pset _ _ _ (by omega), List.length_append, List.length_singleton, Nat.sub_sub]) (fun TB hB SB KB AB => ?_)
          have AT2 := AT.keep KB (ninS n1 nin0)
          have AF2 := AF.keep KB (ninS n2 nin0)
          have K2 : Keep hA hB [] := K.trans KB (allS (Or.inr hr) all0)
          refine own_run SB C [.iinc 6 1, .goto (-62)] (pc' := 13) (Ls' := #[.val (.ref tk), .val (.int (Int32.ofNat ex)), .val (.ref fu), .val (.ref r), .val (.int ((Int32.ofNat acc.length) + (1 : Int32))), .val (.int (Int32.ofNat g)), .val (.int ((Int32.ofNat i) + (1 : Int32))), .val (.int v)]) (st' := []) (by decide +kernel) rfl ?_
          rw [own_succ, own_succ]
          have ee : acc.length + 1 = (acc ++ [v]).length := by rw [List.length_append, List.length_singleton]
          rw [ee]
          exact ih (acc ++ [v]) g (i + 1) _ TB hB (Sl.i v) SB K2 AT2 AF2 AB (by rw [← ee]; omega) hle hg
        refine own_run S C [.iload 5, .aload_n 2] (pc' := 50) (Ls' := #[.val (.ref tk), .val (.int (Int32.ofNat ex)), .val (.ref fu), .val (.ref r), .val (.int (Int32.ofNat acc.length)), .val (.int (Int32.ofNat g)), .val (.int (Int32.ofNat i)), .val (.int v)]) (st' := [(.ref fu), (.int (Int32.ofNat g))]) (by decide +kernel) rfl ?_
        refine own_alen S C AF (by decide +kernel) (v := (Int32.ofNat fl.length)) rfl ?_
        show Con p e below _ (mkF m 51 #[.val (.ref tk), .val (.int (Int32.ofNat ex)), .val (.ref fu), .val (.ref r), .val (.int (Int32.ofNat acc.length)), .val (.int (Int32.ofNat g)), .val (.int (Int32.ofNat i)), .val (.int v)] [(.int (Int32.ofNat fl.length)), (.int (Int32.ofNat g))]) _
        refine own_icmp S C (cd := .eq) (o := 12) (by decide +kernel) (pc' := 63) ⟨by decide, by decide⟩ (fun hc51 => ?_) (fun hc51 => ?_)
        · skip
          have k51 : (Int32.ofNat g).toInt = (Int32.ofNat fl.length).toInt := (hh_eq).1.mp hc51
          exact take (by omega)
        · skip
          have k51 : (Int32.ofNat g).toInt ≠ (Int32.ofNat fl.length).toInt := (hh_eq).2.mp hc51
          refine own_run S C [.aload_n 2, .iload 5] (pc' := 57) (Ls' := #[.val (.ref tk), .val (.int (Int32.ofNat ex)), .val (.ref fu), .val (.ref r), .val (.int (Int32.ofNat acc.length)), .val (.int (Int32.ofNat g)), .val (.int (Int32.ofNat i)), .val (.int v)]) (st' := [(.int (Int32.ofNat g)), (.ref fu)]) (by decide +kernel) rfl ?_
          refine own_iaload S C AF (by decide +kernel) (j := (Int32.ofNat g)) (v := (fl.getD g 0)) (by omega) (by rw [q6]) ?_
          show Con p e below _ (mkF m 58 #[.val (.ref tk), .val (.int (Int32.ofNat ex)), .val (.ref fu), .val (.ref r), .val (.int (Int32.ofNat acc.length)), .val (.int (Int32.ofNat g)), .val (.int (Int32.ofNat i)), .val (.int v)] [(.int (fl.getD g 0))]) _
          refine own_run S C [.iload 7] (pc' := 60) (Ls' := #[.val (.ref tk), .val (.int (Int32.ofNat ex)), .val (.ref fu), .val (.ref r), .val (.int (Int32.ofNat acc.length)), .val (.int (Int32.ofNat g)), .val (.int (Int32.ofNat i)), .val (.int v)]) (st' := [(.int v), (.int (fl.getD g 0))]) (by decide +kernel) rfl ?_
          refine own_icmp S C (cd := .eq) (o := 12) (by decide +kernel) (pc' := 72) ⟨by decide, by decide⟩ (fun hc60 => ?_) (fun hc60 => ?_)
          · skip
            have k60 : (fl.getD g 0).toInt = v.toInt := (hh_eq).1.mp hc60
            rw [if_pos (by omega)] at hg
            refine own_run S C [.iinc 6 1, .goto (-62)] (pc' := 13) (Ls' := #[.val (.ref tk), .val (.int (Int32.ofNat ex)), .val (.ref fu), .val (.ref r), .val (.int (Int32.ofNat acc.length)), .val (.int (Int32.ofNat g)), .val (.int ((Int32.ofNat i) + (1 : Int32))), .val (.int v)]) (st' := []) (by decide +kernel) rfl ?_
            rw [own_succ]
            exact ih acc g (i + 1) _ T h (Sl.i v) S K AT AF AR hacc hle hg
          · skip
            have k60 : (fl.getD g 0).toInt ≠ v.toInt := (hh_eq).2.mp hc60
            exact take (by omega)
      · cases hg
theorem ef_first (m : MethodId) (tk : Addr) (E : Int32) (fu : Addr) : entryFrame m #[(.ref tk), (.int E), (.ref fu)] 8 = mkF m 0 #[.val (.ref tk), .val (.int E), .val (.ref fu), .unset, .unset, .unset, .unset, .unset] [] := by first | (simp [entryFrame, mkF, argsToLocals, Value.category]; done) | rfl
theorem pn_first : plainFor (⟨"com/example/holdfast/holdfast/fill/Ceilings", "first", "([II[I)[I"⟩ : MethodName) = true := by first | (exact plainFor_of_name (by first | (simp [plainName, overriddenIn]; done) | decide +kernel)) | decide +kernel
set_option maxRecDepth 65536 in
set_option maxHeartbeats 40000000 in
theorem rm_first (l : Launch) (Z : State) (a0 : Array Value) (hw : ∀ d ∈ tables_1, d.before a0 Z = true) (ws : List Jvm.Cond) (tk fu : Addr) (ex : Nat) (hex : ex ≤ 4) (ts fl rs : List Int32) (h : Heap) (n0 : Nat) (Z0 : n0 ≤ h.size) (AT : Ai Z h tk ts) (AF : Ai Z h fu fl) (n : Nat) (hg : own_go ts fl ex n [] 0 0 = some rs) :
    Mt l Z (⟨"com/example/holdfast/holdfast/fill/Ceilings", "first", "([II[I)[I"⟩ : MethodName) prog_39_method_3_code 8 (some (.array .int)) ws ({ frames := 0, cells := 1, slots := 4, locals := 0 } : Room) #[(.ref tk), (.int (Int32.ofNat ex)), (.ref fu)] h n0 (fun v h' => ∃ r, v = some (.ref r) ∧ Keep h h' [] ∧ Ai Z h' r rs) := by
  refine Mt.of (own := "com/example/holdfast/holdfast/fill/Ceilings") (nm := "first") pn_first Z0 (Ls := #[.val (.ref tk), .val (.int (Int32.ofNat ex)), .val (.ref fu), .unset, .unset, .unset, .unset, .unset]) (fun m => ef_first m tk _ fu) rfl rfl (fun p e s m below meth c T C S => ?_)
  have q1 := own_n2 (n := ex) (by omega)
  have q2 := own_n3 (n := ex) (by omega)
  refine own_run S C [.iload_n 1] (pc' := 1) (Ls' := #[.val (.ref tk), .val (.int (Int32.ofNat ex)), .val (.ref fu), .unset, .unset, .unset, .unset, .unset]) (st' := [(.int (Int32.ofNat ex))]) (by decide +kernel) rfl ?_
  refine own_newarray S C (hw _ (List.mem_of_getElem? (i := 0) rfl)) (by decide +kernel) (n := (Int32.ofNat ex)) (by omega) 4 (by omega) (by decide) (by decide) (by decide) (vs := (List.replicate ex (0 : Int32))) (by rw [q2]) (fun T1 h1 b1 e1 S1 E1 g1 A1 => ?_)
  have n_tk_b1 : tk ≠ b1 := own_ne AT.lt e1
  have A2 := AT.ext E1
  have n_fu_b1 : fu ≠ b1 := own_ne AF.lt e1
  have A3 := AF.ext E1
  refine own_run S1 C [.astore_n 3, .iconst 0, .istore 4, .iconst 0, .istore 5, .iconst 0, .istore 6] (pc' := 13) (Ls' := #[.val (.ref tk), .val (.int (Int32.ofNat ex)), .val (.ref fu), .val (.ref b1), .val (.int (0 : Int32)), .val (.int (0 : Int32)), .val (.int (0 : Int32)), .unset]) (st' := []) (by decide +kernel) rfl ?_
  refine own_outer C hex g1 (Nat.le_of_eq e1.symm) n_tk_b1 n_fu_b1 n [] 0 0 _ T1 h1 Sl.u S1 ⟨E1.1, fun x c q _ => E1.2 x c q, fun x c q => ⟨c, E1.2 x c q, rfl, rfl, rfl⟩⟩ A2 A3 (by simpa using A1) (Nat.zero_le _) (Nat.zero_le _) hg

/-! the full ones and the free ones, taker by taker -/
def own_pad (l : List Int32) : List Int32 := l ++ List.replicate (4 - l.length) (0 : Int32)
theorem own_pad_len {l : List Int32} (h : l.length ≤ 4) : (own_pad l).length = 4 := by unfold own_pad; rw [List.length_append, List.length_replicate]; omega
theorem own_pad_set {l : List Int32} (v : Int32) (h : l.length < 4) : (own_pad l).set l.length v = own_pad (l ++ [v]) := by
  unfold own_pad
  rw [own_pset _ _ _ (by omega), List.length_append, List.length_singleton, Nat.sub_sub]
theorem own_pad_get {l : List Int32} {i : Nat} (h : i < l.length) : (own_pad l).getD i 0 = l.getD i 0 := by
  unfold own_pad
  rw [List.getD_eq_getElem?_getD, List.getD_eq_getElem?_getD, List.getElem?_append_left h]
def own_P : List Int32 → List Int32 → List Int32 → Prop
  | [], fu, fr => fu = [] ∧ fr = []
  | t :: ts, fu, fr => ∃ fu' fr', own_P ts fu' fr' ∧ ((fu = fu' ++ [t] ∧ fr = fr') ∨ (fu = fu' ∧ fr = fr' ++ [t]))
theorem own_P_len : ∀ (ts fu fr : List Int32), own_P ts fu fr → fu.length + fr.length = ts.length
  | [], fu, fr, h => by obtain ⟨rfl, rfl⟩ := h; rfl
  | t :: ts, fu, fr, h => by
    obtain ⟨fu', fr', hp, ⟨rfl, rfl⟩ | ⟨rfl, rfl⟩⟩ := h
    · have := own_P_len ts _ _ hp; simp only [List.length_append, List.length_cons, List.length_nil]; omega
    · have := own_P_len ts _ _ hp; simp only [List.length_append, List.length_cons, List.length_nil]; omega
def own_cp (i : Nat) (l : List Int32) : List Int32 := l.take i ++ List.replicate (l.length - i) (0 : Int32)
theorem own_cp_len (i : Nat) (l : List Int32) : (own_cp i l).length = l.length := by unfold own_cp; rw [List.length_append, List.length_take, List.length_replicate]; omega
theorem own_cp_all {l : List Int32} (h : l.length ≤ 4) : own_cp 4 l = l := by unfold own_cp; rw [List.take_of_length_le h, Nat.sub_eq_zero_of_le h]; simp
theorem own_cp_pass {i : Nat} {l : List Int32} (h : l.length ≤ i) : own_cp i l = own_cp (i + 1) l := by
  unfold own_cp; rw [List.take_of_length_le h, List.take_of_length_le (by omega), Nat.sub_eq_zero_of_le h, Nat.sub_eq_zero_of_le (by omega)]
theorem own_cp_set {i : Nat} {l : List Int32} (h : i < l.length) : (own_cp i l).set i (l.getD i 0) = own_cp (i + 1) l := by
  have e : (l.take i).length = i := by rw [List.length_take]; omega
  unfold own_cp
  have := own_pset (l.take i) (l.length - i) (l.getD i 0) (by omega)
  rw [e] at this
  rw [this, Nat.sub_sub, List.take_add_one, List.getD_eq_getElem?_getD, List.getElem?_eq_getElem h]
  simp
set_option maxHeartbeats 40000000 in
theorem own_law (t0 t1 t2 t3 : Int32) (h1 : t0.toInt < t1.toInt) (h2 : t1.toInt < t2.toInt) (h3 : t2.toInt < t3.toInt) (fu fr : List Int32) (hp : own_P [t3, t2, t1, t0] fu fr) (ex : Nat) (hex : ex ≤ fr.length) :
    own_go [t0, t1, t2, t3] fu ex 5 [] 0 0 = some (fr.take ex) := by
  obtain ⟨fu1, fr1, ⟨fu2, fr2, ⟨fu3, fr3, ⟨fu4, fr4, ⟨rfl, rfl⟩, hd⟩, hc⟩, hb⟩, ha⟩ := hp
  have e1 : ¬ t1.toInt < t0.toInt := by omega
  have e2 : ¬ t2.toInt < t0.toInt := by omega
  have e3 : ¬ t3.toInt < t0.toInt := by omega
  have e4 : ¬ t2.toInt < t1.toInt := by omega
  have e5 : ¬ t3.toInt < t1.toInt := by omega
  have e6 : ¬ t3.toInt < t2.toInt := by omega
  have g2 : t0.toInt < t2.toInt := by omega
  have g3 : t0.toInt < t3.toInt := by omega
  have g4 : t1.toInt < t3.toInt := by omega
  have d1 : ¬ t0.toInt = t1.toInt := by omega
  have d2 : ¬ t0.toInt = t2.toInt := by omega
  have d3 : ¬ t0.toInt = t3.toInt := by omega
  have d4 : ¬ t1.toInt = t2.toInt := by omega
  have d5 : ¬ t1.toInt = t3.toInt := by omega
  have d6 : ¬ t2.toInt = t3.toInt := by omega
  have f1 : ¬ t1.toInt = t0.toInt := by omega
  have f2 : ¬ t2.toInt = t0.toInt := by omega
  have f3 : ¬ t3.toInt = t0.toInt := by omega
  have f4 : ¬ t2.toInt = t1.toInt := by omega
  have f5 : ¬ t3.toInt = t1.toInt := by omega
  have f6 : ¬ t3.toInt = t2.toInt := by omega
  rcases hd with ⟨rfl, rfl⟩ | ⟨rfl, rfl⟩ <;> rcases hc with ⟨rfl, rfl⟩ | ⟨rfl, rfl⟩ <;> rcases hb with ⟨rfl, rfl⟩ | ⟨rfl, rfl⟩ <;> rcases ha with ⟨rfl, rfl⟩ | ⟨rfl, rfl⟩ <;>
    simp only [List.length_append, List.length_cons, List.length_nil, Nat.zero_add] at hex <;>
    (match ex, hex with
      | 0, _ => rfl
      | 1, _ => first | omega | simp [own_go, own_adv, *]
      | 2, _ => first | omega | simp [own_go, own_adv, *]
      | 3, _ => first | omega | simp [own_go, own_adv, *]
      | 4, _ => first | omega | simp [own_go, own_adv, *]
      | n + 5, h => omega)
theorem ef_law (m : MethodId) (x0 : Int32) (x1 : Int32) (x2 : Int32) (x3 : Int32) : entryFrame m #[(.int x0), (.int x1), (.int x2), (.int x3)] maxLocals = mkF m 0 #[.val (.int x0), .val (.int x1), .val (.int x2), .val (.int x3), .unset, .unset, .unset, .unset, .unset, .unset, .unset, .unset, .unset, .unset, .unset, .unset, .unset, .unset, .unset, .unset] [] := by first | (simp [entryFrame, mkF, argsToLocals, Value.category, maxLocals]; done) | rfl
theorem pn_law : plainFor (⟨"com/example/holdfast/holdfast/fill/CeilingsFirstPinLaw", "law", "(IIII)Z"⟩ : MethodName) = true := by first | (exact plainFor_of_name (by first | (simp [plainName, overriddenIn]; done) | decide +kernel)) | decide +kernel
set_option maxRecDepth 65536 in
set_option maxHeartbeats 40000000 in
theorem rm_law (l : Launch) (Z : State) (a0 : Array Value) (hw : ∀ d ∈ tables_1, d.before a0 Z = true) (ws : List Jvm.Cond) (x0 : Int32) (x1 : Int32) (x2 : Int32) (x3 : Int32) (h : Heap) (n0 : Nat) (Z0 : n0 ≤ h.size) :
    Mt l Z x code maxLocals ret ws room_1 #[(.int x0), (.int x1), (.int x2), (.int x3)] h n0 (fun v _ => v = some (.int 1)) := by
  refine Mt.of (own := "com/example/holdfast/holdfast/fill/CeilingsFirstPinLaw") (nm := "law") pn_law Z0 (Ls := #[.val (.int x0), .val (.int x1), .val (.int x2), .val (.int x3), .unset, .unset, .unset, .unset, .unset, .unset, .unset, .unset, .unset, .unset, .unset, .unset, .unset, .unset, .unset, .unset]) (fun m => ef_law m x0 x1 x2 x3) rfl rfl (fun p e s m below meth c T C S => ?_)
  refine own_run S C [.iload_n 0, .iconst 2, .iushr, .istore 4, .iload 4, .iconst 1, .iadd, .iload_n 1, .sipush 255, .iand, .iadd, .istore 5, .iload 5, .iconst 1] (pc' := 20) (Ls' := #[.val (.int x0), .val (.int x1), .val (.int x2), .val (.int x3), .val (.int (XT.ushr x0 (2 : Int32))), .val (.int (((XT.ushr x0 (2 : Int32)) + (1 : Int32)) + (x1 &&& (255 : Int32)))), .unset, .unset, .unset, .unset, .unset, .unset, .unset, .unset, .unset, .unset, .unset, .unset, .unset, .unset]) (st' := [(.int (1 : Int32)), (.int (((XT.ushr x0 (2 : Int32)) + (1 : Int32)) + (x1 &&& (255 : Int32))))]) (by decide +kernel) rfl ?_
  refine own_run S C [.iadd, .iload_n 1, .bipush 8, .iushr, .sipush 255, .iand, .iadd, .istore 6, .iload 6, .iconst 1, .iadd, .iload_n 1, .bipush 16, .iushr] (pc' := 40) (Ls' := #[.val (.int x0), .val (.int x1), .val (.int x2), .val (.int x3), .val (.int (XT.ushr x0 (2 : Int32))), .val (.int (((XT.ushr x0 (2 : Int32)) + (1 : Int32)) + (x1 &&& (255 : Int32)))), .val (.int (((((XT.ushr x0 (2 : Int32)) + (1 : Int32)) + (x1 &&& (255 : Int32))) + (1 : Int32)) + ((XT.ushr x1 (8 : Int32)) &&& (255 : Int32)))), .unset, .unset, .unset, .unset, .unset, .unset, .unset, .unset, .unset, .unset, .unset, .unset, .unset]) (st' := [(.int (XT.ushr x1 (16 : Int32))), (.int ((((((XT.ushr x0 (2 : Int32)) + (1 : Int32)) + (x1 &&& (255 : Int32))) + (1 : Int32)) + ((XT.ushr x1 (8 : Int32)) &&& (255 : Int32))) + (1 : Int32)))]) (by decide +kernel) rfl ?_
  refine own_run S C [.sipush 255, .iand, .iadd, .istore 7] (pc' := 47) (Ls' := #[.val (.int x0), .val (.int x1), .val (.int x2), .val (.int x3), .val (.int (XT.ushr x0 (2 : Int32))), .val (.int (((XT.ushr x0 (2 : Int32)) + (1 : Int32)) + (x1 &&& (255 : Int32)))), .val (.int (((((XT.ushr x0 (2 : Int32)) + (1 : Int32)) + (x1 &&& (255 : Int32))) + (1 : Int32)) + ((XT.ushr x1 (8 : Int32)) &&& (255 : Int32)))), .val (.int (((((((XT.ushr x0 (2 : Int32)) + (1 : Int32)) + (x1 &&& (255 : Int32))) + (1 : Int32)) + ((XT.ushr x1 (8 : Int32)) &&& (255 : Int32))) + (1 : Int32)) + ((XT.ushr x1 (16 : Int32)) &&& (255 : Int32)))), .unset, .unset, .unset, .unset, .unset, .unset, .unset, .unset, .unset, .unset, .unset, .unset]) (st' := []) (by decide +kernel) rfl ?_
  have u0 := own_ushr x0 (2 : Int32) 2 (by decide) (by decide) (by decide)
  have u1 := own_and_le x1 (255 : Int32) (by decide)
  have u2 := own_and_le (XT.ushr x1 (8 : Int32)) (255 : Int32) (by decide)
  have u3 := own_and_le (XT.ushr x1 (16 : Int32)) (255 : Int32) (by decide)
  rw [show (255 : Int32).toInt = 255 from rfl] at u1 u2 u3
  rw [show (2 : Int) ^ (32 - 2) = 1073741824 from rfl] at u0
  have el : (1 : Int32).toInt = 1 := rfl
  generalize x1 &&& (255 : Int32) = m1 at u1 ⊢
  generalize XT.ushr x1 (8 : Int32) &&& (255 : Int32) = m2 at u2 ⊢
  generalize XT.ushr x1 (16 : Int32) &&& (255 : Int32) = m3 at u3 ⊢
  generalize XT.ushr x0 (2 : Int32) = t0 at u0 ⊢
  have a1 : (t0 + (1 : Int32)).toInt = t0.toInt + 1 := own_add (by omega) (by omega)
  have c1 : (t0 + (1 : Int32) + m1).toInt = t0.toInt + 1 + m1.toInt := by rw [own_add (by rw [a1]; omega) (by rw [a1]; omega), a1]
  generalize t0 + (1 : Int32) + m1 = t1 at c1 ⊢
  have a2 : (t1 + (1 : Int32)).toInt = t1.toInt + 1 := own_add (by omega) (by omega)
  have c2 : (t1 + (1 : Int32) + m2).toInt = t1.toInt + 1 + m2.toInt := by rw [own_add (by rw [a2]; omega) (by rw [a2]; omega), a2]
  generalize t1 + (1 : Int32) + m2 = t2 at c2 ⊢
  have a3 : (t2 + (1 : Int32)).toInt = t2.toInt + 1 := own_add (by omega) (by omega)
  have c3 : (t2 + (1 : Int32) + m3).toInt = t2.toInt + 1 + m3.toInt := by rw [own_add (by rw [a3]; omega) (by rw [a3]; omega), a3]
  generalize t2 + (1 : Int32) + m3 = t3 at c3 ⊢
  have ht1 : t0.toInt < t1.toInt := by omega
  have ht2 : t1.toInt < t2.toInt := by omega
  have ht3 : t2.toInt < t3.toInt := by omega
  clear c1 c2 c3 a1 a2 a3 u0 u1 u2 u3
  refine own_run S C [.iconst 4] (pc' := 48) (Ls' := #[.val (.int x0), .val (.int x1), .val (.int x2), .val (.int x3), .val (.int t0), .val (.int t1), .val (.int t2), .val (.int t3), .unset, .unset, .unset, .unset, .unset, .unset, .unset, .unset, .unset, .unset, .unset, .unset]) (st' := [(.int (4 : Int32))]) (by decide +kernel) rfl ?_
  refine own_newarray S C (hw _ (List.mem_of_getElem? (i := 0) rfl)) (by decide +kernel) (n := (4 : Int32)) (by decide) 4 (by decide) (by decide) (by decide) (by decide) (vs := [(0 : Int32), (0 : Int32), (0 : Int32), (0 : Int32)]) rfl (fun T1 h1 b1 e1 S1 E1 g1 A1 => ?_)
  refine own_run S1 C [.astore 8, .aload 8, .iconst 0, .iload 4] (pc' := 57) (Ls' := #[.val (.int x0), .val (.int x1), .val (.int x2), .val (.int x3), .val (.int t0), .val (.int t1), .val (.int t2), .val (.int t3), .val (.ref b1), .unset, .unset, .unset, .unset, .unset, .unset, .unset, .unset, .unset, .unset, .unset]) (st' := [(.int t0), (.int (0 : Int32)), (.ref b1)]) (by decide +kernel) rfl ?_
  refine own_iastore S1 C A1 (by decide +kernel) (j := (0 : Int32)) (x := t0) ⟨by decide, (by decide : (0 : Int32).toInt < ((4 : Nat) : Int))⟩ g1 (vs' := [t0, (0 : Int32), (0 : Int32), (0 : Int32)]) rfl (fun T2 h2 S2 K2 A2 => ?_)
  refine own_run S2 C [.aload 8, .iconst 1, .iload 5] (pc' := 63) (Ls' := #[.val (.int x0), .val (.int x1), .val (.int x2), .val (.int x3), .val (.int t0), .val (.int t1), .val (.int t2), .val (.int t3), .val (.ref b1), .unset, .unset, .unset, .unset, .unset, .unset, .unset, .unset, .unset, .unset, .unset]) (st' := [(.int t1), (.int (1 : Int32)), (.ref b1)]) (by decide +kernel) rfl ?_
  refine own_iastore S2 C A2 (by decide +kernel) (j := (1 : Int32)) (x := t1) ⟨by decide, (by decide : (1 : Int32).toInt < ((4 : Nat) : Int))⟩ g1 (vs' := [t0, t1, (0 : Int32), (0 : Int32)]) rfl (fun T3 h3 S3 K3 A3 => ?_)
  refine own_run S3 C [.aload 8, .iconst 2, .iload 6] (pc' := 69) (Ls' := #[.val (.int x0), .val (.int x1), .val (.int x2), .val (.int x3), .val (.int t0), .val (.int t1), .val (.int t2), .val (.int t3), .val (.ref b1), .unset, .unset, .unset, .unset, .unset, .unset, .unset, .unset, .unset, .unset, .unset]) (st' := [(.int t2), (.int (2 : Int32)), (.ref b1)]) (by decide +kernel) rfl ?_
  refine own_iastore S3 C A3 (by decide +kernel) (j := (2 : Int32)) (x := t2) ⟨by decide, (by decide : (2 : Int32).toInt < ((4 : Nat) : Int))⟩ g1 (vs' := [t0, t1, t2, (0 : Int32)]) rfl (fun T4 h4 S4 K4 A4 => ?_)
  refine own_run S4 C [.aload 8, .iconst 3, .iload 7] (pc' := 75) (Ls' := #[.val (.int x0), .val (.int x1), .val (.int x2), .val (.int x3), .val (.int t0), .val (.int t1), .val (.int t2), .val (.int t3), .val (.ref b1), .unset, .unset, .unset, .unset, .unset, .unset, .unset, .unset, .unset, .unset, .unset]) (st' := [(.int t3), (.int (3 : Int32)), (.ref b1)]) (by decide +kernel) rfl ?_
  refine own_iastore S4 C A4 (by decide +kernel) (j := (3 : Int32)) (x := t3) ⟨by decide, (by decide : (3 : Int32).toInt < ((4 : Nat) : Int))⟩ g1 (vs' := [t0, t1, t2, t3]) rfl (fun T5 h5 S5 K5 A5 => ?_)
  refine own_run S5 C [.iload_n 2, .iconst 1, .iand] (pc' := 79) (Ls' := #[.val (.int x0), .val (.int x1), .val (.int x2), .val (.int x3), .val (.int t0), .val (.int t1), .val (.int t2), .val (.int t3), .val (.ref b1), .unset, .unset, .unset, .unset, .unset, .unset, .unset, .unset, .unset, .unset, .unset]) (st' := [(.int (x2 &&& (1 : Int32)))]) (by decide +kernel) rfl ?_
  have fl9 : ∀ f9 : Int32, Con p e below T5 (mkF m 87 #[.val (.int x0), .val (.int x1), .val (.int x2), .val (.int x3), .val (.int t0), .val (.int t1), .val (.int t2), .val (.int t3), .val (.ref b1), .unset, .unset, .unset, .unset, .unset, .unset, .unset, .unset, .unset, .unset, .unset] [(.int f9)]) (Pq s room_1 n0 (fun v _ => v = some (.int 1))) := by
    intro f9
    refine own_run S5 C [.istore 9, .iload_n 2, .iconst 2, .iand] (pc' := 92) (Ls' := #[.val (.int x0), .val (.int x1), .val (.int x2), .val (.int x3), .val (.int t0), .val (.int t1), .val (.int t2), .val (.int t3), .val (.ref b1), .val (.int f9), .unset, .unset, .unset, .unset, .unset, .unset, .unset, .unset, .unset, .unset]) (st' := [(.int (x2 &&& (2 : Int32)))]) (by decide +kernel) rfl ?_
    have fl10 : ∀ f10 : Int32, Con p e below T5 (mkF m 100 #[.val (.int x0), .val (.int x1), .val (.int x2), .val (.int x3), .val (.int t0), .val (.int t1), .val (.int t2), .val (.int t3), .val (.ref b1), .val (.int f9), .unset, .unset, .unset, .unset, .unset, .unset, .unset, .unset, .unset, .unset] [(.int f10)]) (Pq s room_1 n0 (fun v _ => v = some (.int 1))) := by
      intro f10
      refine own_run S5 C [.istore 10, .iload_n 2, .iconst 4, .iand] (pc' := 105) (Ls' := #[.val (.int x0), .val (.int x1), .val (.int x2), .val (.int x3), .val (.int t0), .val (.int t1), .val (.int t2), .val (.int t3), .val (.ref b1), .val (.int f9), .val (.int f10), .unset, .unset, .unset, .unset, .unset, .unset, .unset, .unset, .unset]) (st' := [(.int (x2 &&& (4 : Int32)))]) (by decide +kernel) rfl ?_
      have fl11 : ∀ f11 : Int32, Con p e below T5 (mkF m 113 #[.val (.int x0), .val (.int x1), .val (.int x2), .val (.int x3), .val (.int t0), .val (.int t1), .val (.int t2), .val (.int t3), .val (.ref b1), .val (.int f9), .val (.int f10), .unset, .unset, .unset, .unset, .unset, .unset, .unset, .unset, .unset] [(.int f11)]) (Pq s room_1 n0 (fun v _ => v = some (.int 1))) := by
        intro f11
        refine own_run S5 C [.istore 11, .iload_n 2, .bipush 8, .iand] (pc' := 119) (Ls' := #[.val (.int x0), .val (.int x1), .val (.int x2), .val (.int x3), .val (.int t0), .val (.int t1), .val (.int t2), .val (.int t3), .val (.ref b1), .val (.int f9), .val (.int f10), .val (.int f11), .unset, .unset, .unset, .unset, .unset, .unset, .unset, .unset]) (st' := [(.int (x2 &&& (8 : Int32)))]) (by decide +kernel) rfl ?_
        have fl12 : ∀ f12 : Int32, Con p e below T5 (mkF m 127 #[.val (.int x0), .val (.int x1), .val (.int x2), .val (.int x3), .val (.int t0), .val (.int t1), .val (.int t2), .val (.int t3), .val (.ref b1), .val (.int f9), .val (.int f10), .val (.int f11), .unset, .unset, .unset, .unset, .unset, .unset, .unset, .unset] [(.int f12)]) (Pq s room_1 n0 (fun v _ => v = some (.int 1))) := by
          intro f12
          refine own_run S5 C [.istore 12] (pc' := 129) (Ls' := #[.val (.int x0), .val (.int x1), .val (.int x2), .val (.int x3), .val (.int t0), .val (.int t1), .val (.int t2), .val (.int t3), .val (.ref b1), .val (.int f9), .val (.int f10), .val (.int f11), .val (.int f12), .unset, .unset, .unset, .unset, .unset, .unset, .unset]) (st' := []) (by decide +kernel) rfl ?_
          refine own_run S5 C [.iconst 4] (pc' := 130) (Ls' := #[.val (.int x0), .val (.int x1), .val (.int x2), .val (.int x3), .val (.int t0), .val (.int t1), .val (.int t2), .val (.int t3), .val (.ref b1), .val (.int f9), .val (.int f10), .val (.int f11), .val (.int f12), .unset, .unset, .unset, .unset, .unset, .unset, .unset]) (st' := [(.int (4 : Int32))]) (by decide +kernel) rfl ?_
          refine own_newarray S5 C (hw _ (List.mem_of_getElem? (i := 0) rfl)) (by decide +kernel) (n := (4 : Int32)) (by decide) 4 (by decide) (by decide) (by decide) (by decide) (vs := [(0 : Int32), (0 : Int32), (0 : Int32), (0 : Int32)]) rfl (fun T6 h6 b6 e6 S6 E6 g6 A6 => ?_)
          have n_b1_b6 : b1 ≠ b6 := own_ne A5.lt e6
          have A7 := A5.ext E6
          refine own_run S6 C [.astore 13, .iconst 0, .istore 14, .iconst 4] (pc' := 138) (Ls' := #[.val (.int x0), .val (.int x1), .val (.int x2), .val (.int x3), .val (.int t0), .val (.int t1), .val (.int t2), .val (.int t3), .val (.ref b1), .val (.int f9), .val (.int f10), .val (.int f11), .val (.int f12), .val (.ref b6), .val (.int (0 : Int32)), .unset, .unset, .unset, .unset, .unset]) (st' := [(.int (4 : Int32))]) (by decide +kernel) rfl ?_
          refine own_newarray S6 C (hw _ (List.mem_of_getElem? (i := 0) rfl)) (by decide +kernel) (n := (4 : Int32)) (by decide) 4 (by decide) (by decide) (by decide) (by decide) (vs := [(0 : Int32), (0 : Int32), (0 : Int32), (0 : Int32)]) rfl (fun T8 h8 b8 e8 S8 E8 g8 A8 => ?_)
          have n_b1_b8 : b1 ≠ b8 := own_ne A7.lt e8
          have A9 := A7.ext E8
          have n_b6_b8 : b6 ≠ b8 := own_ne A6.lt e8
          have A10 := A6.ext E8
          refine own_run S8 C [.astore 15, .iconst 0, .istore 16] (pc' := 145) (Ls' := #[.val (.int x0), .val (.int x1), .val (.int x2), .val (.int x3), .val (.int t0), .val (.int t1), .val (.int t2), .val (.int t3), .val (.ref b1), .val (.int f9), .val (.int f10), .val (.int f11), .val (.int f12), .val (.ref b6), .val (.int (0 : Int32)), .val (.ref b8), .val (.int (0 : Int32)), .unset, .unset, .unset]) (st' := []) (by decide +kernel) rfl ?_
          have j257 : ∀ (T' : State) (h' : Heap) (fu fr : List Int32), own_P [t3, t2, t1, t0] fu fr → St p l e room_1 s m #[(.int x0), (.int x1), (.int x2), (.int x3)] below meth c n0 T' h' 3 12 → Ai Z h' b1 [t0, t1, t2, t3] → Ai Z h' b6 (own_pad fu) → Ai Z h' b8 (own_pad fr) → Con p e below T' (mkF m 257 #[.val (.int x0), .val (.int x1), .val (.int x2), .val (.int x3), .val (.int t0), .val (.int t1), .val (.int t2), .val (.int t3), .val (.ref b1), .val (.int f9), .val (.int f10), .val (.int f11), .val (.int f12), .val (.ref b6), .val (.int (Int32.ofNat fu.length)), .val (.ref b8), .val (.int (Int32.ofNat fr.length)), .unset, .unset, .unset] []) (Pq s room_1 n0 (fun v _ => v = some (.int 1))) := by
            intro T' h' fu fr hP SS AT AU AR
            have hlen := own_P_len _ _ _ hP
            simp only [List.length_cons, List.length_nil, Nat.zero_add] at hlen
            have qn := own_n2 (n := fu.length) (by omega)
            have qk := own_n2 (n := fr.length) (by omega)
            have qn3 := own_n3 (n := fu.length) (by omega)
            have qk3 := own_n3 (n := fr.length) (by omega)
            refine own_run SS C [.iload 14] (pc' := 259) (Ls' := #[.val (.int x0), .val (.int x1), .val (.int x2), .val (.int x3), .val (.int t0), .val (.int t1), .val (.int t2), .val (.int t3), .val (.ref b1), .val (.int f9), .val (.int f10), .val (.int f11), .val (.int f12), .val (.ref b6), .val (.int (Int32.ofNat fu.length)), .val (.ref b8), .val (.int (Int32.ofNat fr.length)), .unset, .unset, .unset]) (st' := [(.int (Int32.ofNat fu.length))]) (by decide +kernel) rfl ?_
            refine own_newarray SS C (hw _ (List.mem_of_getElem? (i := 0) rfl)) (by decide +kernel) (n := (Int32.ofNat fu.length)) (by omega) 4 (by omega) (by decide) (by decide) (by decide) (vs := (own_cp 0 fu)) (by rw [qn3]; unfold own_cp; simp) (fun T11 h11 b11 e11 S11 E11 g11 A11 => ?_)
            have n_b1_b11 : b1 ≠ b11 := own_ne AT.lt e11
            have A12 := AT.ext E11
            have n_b6_b11 : b6 ≠ b11 := own_ne AU.lt e11
            have A13 := AU.ext E11
            have n_b8_b11 : b8 ≠ b11 := own_ne AR.lt e11
            have A14 := AR.ext E11
            refine own_run S11 C [.astore 17] (pc' := 263) (Ls' := #[.val (.int x0), .val (.int x1), .val (.int x2), .val (.int x3), .val (.int t0), .val (.int t1), .val (.int t2), .val (.int t3), .val (.ref b1), .val (.int f9), .val (.int f10), .val (.int f11), .val (.int f12), .val (.ref b6), .val (.int (Int32.ofNat fu.length)), .val (.ref b8), .val (.int (Int32.ofNat fr.length)), .val (.ref b11), .unset, .unset]) (st' := []) (by decide +kernel) rfl ?_
            have c318 : ∀ (T' : State) (h' : Heap), St p l e room_1 s m #[(.int x0), (.int x1), (.int x2), (.int x3)] below meth c n0 T' h' 4 16 → Ai Z h' b1 [t0, t1, t2, t3] → Ai Z h' b6 (own_pad fu) → Ai Z h' b8 (own_pad fr) → Ai Z h' b11 (own_cp 4 fu) → Con p e below T' (mkF m 318 #[.val (.int x0), .val (.int x1), .val (.int x2), .val (.int x3), .val (.int t0), .val (.int t1), .val (.int t2), .val (.int t3), .val (.ref b1), .val (.int f9), .val (.int f10), .val (.int f11), .val (.int f12), .val (.ref b6), .val (.int (Int32.ofNat fu.length)), .val (.ref b8), .val (.int (Int32.ofNat fr.length)), .val (.ref b11), .unset, .unset] []) (Pq s room_1 n0 (fun v _ => v = some (.int 1))) := by
              intro T' h' SS AT AU AR AL
              rw [own_cp_all (by omega)] at AL
              refine own_run SS C [.iload_n 3] (pc' := 319) (Ls' := #[.val (.int x0), .val (.int x1), .val (.int x2), .val (.int x3), .val (.int t0), .val (.int t1), .val (.int t2), .val (.int t3), .val (.ref b1), .val (.int f9), .val (.int f10), .val (.int f11), .val (.int f12), .val (.ref b6), .val (.int (Int32.ofNat fu.length)), .val (.ref b8), .val (.int (Int32.ofNat fr.length)), .val (.ref b11), .unset, .unset]) (st' := [(.int x3)]) (by decide +kernel) rfl ?_
              refine own_ldc SS C (hw _ (List.mem_of_getElem? (i := 1) rfl)) (by decide +kernel) ?_
              show Con p e below _ (mkF m 321 #[.val (.int x0), .val (.int x1), .val (.int x2), .val (.int x3), .val (.int t0), .val (.int t1), .val (.int t2), .val (.int t3), .val (.ref b1), .val (.int f9), .val (.int f10), .val (.int f11), .val (.int f12), .val (.ref b6), .val (.int (Int32.ofNat fu.length)), .val (.ref b8), .val (.int (Int32.ofNat fr.length)), .val (.ref b11), .unset, .unset] [(.int (2147483647 : Int32)), (.int x3)]) _
              refine own_run SS C [.iand, .iload 16, .iconst 1, .iadd] (pc' := 326) (Ls' := #[.val (.int x0), .val (.int x1), .val (.int x2), .val (.int x3), .val (.int t0), .val (.int t1), .val (.int t2), .val (.int t3), .val (.ref b1), .val (.int f9), .val (.int f10), .val (.int f11), .val (.int f12), .val (.ref b6), .val (.int (Int32.ofNat fu.length)), .val (.ref b8), .val (.int (Int32.ofNat fr.length)), .val (.ref b11), .unset, .unset]) (st' := [(.int ((Int32.ofNat fr.length) + (1 : Int32))), (.int (x3 &&& (2147483647 : Int32)))]) (by decide +kernel) rfl ?_
              have y1 : (Int32.ofNat fr.length + (1 : Int32)).toInt = (fr.length : Int) + 1 := by rw [own_succ, own_n2 (by omega)]; omega
              have y2 : ((Int32.ofNat fr.length) + (1 : Int32)) ≠ 0 := fun z => by rw [z, show (0 : Int32).toInt = 0 from rfl] at y1; omega
              refine own_irem SS C (x := (x3 &&& (2147483647 : Int32))) (y := ((Int32.ofNat fr.length) + (1 : Int32))) y2 (by decide +kernel) ?_
              show Con p e below _ (mkF m 327 #[.val (.int x0), .val (.int x1), .val (.int x2), .val (.int x3), .val (.int t0), .val (.int t1), .val (.int t2), .val (.int t3), .val (.ref b1), .val (.int f9), .val (.int f10), .val (.int f11), .val (.int f12), .val (.ref b6), .val (.int (Int32.ofNat fu.length)), .val (.ref b8), .val (.int (Int32.ofNat fr.length)), .val (.ref b11), .unset, .unset] [(.int ((x3 &&& (2147483647 : Int32)) - (x3 &&& (2147483647 : Int32)) / ((Int32.ofNat fr.length) + (1 : Int32)) * ((Int32.ofNat fr.length) + (1 : Int32))))]) _
              have q1 := own_and_le x3 (2147483647 : Int32) (by decide)
              have hE : ∃ ex : Nat, ex ≤ fr.length ∧ ((x3 &&& (2147483647 : Int32)) - (x3 &&& (2147483647 : Int32)) / ((Int32.ofNat fr.length) + (1 : Int32)) * ((Int32.ofNat fr.length) + (1 : Int32))) = Int32.ofNat ex := by
                have r1 := own_rem (y := ((Int32.ofNat fr.length) + (1 : Int32))) q1.1 (by omega)
                have r2 : 0 ≤ (x3 &&& (2147483647 : Int32)).toInt % ((Int32.ofNat fr.length) + (1 : Int32)).toInt := Int.emod_nonneg _ (by omega)
                have r3 : (x3 &&& (2147483647 : Int32)).toInt % ((Int32.ofNat fr.length) + (1 : Int32)).toInt < ((Int32.ofNat fr.length) + (1 : Int32)).toInt := Int.emod_lt_of_pos _ (by omega)
                exact ⟨_, by omega, own_ofNat (by omega)⟩
              obtain ⟨ex, hex, hE⟩ := hE
              rw [hE]
              have hg := own_law t0 t1 t2 t3 ht1 ht2 ht3 fu fr hP ex hex
              have qe := own_n2 (n := ex) (by omega)
              refine own_run SS C [.istore 18, .aload 8, .iload 18, .aload 17] (pc' := 335) (Ls' := #[.val (.int x0), .val (.int x1), .val (.int x2), .val (.int x3), .val (.int t0), .val (.int t1), .val (.int t2), .val (.int t3), .val (.ref b1), .val (.int f9), .val (.int f10), .val (.int f11), .val (.int f12), .val (.ref b6), .val (.int (Int32.ofNat fu.length)), .val (.ref b8), .val (.int (Int32.ofNat fr.length)), .val (.ref b11), .val (.int (Int32.ofNat ex)), .unset]) (st' := [(.ref b11), (.int (Int32.ofNat ex)), (.ref b1)]) (by decide +kernel) rfl ?_
              refine own_callS SS C (y := (⟨"com/example/holdfast/holdfast/fill/Ceilings", "first", "([II[I)[I"⟩ : MethodName)) (hw _ (List.mem_of_getElem? (i := 2) rfl)) (hw _ (List.mem_of_getElem? (i := 3) rfl)) (hw _ (List.mem_of_getElem? (i := 4) rfl)) (hw _ (List.mem_of_getElem? (i := 5) rfl)) (by decide) (rm_first l Z a0 hw [] b1 b11 ex (by omega) [t0, t1, t2, t3] fu (fr.take ex) h' n0 SS.size AT AL 5 hg) 0 (by decide) (by decide) (ps := [(.array .int), .int, (.array .int)]) (r := (some (.array .int))) (by decide +kernel) [(.ref b1), (.int (Int32.ofNat ex)), (.ref b11)] [] rfl rfl rfl (Nat.le_of_eq rfl) rfl (by decide +kernel) (by decide) (by decide) (fun v TC hC SC q => ?_)
              obtain ⟨r, rfl, KC, AC⟩ := q
              have AR3 := AR.keep KC nin0
              show Con p e below _ (mkF m 338 #[.val (.int x0), .val (.int x1), .val (.int x2), .val (.int x3), .val (.int t0), .val (.int t1), .val (.int t2), .val (.int t3), .val (.ref b1), .val (.int f9), .val (.int f10), .val (.int f11), .val (.int f12), .val (.ref b6), .val (.int (Int32.ofNat fu.length)), .val (.ref b8), .val (.int (Int32.ofNat fr.length)), .val (.ref b11), .val (.int (Int32.ofNat ex)), .unset] [(.ref r)]) _
              refine own_run SC C [.astore 19, .aload 19] (pc' := 342) (Ls' := #[.val (.int x0), .val (.int x1), .val (.int x2), .val (.int x3), .val (.int t0), .val (.int t1), .val (.int t2), .val (.int t3), .val (.ref b1), .val (.int f9), .val (.int f10), .val (.int f11), .val (.int f12), .val (.ref b6), .val (.int (Int32.ofNat fu.length)), .val (.ref b8), .val (.int (Int32.ofNat fr.length)), .val (.ref b11), .val (.int (Int32.ofNat ex)), .val (.ref r)]) (st' := [(.ref r)]) (by decide +kernel) rfl ?_
              refine own_ifnullNo SC C (o := 11) (by decide +kernel) ?_
              show Con p e below _ (mkF m 345 #[.val (.int x0), .val (.int x1), .val (.int x2), .val (.int x3), .val (.int t0), .val (.int t1), .val (.int t2), .val (.int t3), .val (.ref b1), .val (.int f9), .val (.int f10), .val (.int f11), .val (.int f12), .val (.ref b6), .val (.int (Int32.ofNat fu.length)), .val (.ref b8), .val (.int (Int32.ofNat fr.length)), .val (.ref b11), .val (.int (Int32.ofNat ex)), .val (.ref r)] []) _
              refine own_run SC C [.aload 19] (pc' := 347) (Ls' := #[.val (.int x0), .val (.int x1), .val (.int x2), .val (.int x3), .val (.int t0), .val (.int t1), .val (.int t2), .val (.int t3), .val (.ref b1), .val (.int f9), .val (.int f10), .val (.int f11), .val (.int f12), .val (.ref b6), .val (.int (Int32.ofNat fu.length)), .val (.ref b8), .val (.int (Int32.ofNat fr.length)), .val (.ref b11), .val (.int (Int32.ofNat ex)), .val (.ref r)]) (st' := [(.ref r)]) (by decide +kernel) rfl ?_
              have lt : (fr.take ex).length = ex := by rw [List.length_take]; omega
              refine own_alen SC C AC (by decide +kernel) (v := (Int32.ofNat ex)) (by rw [lt]) ?_
              show Con p e below _ (mkF m 348 #[.val (.int x0), .val (.int x1), .val (.int x2), .val (.int x3), .val (.int t0), .val (.int t1), .val (.int t2), .val (.int t3), .val (.ref b1), .val (.int f9), .val (.int f10), .val (.int f11), .val (.int f12), .val (.ref b6), .val (.int (Int32.ofNat fu.length)), .val (.ref b8), .val (.int (Int32.ofNat fr.length)), .val (.ref b11), .val (.int (Int32.ofNat ex)), .val (.ref r)] [(.int (Int32.ofNat ex))]) _
              refine own_run SC C [.iload 18] (pc' := 350) (Ls' := #[.val (.int x0), .val (.int x1), .val (.int x2), .val (.int x3), .val (.int t0), .val (.int t1), .val (.int t2), .val (.int t3), .val (.ref b1), .val (.int f9), .val (.int f10), .val (.int f11), .val (.int f12), .val (.ref b6), .val (.int (Int32.ofNat fu.length)), .val (.ref b8), .val (.int (Int32.ofNat fr.length)), .val (.ref b11), .val (.int (Int32.ofNat ex)), .val (.ref r)]) (st' := [(.int (Int32.ofNat ex)), (.int (Int32.ofNat ex))]) (by decide +kernel) rfl ?_
              refine own_icmp SC C (cd := .eq) (o := 5) (by decide +kernel) (pc' := 355) ⟨by decide, by decide⟩ (fun _ => ?_) (fun hc350 => absurd ((hh_eq).2.mp hc350) (show ¬ ((Int32.ofNat ex).toInt ≠ (Int32.ofNat ex).toInt) by omega))
              have m423 : Con p e below TC (mkF m 423 #[.val (.int x0), .val (.int x1), .val (.int x2), .val (.int x3), .val (.int t0), .val (.int t1), .val (.int t2), .val (.int t3), .val (.ref b1), .val (.int f9), .val (.int f10), .val (.int f11), .val (.int f12), .val (.ref b6), .val (.int (Int32.ofNat fu.length)), .val (.ref b8), .val (.int (Int32.ofNat fr.length)), .val (.ref b11), .val (.int (Int32.ofNat ex)), .val (.ref r)] []) (Pq s room_1 n0 (fun v _ => v = some (.int 1))) := by
                refine own_run SC C [.iconst 1, .goto 4] (pc' := 428) (Ls' := #[.val (.int x0), .val (.int x1), .val (.int x2), .val (.int x3), .val (.int t0), .val (.int t1), .val (.int t2), .val (.int t3), .val (.ref b1), .val (.int f9), .val (.int f10), .val (.int f11), .val (.int f12), .val (.ref b6), .val (.int (Int32.ofNat fu.length)), .val (.ref b8), .val (.int (Int32.ofNat fr.length)), .val (.ref b11), .val (.int (Int32.ofNat ex)), .val (.ref r)]) (st' := [(.int (1 : Int32))]) (by decide +kernel) rfl ?_
                exact own_retz SC C (z' := (1 : Int32)) (by decide) (by decide +kernel) (by decide) (by decide) rfl
              have m406 : Con p e below TC (mkF m 406 #[.val (.int x0), .val (.int x1), .val (.int x2), .val (.int x3), .val (.int t0), .val (.int t1), .val (.int t2), .val (.int t3), .val (.ref b1), .val (.int f9), .val (.int f10), .val (.int f11), .val (.int f12), .val (.ref b6), .val (.int (Int32.ofNat fu.length)), .val (.ref b8), .val (.int (Int32.ofNat fr.length)), .val (.ref b11), .val (.int (Int32.ofNat ex)), .val (.ref r)] []) (Pq s room_1 n0 (fun v _ => v = some (.int 1))) := by
                refine own_run SC C [.iload 18, .iconst 4] (pc' := 409) (Ls' := #[.val (.int x0), .val (.int x1), .val (.int x2), .val (.int x3), .val (.int t0), .val (.int t1), .val (.int t2), .val (.int t3), .val (.ref b1), .val (.int f9), .val (.int f10), .val (.int f11), .val (.int f12), .val (.ref b6), .val (.int (Int32.ofNat fu.length)), .val (.ref b8), .val (.int (Int32.ofNat fr.length)), .val (.ref b11), .val (.int (Int32.ofNat ex)), .val (.ref r)]) (st' := [(.int (4 : Int32)), (.int (Int32.ofNat ex))]) (by decide +kernel) rfl ?_
                refine own_icmp SC C (cd := .lt) (o := 14) (by decide +kernel) (pc' := 423) ⟨by decide, by decide⟩ (fun hc409 => ?_) (fun hc409 => ?_)
                · skip
                  have k409 : (Int32.ofNat ex).toInt < (4 : Int) := (hh_lt).1.mp hc409
                  exact m423
                · skip
                  have k409 : (Int32.ofNat ex).toInt ≥ (4 : Int) := (hh_lt).2.mp hc409
                  refine own_run SC C [.aload 19, .iconst 3] (pc' := 415) (Ls' := #[.val (.int x0), .val (.int x1), .val (.int x2), .val (.int x3), .val (.int t0), .val (.int t1), .val (.int t2), .val (.int t3), .val (.ref b1), .val (.int f9), .val (.int f10), .val (.int f11), .val (.int f12), .val (.ref b6), .val (.int (Int32.ofNat fu.length)), .val (.ref b8), .val (.int (Int32.ofNat fr.length)), .val (.ref b11), .val (.int (Int32.ofNat ex)), .val (.ref r)]) (st' := [(.int (3 : Int32)), (.ref r)]) (by decide +kernel) rfl ?_
                  refine own_iaload SC C AC (by decide +kernel) (j := (3 : Int32)) (v := (fr.getD 3 0)) (by rw [lt]; exact ⟨by decide, show ((3 : Nat) : Int) < _ by omega⟩) (show (fr.take ex).getD 3 0 = _ by rw [List.getD_eq_getElem?_getD, List.getD_eq_getElem?_getD, List.getElem?_take_of_lt (by omega)]) ?_
                  show Con p e below _ (mkF m 416 #[.val (.int x0), .val (.int x1), .val (.int x2), .val (.int x3), .val (.int t0), .val (.int t1), .val (.int t2), .val (.int t3), .val (.ref b1), .val (.int f9), .val (.int f10), .val (.int f11), .val (.int f12), .val (.ref b6), .val (.int (Int32.ofNat fu.length)), .val (.ref b8), .val (.int (Int32.ofNat fr.length)), .val (.ref b11), .val (.int (Int32.ofNat ex)), .val (.ref r)] [(.int (fr.getD 3 0))]) _
                  refine own_run SC C [.aload 15, .iconst 3] (pc' := 419) (Ls' := #[.val (.int x0), .val (.int x1), .val (.int x2), .val (.int x3), .val (.int t0), .val (.int t1), .val (.int t2), .val (.int t3), .val (.ref b1), .val (.int f9), .val (.int f10), .val (.int f11), .val (.int f12), .val (.ref b6), .val (.int (Int32.ofNat fu.length)), .val (.ref b8), .val (.int (Int32.ofNat fr.length)), .val (.ref b11), .val (.int (Int32.ofNat ex)), .val (.ref r)]) (st' := [(.int (3 : Int32)), (.ref b8), (.int (fr.getD 3 0))]) (by decide +kernel) rfl ?_
                  refine own_iaload SC C AR3 (by decide +kernel) (j := (3 : Int32)) (v := (fr.getD 3 0)) (by rw [own_pad_len (by omega)]; exact ⟨by decide, by decide⟩) (show (own_pad fr).getD 3 0 = _ from own_pad_get (by omega)) ?_
                  show Con p e below _ (mkF m 420 #[.val (.int x0), .val (.int x1), .val (.int x2), .val (.int x3), .val (.int t0), .val (.int t1), .val (.int t2), .val (.int t3), .val (.ref b1), .val (.int f9), .val (.int f10), .val (.int f11), .val (.int f12), .val (.ref b6), .val (.int (Int32.ofNat fu.length)), .val (.ref b8), .val (.int (Int32.ofNat fr.length)), .val (.ref b11), .val (.int (Int32.ofNat ex)), .val (.ref r)] [(.int (fr.getD 3 0)), (.int (fr.getD 3 0))]) _
                  refine own_icmp SC C (cd := .ne) (o := 7) (by decide +kernel) (pc' := 427) ⟨by decide, by decide⟩ (fun hc420 => absurd ((hh_ne).1.mp hc420) (show ¬ ((fr.getD 3 0).toInt ≠ (fr.getD 3 0).toInt) by omega)) (fun _ => ?_)
                  exact m423
              have m389 : Con p e below TC (mkF m 389 #[.val (.int x0), .val (.int x1), .val (.int x2), .val (.int x3), .val (.int t0), .val (.int t1), .val (.int t2), .val (.int t3), .val (.ref b1), .val (.int f9), .val (.int f10), .val (.int f11), .val (.int f12), .val (.ref b6), .val (.int (Int32.ofNat fu.length)), .val (.ref b8), .val (.int (Int32.ofNat fr.length)), .val (.ref b11), .val (.int (Int32.ofNat ex)), .val (.ref r)] []) (Pq s room_1 n0 (fun v _ => v = some (.int 1))) := by
                refine own_run SC C [.iload 18, .iconst 3] (pc' := 392) (Ls' := #[.val (.int x0), .val (.int x1), .val (.int x2), .val (.int x3), .val (.int t0), .val (.int t1), .val (.int t2), .val (.int t3), .val (.ref b1), .val (.int f9), .val (.int f10), .val (.int f11), .val (.int f12), .val (.ref b6), .val (.int (Int32.ofNat fu.length)), .val (.ref b8), .val (.int (Int32.ofNat fr.length)), .val (.ref b11), .val (.int (Int32.ofNat ex)), .val (.ref r)]) (st' := [(.int (3 : Int32)), (.int (Int32.ofNat ex))]) (by decide +kernel) rfl ?_
                refine own_icmp SC C (cd := .lt) (o := 14) (by decide +kernel) (pc' := 406) ⟨by decide, by decide⟩ (fun hc392 => ?_) (fun hc392 => ?_)
                · skip
                  have k392 : (Int32.ofNat ex).toInt < (3 : Int) := (hh_lt).1.mp hc392
                  exact m406
                · skip
                  have k392 : (Int32.ofNat ex).toInt ≥ (3 : Int) := (hh_lt).2.mp hc392
                  refine own_run SC C [.aload 19, .iconst 2] (pc' := 398) (Ls' := #[.val (.int x0), .val (.int x1), .val (.int x2), .val (.int x3), .val (.int t0), .val (.int t1), .val (.int t2), .val (.int t3), .val (.ref b1), .val (.int f9), .val (.int f10), .val (.int f11), .val (.int f12), .val (.ref b6), .val (.int (Int32.ofNat fu.length)), .val (.ref b8), .val (.int (Int32.ofNat fr.length)), .val (.ref b11), .val (.int (Int32.ofNat ex)), .val (.ref r)]) (st' := [(.int (2 : Int32)), (.ref r)]) (by decide +kernel) rfl ?_
                  refine own_iaload SC C AC (by decide +kernel) (j := (2 : Int32)) (v := (fr.getD 2 0)) (by rw [lt]; exact ⟨by decide, show ((2 : Nat) : Int) < _ by omega⟩) (show (fr.take ex).getD 2 0 = _ by rw [List.getD_eq_getElem?_getD, List.getD_eq_getElem?_getD, List.getElem?_take_of_lt (by omega)]) ?_
                  show Con p e below _ (mkF m 399 #[.val (.int x0), .val (.int x1), .val (.int x2), .val (.int x3), .val (.int t0), .val (.int t1), .val (.int t2), .val (.int t3), .val (.ref b1), .val (.int f9), .val (.int f10), .val (.int f11), .val (.int f12), .val (.ref b6), .val (.int (Int32.ofNat fu.length)), .val (.ref b8), .val (.int (Int32.ofNat fr.length)), .val (.ref b11), .val (.int (Int32.ofNat ex)), .val (.ref r)] [(.int (fr.getD 2 0))]) _
                  refine own_run SC C [.aload 15, .iconst 2] (pc' := 402) (Ls' := #[.val (.int x0), .val (.int x1), .val (.int x2), .val (.int x3), .val (.int t0), .val (.int t1), .val (.int t2), .val (.int t3), .val (.ref b1), .val (.int f9), .val (.int f10), .val (.int f11), .val (.int f12), .val (.ref b6), .val (.int (Int32.ofNat fu.length)), .val (.ref b8), .val (.int (Int32.ofNat fr.length)), .val (.ref b11), .val (.int (Int32.ofNat ex)), .val (.ref r)]) (st' := [(.int (2 : Int32)), (.ref b8), (.int (fr.getD 2 0))]) (by decide +kernel) rfl ?_
                  refine own_iaload SC C AR3 (by decide +kernel) (j := (2 : Int32)) (v := (fr.getD 2 0)) (by rw [own_pad_len (by omega)]; exact ⟨by decide, by decide⟩) (show (own_pad fr).getD 2 0 = _ from own_pad_get (by omega)) ?_
                  show Con p e below _ (mkF m 403 #[.val (.int x0), .val (.int x1), .val (.int x2), .val (.int x3), .val (.int t0), .val (.int t1), .val (.int t2), .val (.int t3), .val (.ref b1), .val (.int f9), .val (.int f10), .val (.int f11), .val (.int f12), .val (.ref b6), .val (.int (Int32.ofNat fu.length)), .val (.ref b8), .val (.int (Int32.ofNat fr.length)), .val (.ref b11), .val (.int (Int32.ofNat ex)), .val (.ref r)] [(.int (fr.getD 2 0)), (.int (fr.getD 2 0))]) _
                  refine own_icmp SC C (cd := .ne) (o := 24) (by decide +kernel) (pc' := 427) ⟨by decide, by decide⟩ (fun hc403 => absurd ((hh_ne).1.mp hc403) (show ¬ ((fr.getD 2 0).toInt ≠ (fr.getD 2 0).toInt) by omega)) (fun _ => ?_)
                  exact m406
              have m372 : Con p e below TC (mkF m 372 #[.val (.int x0), .val (.int x1), .val (.int x2), .val (.int x3), .val (.int t0), .val (.int t1), .val (.int t2), .val (.int t3), .val (.ref b1), .val (.int f9), .val (.int f10), .val (.int f11), .val (.int f12), .val (.ref b6), .val (.int (Int32.ofNat fu.length)), .val (.ref b8), .val (.int (Int32.ofNat fr.length)), .val (.ref b11), .val (.int (Int32.ofNat ex)), .val (.ref r)] []) (Pq s room_1 n0 (fun v _ => v = some (.int 1))) := by
                refine own_run SC C [.iload 18, .iconst 2] (pc' := 375) (Ls' := #[.val (.int x0), .val (.int x1), .val (.int x2), .val (.int x3), .val (.int t0), .val (.int t1), .val (.int t2), .val (.int t3), .val (.ref b1), .val (.int f9), .val (.int f10), .val (.int f11), .val (.int f12), .val (.ref b6), .val (.int (Int32.ofNat fu.length)), .val (.ref b8), .val (.int (Int32.ofNat fr.length)), .val (.ref b11), .val (.int (Int32.ofNat ex)), .val (.ref r)]) (st' := [(.int (2 : Int32)), (.int (Int32.ofNat ex))]) (by decide +kernel) rfl ?_
                refine own_icmp SC C (cd := .lt) (o := 14) (by decide +kernel) (pc' := 389) ⟨by decide, by decide⟩ (fun hc375 => ?_) (fun hc375 => ?_)
                · skip
                  have k375 : (Int32.ofNat ex).toInt < (2 : Int) := (hh_lt).1.mp hc375
                  exact m389
                · skip
                  have k375 : (Int32.ofNat ex).toInt ≥ (2 : Int) := (hh_lt).2.mp hc375
                  refine own_run SC C [.aload 19, .iconst 1] (pc' := 381) (Ls' := #[.val (.int x0), .val (.int x1), .val (.int x2), .val (.int x3), .val (.int t0), .val (.int t1), .val (.int t2), .val (.int t3), .val (.ref b1), .val (.int f9), .val (.int f10), .val (.int f11), .val (.int f12), .val (.ref b6), .val (.int (Int32.ofNat fu.length)), .val (.ref b8), .val (.int (Int32.ofNat fr.length)), .val (.ref b11), .val (.int (Int32.ofNat ex)), .val (.ref r)]) (st' := [(.int (1 : Int32)), (.ref r)]) (by decide +kernel) rfl ?_
                  refine own_iaload SC C AC (by decide +kernel) (j := (1 : Int32)) (v := (fr.getD 1 0)) (by rw [lt]; exact ⟨by decide, show ((1 : Nat) : Int) < _ by omega⟩) (show (fr.take ex).getD 1 0 = _ by rw [List.getD_eq_getElem?_getD, List.getD_eq_getElem?_getD, List.getElem?_take_of_lt (by omega)]) ?_
                  show Con p e below _ (mkF m 382 #[.val (.int x0), .val (.int x1), .val (.int x2), .val (.int x3), .val (.int t0), .val (.int t1), .val (.int t2), .val (.int t3), .val (.ref b1), .val (.int f9), .val (.int f10), .val (.int f11), .val (.int f12), .val (.ref b6), .val (.int (Int32.ofNat fu.length)), .val (.ref b8), .val (.int (Int32.ofNat fr.length)), .val (.ref b11), .val (.int (Int32.ofNat ex)), .val (.ref r)] [(.int (fr.getD 1 0))]) _
                  refine own_run SC C [.aload 15, .iconst 1] (pc' := 385) (Ls' := #[.val (.int x0), .val (.int x1), .val (.int x2), .val (.int x3), .val (.int t0), .val (.int t1), .val (.int t2), .val (.int t3), .val (.ref b1), .val (.int f9), .val (.int f10), .val (.int f11), .val (.int f12), .val (.ref b6), .val (.int (Int32.ofNat fu.length)), .val (.ref b8), .val (.int (Int32.ofNat fr.length)), .val (.ref b11), .val (.int (Int32.ofNat ex)), .val (.ref r)]) (st' := [(.int (1 : Int32)), (.ref b8), (.int (fr.getD 1 0))]) (by decide +kernel) rfl ?_
                  refine own_iaload SC C AR3 (by decide +kernel) (j := (1 : Int32)) (v := (fr.getD 1 0)) (by rw [own_pad_len (by omega)]; exact ⟨by decide, by decide⟩) (show (own_pad fr).getD 1 0 = _ from own_pad_get (by omega)) ?_
                  show Con p e below _ (mkF m 386 #[.val (.int x0), .val (.int x1), .val (.int x2), .val (.int x3), .val (.int t0), .val (.int t1), .val (.int t2), .val (.int t3), .val (.ref b1), .val (.int f9), .val (.int f10), .val (.int f11), .val (.int f12), .val (.ref b6), .val (.int (Int32.ofNat fu.length)), .val (.ref b8), .val (.int (Int32.ofNat fr.length)), .val (.ref b11), .val (.int (Int32.ofNat ex)), .val (.ref r)] [(.int (fr.getD 1 0)), (.int (fr.getD 1 0))]) _
                  refine own_icmp SC C (cd := .ne) (o := 41) (by decide +kernel) (pc' := 427) ⟨by decide, by decide⟩ (fun hc386 => absurd ((hh_ne).1.mp hc386) (show ¬ ((fr.getD 1 0).toInt ≠ (fr.getD 1 0).toInt) by omega)) (fun _ => ?_)
                  exact m389
              have m355 : Con p e below TC (mkF m 355 #[.val (.int x0), .val (.int x1), .val (.int x2), .val (.int x3), .val (.int t0), .val (.int t1), .val (.int t2), .val (.int t3), .val (.ref b1), .val (.int f9), .val (.int f10), .val (.int f11), .val (.int f12), .val (.ref b6), .val (.int (Int32.ofNat fu.length)), .val (.ref b8), .val (.int (Int32.ofNat fr.length)), .val (.ref b11), .val (.int (Int32.ofNat ex)), .val (.ref r)] []) (Pq s room_1 n0 (fun v _ => v = some (.int 1))) := by
                refine own_run SC C [.iload 18, .iconst 1] (pc' := 358) (Ls' := #[.val (.int x0), .val (.int x1), .val (.int x2), .val (.int x3), .val (.int t0), .val (.int t1), .val (.int t2), .val (.int t3), .val (.ref b1), .val (.int f9), .val (.int f10), .val (.int f11), .val (.int f12), .val (.ref b6), .val (.int (Int32.ofNat fu.length)), .val (.ref b8), .val (.int (Int32.ofNat fr.length)), .val (.ref b11), .val (.int (Int32.ofNat ex)), .val (.ref r)]) (st' := [(.int (1 : Int32)), (.int (Int32.ofNat ex))]) (by decide +kernel) rfl ?_
                refine own_icmp SC C (cd := .lt) (o := 14) (by decide +kernel) (pc' := 372) ⟨by decide, by decide⟩ (fun hc358 => ?_) (fun hc358 => ?_)
                · skip
                  have k358 : (Int32.ofNat ex).toInt < (1 : Int) := (hh_lt).1.mp hc358
                  exact m372
                · skip
                  have k358 : (Int32.ofNat ex).toInt ≥ (1 : Int) := (hh_lt).2.mp hc358
                  refine own_run SC C [.aload 19, .iconst 0] (pc' := 364) (Ls' := #[.val (.int x0), .val (.int x1), .val (.int x2), .val (.int x3), .val (.int t0), .val (.int t1), .val (.int t2), .val (.int t3), .val (.ref b1), .val (.int f9), .val (.int f10), .val (.int f11), .val (.int f12), .val (.ref b6), .val (.int (Int32.ofNat fu.length)), .val (.ref b8), .val (.int (Int32.ofNat fr.length)), .val (.ref b11), .val (.int (Int32.ofNat ex)), .val (.ref r)]) (st' := [(.int (0 : Int32)), (.ref r)]) (by decide +kernel) rfl ?_
                  refine own_iaload SC C AC (by decide +kernel) (j := (0 : Int32)) (v := (fr.getD 0 0)) (by rw [lt]; exact ⟨by decide, show ((0 : Nat) : Int) < _ by omega⟩) (show (fr.take ex).getD 0 0 = _ by rw [List.getD_eq_getElem?_getD, List.getD_eq_getElem?_getD, List.getElem?_take_of_lt (by omega)]) ?_
                  show Con p e below _ (mkF m 365 #[.val (.int x0), .val (.int x1), .val (.int x2), .val (.int x3), .val (.int t0), .val (.int t1), .val (.int t2), .val (.int t3), .val (.ref b1), .val (.int f9), .val (.int f10), .val (.int f11), .val (.int f12), .val (.ref b6), .val (.int (Int32.ofNat fu.length)), .val (.ref b8), .val (.int (Int32.ofNat fr.length)), .val (.ref b11), .val (.int (Int32.ofNat ex)), .val (.ref r)] [(.int (fr.getD 0 0))]) _
                  refine own_run SC C [.aload 15, .iconst 0] (pc' := 368) (Ls' := #[.val (.int x0), .val (.int x1), .val (.int x2), .val (.int x3), .val (.int t0), .val (.int t1), .val (.int t2), .val (.int t3), .val (.ref b1), .val (.int f9), .val (.int f10), .val (.int f11), .val (.int f12), .val (.ref b6), .val (.int (Int32.ofNat fu.length)), .val (.ref b8), .val (.int (Int32.ofNat fr.length)), .val (.ref b11), .val (.int (Int32.ofNat ex)), .val (.ref r)]) (st' := [(.int (0 : Int32)), (.ref b8), (.int (fr.getD 0 0))]) (by decide +kernel) rfl ?_
                  refine own_iaload SC C AR3 (by decide +kernel) (j := (0 : Int32)) (v := (fr.getD 0 0)) (by rw [own_pad_len (by omega)]; exact ⟨by decide, by decide⟩) (show (own_pad fr).getD 0 0 = _ from own_pad_get (by omega)) ?_
                  show Con p e below _ (mkF m 369 #[.val (.int x0), .val (.int x1), .val (.int x2), .val (.int x3), .val (.int t0), .val (.int t1), .val (.int t2), .val (.int t3), .val (.ref b1), .val (.int f9), .val (.int f10), .val (.int f11), .val (.int f12), .val (.ref b6), .val (.int (Int32.ofNat fu.length)), .val (.ref b8), .val (.int (Int32.ofNat fr.length)), .val (.ref b11), .val (.int (Int32.ofNat ex)), .val (.ref r)] [(.int (fr.getD 0 0)), (.int (fr.getD 0 0))]) _
                  refine own_icmp SC C (cd := .ne) (o := 58) (by decide +kernel) (pc' := 427) ⟨by decide, by decide⟩ (fun hc369 => absurd ((hh_ne).1.mp hc369) (show ¬ ((fr.getD 0 0).toInt ≠ (fr.getD 0 0).toInt) by omega)) (fun _ => ?_)
                  exact m372
              exact m355
            have c304 : ∀ (T' : State) (h' : Heap), St p l e room_1 s m #[(.int x0), (.int x1), (.int x2), (.int x3)] below meth c n0 T' h' 4 16 → Ai Z h' b1 [t0, t1, t2, t3] → Ai Z h' b6 (own_pad fu) → Ai Z h' b8 (own_pad fr) → Ai Z h' b11 (own_cp 3 fu) → Con p e below T' (mkF m 304 #[.val (.int x0), .val (.int x1), .val (.int x2), .val (.int x3), .val (.int t0), .val (.int t1), .val (.int t2), .val (.int t3), .val (.ref b1), .val (.int f9), .val (.int f10), .val (.int f11), .val (.int f12), .val (.ref b6), .val (.int (Int32.ofNat fu.length)), .val (.ref b8), .val (.int (Int32.ofNat fr.length)), .val (.ref b11), .unset, .unset] []) (Pq s room_1 n0 (fun v _ => v = some (.int 1))) := by
              intro T' h' SS AT AU AR AL
              refine own_run SS C [.iload 14, .iconst 3] (pc' := 307) (Ls' := #[.val (.int x0), .val (.int x1), .val (.int x2), .val (.int x3), .val (.int t0), .val (.int t1), .val (.int t2), .val (.int t3), .val (.ref b1), .val (.int f9), .val (.int f10), .val (.int f11), .val (.int f12), .val (.ref b6), .val (.int (Int32.ofNat fu.length)), .val (.ref b8), .val (.int (Int32.ofNat fr.length)), .val (.ref b11), .unset, .unset]) (st' := [(.int (3 : Int32)), (.int (Int32.ofNat fu.length))]) (by decide +kernel) rfl ?_
              refine own_icmp SS C (cd := .le) (o := 11) (by decide +kernel) (pc' := 318) ⟨by decide, by decide⟩ (fun hc307 => ?_) (fun hc307 => ?_)
              · skip
                have k307 : (Int32.ofNat fu.length).toInt ≤ (3 : Int) := (hh_le).1.mp hc307
                rw [own_cp_pass (by omega)] at AL
                exact c318 _ _ SS AT AU AR AL
              · skip
                have k307 : (Int32.ofNat fu.length).toInt > (3 : Int) := (hh_le).2.mp hc307
                refine own_run SS C [.aload 17, .iconst 3, .aload 13, .iconst 3] (pc' := 316) (Ls' := #[.val (.int x0), .val (.int x1), .val (.int x2), .val (.int x3), .val (.int t0), .val (.int t1), .val (.int t2), .val (.int t3), .val (.ref b1), .val (.int f9), .val (.int f10), .val (.int f11), .val (.int f12), .val (.ref b6), .val (.int (Int32.ofNat fu.length)), .val (.ref b8), .val (.int (Int32.ofNat fr.length)), .val (.ref b11), .unset, .unset]) (st' := [(.int (3 : Int32)), (.ref b6), (.int (3 : Int32)), (.ref b11)]) (by decide +kernel) rfl ?_
                refine own_iaload SS C AU (by decide +kernel) (j := (3 : Int32)) (v := (fu.getD 3 0)) (by rw [own_pad_len (by omega)]; exact ⟨by decide, by decide⟩) (show (own_pad fu).getD 3 0 = _ from own_pad_get (by omega)) ?_
                show Con p e below _ (mkF m 317 #[.val (.int x0), .val (.int x1), .val (.int x2), .val (.int x3), .val (.int t0), .val (.int t1), .val (.int t2), .val (.int t3), .val (.ref b1), .val (.int f9), .val (.int f10), .val (.int f11), .val (.int f12), .val (.ref b6), .val (.int (Int32.ofNat fu.length)), .val (.ref b8), .val (.int (Int32.ofNat fr.length)), .val (.ref b11), .unset, .unset] [(.int (fu.getD 3 0)), (.int (3 : Int32)), (.ref b11)]) _
                refine own_iastore SS C AL (by decide +kernel) (j := (3 : Int32)) (x := (fu.getD 3 0)) (by rw [own_cp_len]; exact ⟨by decide, show ((3 : Nat) : Int) < _ by omega⟩) g11 (vs' := own_cp 4 fu) (show (own_cp 3 fu).set 3 _ = _ from own_cp_set (by omega)) (fun TB hB SB KB AB => ?_)
                exact c318 TB hB SB (AT.keep KB (ninS n_b1_b11 nin0)) (AU.keep KB (ninS n_b6_b11 nin0)) (AR.keep KB (ninS n_b8_b11 nin0)) AB
            have c290 : ∀ (T' : State) (h' : Heap), St p l e room_1 s m #[(.int x0), (.int x1), (.int x2), (.int x3)] below meth c n0 T' h' 4 16 → Ai Z h' b1 [t0, t1, t2, t3] → Ai Z h' b6 (own_pad fu) → Ai Z h' b8 (own_pad fr) → Ai Z h' b11 (own_cp 2 fu) → Con p e below T' (mkF m 290 #[.val (.int x0), .val (.int x1), .val (.int x2), .val (.int x3), .val (.int t0), .val (.int t1), .val (.int t2), .val (.int t3), .val (.ref b1), .val (.int f9), .val (.int f10), .val (.int f11), .val (.int f12), .val (.ref b6), .val (.int (Int32.ofNat fu.length)), .val (.ref b8), .val (.int (Int32.ofNat fr.length)), .val (.ref b11), .unset, .unset] []) (Pq s room_1 n0 (fun v _ => v = some (.int 1))) := by
              intro T' h' SS AT AU AR AL
              refine own_run SS C [.iload 14, .iconst 2] (pc' := 293) (Ls' := #[.val (.int x0), .val (.int x1), .val (.int x2), .val (.int x3), .val (.int t0), .val (.int t1), .val (.int t2), .val (.int t3), .val (.ref b1), .val (.int f9), .val (.int f10), .val (.int f11), .val (.int f12), .val (.ref b6), .val (.int (Int32.ofNat fu.length)), .val (.ref b8), .val (.int (Int32.ofNat fr.length)), .val (.ref b11), .unset, .unset]) (st' := [(.int (2 : Int32)), (.int (Int32.ofNat fu.length))]) (by decide +kernel) rfl ?_
              refine own_icmp SS C (cd := .le) (o := 11) (by decide +kernel) (pc' := 304) ⟨by decide, by decide⟩ (fun hc293 => ?_) (fun hc293 => ?_)
              · skip
                have k293 : (Int32.ofNat fu.length).toInt ≤ (2 : Int) := (hh_le).1.mp hc293
                rw [own_cp_pass (by omega)] at AL
                exact c304 _ _ SS AT AU AR AL
              · skip
                have k293 : (Int32.ofNat fu.length).toInt > (2 : Int) := (hh_le).2.mp hc293
                refine own_run SS C [.aload 17, .iconst 2, .aload 13, .iconst 2] (pc' := 302) (Ls' := #[.val (.int x0), .val (.int x1), .val (.int x2), .val (.int x3), .val (.int t0), .val (.int t1), .val (.int t2), .val (.int t3), .val (.ref b1), .val (.int f9), .val (.int f10), .val (.int f11), .val (.int f12), .val (.ref b6), .val (.int (Int32.ofNat fu.length)), .val (.ref b8), .val (.int (Int32.ofNat fr.length)), .val (.ref b11), .unset, .unset]) (st' := [(.int (2 : Int32)), (.ref b6), (.int (2 : Int32)), (.ref b11)]) (by decide +kernel) rfl ?_
                refine own_iaload SS C AU (by decide +kernel) (j := (2 : Int32)) (v := (fu.getD 2 0)) (by rw [own_pad_len (by omega)]; exact ⟨by decide, by decide⟩) (show (own_pad fu).getD 2 0 = _ from own_pad_get (by omega)) ?_
                show Con p e below _ (mkF m 303 #[.val (.int x0), .val (.int x1), .val (.int x2), .val (.int x3), .val (.int t0), .val (.int t1), .val (.int t2), .val (.int t3), .val (.ref b1), .val (.int f9), .val (.int f10), .val (.int f11), .val (.int f12), .val (.ref b6), .val (.int (Int32.ofNat fu.length)), .val (.ref b8), .val (.int (Int32.ofNat fr.length)), .val (.ref b11), .unset, .unset] [(.int (fu.getD 2 0)), (.int (2 : Int32)), (.ref b11)]) _
                refine own_iastore SS C AL (by decide +kernel) (j := (2 : Int32)) (x := (fu.getD 2 0)) (by rw [own_cp_len]; exact ⟨by decide, show ((2 : Nat) : Int) < _ by omega⟩) g11 (vs' := own_cp 3 fu) (show (own_cp 2 fu).set 2 _ = _ from own_cp_set (by omega)) (fun TB hB SB KB AB => ?_)
                exact c304 TB hB SB (AT.keep KB (ninS n_b1_b11 nin0)) (AU.keep KB (ninS n_b6_b11 nin0)) (AR.keep KB (ninS n_b8_b11 nin0)) AB
            have c276 : ∀ (T' : State) (h' : Heap), St p l e room_1 s m #[(.int x0), (.int x1), (.int x2), (.int x3)] below meth c n0 T' h' 4 16 → Ai Z h' b1 [t0, t1, t2, t3] → Ai Z h' b6 (own_pad fu) → Ai Z h' b8 (own_pad fr) → Ai Z h' b11 (own_cp 1 fu) → Con p e below T' (mkF m 276 #[.val (.int x0), .val (.int x1), .val (.int x2), .val (.int x3), .val (.int t0), .val (.int t1), .val (.int t2), .val (.int t3), .val (.ref b1), .val (.int f9), .val (.int f10), .val (.int f11), .val (.int f12), .val (.ref b6), .val (.int (Int32.ofNat fu.length)), .val (.ref b8), .val (.int (Int32.ofNat fr.length)), .val (.ref b11), .unset, .unset] []) (Pq s room_1 n0 (fun v _ => v = some (.int 1))) := by
              intro T' h' SS AT AU AR AL
              refine own_run SS C [.iload 14, .iconst 1] (pc' := 279) (Ls' := #[.val (.int x0), .val (.int x1), .val (.int x2), .val (.int x3), .val (.int t0), .val (.int t1), .val (.int t2), .val (.int t3), .val (.ref b1), .val (.int f9), .val (.int f10), .val (.int f11), .val (.int f12), .val (.ref b6), .val (.int (Int32.ofNat fu.length)), .val (.ref b8), .val (.int (Int32.ofNat fr.length)), .val (.ref b11), .unset, .unset]) (st' := [(.int (1 : Int32)), (.int (Int32.ofNat fu.length))]) (by decide +kernel) rfl ?_
              refine own_icmp SS C (cd := .le) (o := 11) (by decide +kernel) (pc' := 290) ⟨by decide, by decide⟩ (fun hc279 => ?_) (fun hc279 => ?_)
              · skip
                have k279 : (Int32.ofNat fu.length).toInt ≤ (1 : Int) := (hh_le).1.mp hc279
                rw [own_cp_pass (by omega)] at AL
                exact c290 _ _ SS AT AU AR AL
              · skip
                have k279 : (Int32.ofNat fu.length).toInt > (1 : Int) := (hh_le).2.mp hc279
                refine own_run SS C [.aload 17, .iconst 1, .aload 13, .iconst 1] (pc' := 288) (Ls' := #[.val (.int x0), .val (.int x1), .val (.int x2), .val (.int x3), .val (.int t0), .val (.int t1), .val (.int t2), .val (.int t3), .val (.ref b1), .val (.int f9), .val (.int f10), .val (.int f11), .val (.int f12), .val (.ref b6), .val (.int (Int32.ofNat fu.length)), .val (.ref b8), .val (.int (Int32.ofNat fr.length)), .val (.ref b11), .unset, .unset]) (st' := [(.int (1 : Int32)), (.ref b6), (.int (1 : Int32)), (.ref b11)]) (by decide +kernel) rfl ?_
                refine own_iaload SS C AU (by decide +kernel) (j := (1 : Int32)) (v := (fu.getD 1 0)) (by rw [own_pad_len (by omega)]; exact ⟨by decide, by decide⟩) (show (own_pad fu).getD 1 0 = _ from own_pad_get (by omega)) ?_
                show Con p e below _ (mkF m 289 #[.val (.int x0), .val (.int x1), .val (.int x2), .val (.int x3), .val (.int t0), .val (.int t1), .val (.int t2), .val (.int t3), .val (.ref b1), .val (.int f9), .val (.int f10), .val (.int f11), .val (.int f12), .val (.ref b6), .val (.int (Int32.ofNat fu.length)), .val (.ref b8), .val (.int (Int32.ofNat fr.length)), .val (.ref b11), .unset, .unset] [(.int (fu.getD 1 0)), (.int (1 : Int32)), (.ref b11)]) _
                refine own_iastore SS C AL (by decide +kernel) (j := (1 : Int32)) (x := (fu.getD 1 0)) (by rw [own_cp_len]; exact ⟨by decide, show ((1 : Nat) : Int) < _ by omega⟩) g11 (vs' := own_cp 2 fu) (show (own_cp 1 fu).set 1 _ = _ from own_cp_set (by omega)) (fun TB hB SB KB AB => ?_)
                exact c290 TB hB SB (AT.keep KB (ninS n_b1_b11 nin0)) (AU.keep KB (ninS n_b6_b11 nin0)) (AR.keep KB (ninS n_b8_b11 nin0)) AB
            have c263 : ∀ (T' : State) (h' : Heap), St p l e room_1 s m #[(.int x0), (.int x1), (.int x2), (.int x3)] below meth c n0 T' h' 4 16 → Ai Z h' b1 [t0, t1, t2, t3] → Ai Z h' b6 (own_pad fu) → Ai Z h' b8 (own_pad fr) → Ai Z h' b11 (own_cp 0 fu) → Con p e below T' (mkF m 263 #[.val (.int x0), .val (.int x1), .val (.int x2), .val (.int x3), .val (.int t0), .val (.int t1), .val (.int t2), .val (.int t3), .val (.ref b1), .val (.int f9), .val (.int f10), .val (.int f11), .val (.int f12), .val (.ref b6), .val (.int (Int32.ofNat fu.length)), .val (.ref b8), .val (.int (Int32.ofNat fr.length)), .val (.ref b11), .unset, .unset] []) (Pq s room_1 n0 (fun v _ => v = some (.int 1))) := by
              intro T' h' SS AT AU AR AL
              refine own_run SS C [.iload 14] (pc' := 265) (Ls' := #[.val (.int x0), .val (.int x1), .val (.int x2), .val (.int x3), .val (.int t0), .val (.int t1), .val (.int t2), .val (.int t3), .val (.ref b1), .val (.int f9), .val (.int f10), .val (.int f11), .val (.int f12), .val (.ref b6), .val (.int (Int32.ofNat fu.length)), .val (.ref b8), .val (.int (Int32.ofNat fr.length)), .val (.ref b11), .unset, .unset]) (st' := [(.int (Int32.ofNat fu.length))]) (by decide +kernel) rfl ?_
              refine own_if SS C (cd := .le) (o := 11) (by decide +kernel) (pc' := 276) ⟨by decide, by decide⟩ (fun hc265 => ?_) (fun hc265 => ?_)
              · skip
                have k265 : (Int32.ofNat fu.length).toInt ≤ (0 : Int) := (hh_le).1.mp hc265
                rw [own_cp_pass (by omega)] at AL
                exact c276 _ _ SS AT AU AR AL
              · skip
                have k265 : (Int32.ofNat fu.length).toInt > (0 : Int) := (hh_le).2.mp hc265
                refine own_run SS C [.aload 17, .iconst 0, .aload 13, .iconst 0] (pc' := 274) (Ls' := #[.val (.int x0), .val (.int x1), .val (.int x2), .val (.int x3), .val (.int t0), .val (.int t1), .val (.int t2), .val (.int t3), .val (.ref b1), .val (.int f9), .val (.int f10), .val (.int f11), .val (.int f12), .val (.ref b6), .val (.int (Int32.ofNat fu.length)), .val (.ref b8), .val (.int (Int32.ofNat fr.length)), .val (.ref b11), .unset, .unset]) (st' := [(.int (0 : Int32)), (.ref b6), (.int (0 : Int32)), (.ref b11)]) (by decide +kernel) rfl ?_
                refine own_iaload SS C AU (by decide +kernel) (j := (0 : Int32)) (v := (fu.getD 0 0)) (by rw [own_pad_len (by omega)]; exact ⟨by decide, by decide⟩) (show (own_pad fu).getD 0 0 = _ from own_pad_get (by omega)) ?_
                show Con p e below _ (mkF m 275 #[.val (.int x0), .val (.int x1), .val (.int x2), .val (.int x3), .val (.int t0), .val (.int t1), .val (.int t2), .val (.int t3), .val (.ref b1), .val (.int f9), .val (.int f10), .val (.int f11), .val (.int f12), .val (.ref b6), .val (.int (Int32.ofNat fu.length)), .val (.ref b8), .val (.int (Int32.ofNat fr.length)), .val (.ref b11), .unset, .unset] [(.int (fu.getD 0 0)), (.int (0 : Int32)), (.ref b11)]) _
                refine own_iastore SS C AL (by decide +kernel) (j := (0 : Int32)) (x := (fu.getD 0 0)) (by rw [own_cp_len]; exact ⟨by decide, show ((0 : Nat) : Int) < _ by omega⟩) g11 (vs' := own_cp 1 fu) (show (own_cp 0 fu).set 0 _ = _ from own_cp_set (by omega)) (fun TB hB SB KB AB => ?_)
                exact c276 TB hB SB (AT.keep KB (ninS n_b1_b11 nin0)) (AU.keep KB (ninS n_b6_b11 nin0)) (AR.keep KB (ninS n_b8_b11 nin0)) AB
            exact c263 _ _ S11 A12 A13 A14 A11
          have j229 : ∀ (T' : State) (h' : Heap) (fu fr : List Int32), own_P [t2, t1, t0] fu fr → St p l e room_1 s m #[(.int x0), (.int x1), (.int x2), (.int x3)] below meth c n0 T' h' 3 12 → Ai Z h' b1 [t0, t1, t2, t3] → Ai Z h' b6 (own_pad fu) → Ai Z h' b8 (own_pad fr) → Con p e below T' (mkF m 229 #[.val (.int x0), .val (.int x1), .val (.int x2), .val (.int x3), .val (.int t0), .val (.int t1), .val (.int t2), .val (.int t3), .val (.ref b1), .val (.int f9), .val (.int f10), .val (.int f11), .val (.int f12), .val (.ref b6), .val (.int (Int32.ofNat fu.length)), .val (.ref b8), .val (.int (Int32.ofNat fr.length)), .unset, .unset, .unset] []) (Pq s room_1 n0 (fun v _ => v = some (.int 1))) := by
            intro T' h' fu fr hP SS AT AU AR
            have hlen := own_P_len _ _ _ hP
            simp only [List.length_cons, List.length_nil, Nat.zero_add] at hlen
            have qn := own_n2 (n := fu.length) (by omega)
            have qk := own_n2 (n := fr.length) (by omega)
            have qn3 := own_n3 (n := fu.length) (by omega)
            have qk3 := own_n3 (n := fr.length) (by omega)
            refine own_run SS C [.iload 12] (pc' := 231) (Ls' := #[.val (.int x0), .val (.int x1), .val (.int x2), .val (.int x3), .val (.int t0), .val (.int t1), .val (.int t2), .val (.int t3), .val (.ref b1), .val (.int f9), .val (.int f10), .val (.int f11), .val (.int f12), .val (.ref b6), .val (.int (Int32.ofNat fu.length)), .val (.ref b8), .val (.int (Int32.ofNat fr.length)), .unset, .unset, .unset]) (st' := [(.int f12)]) (by decide +kernel) rfl ?_
            refine own_if SS C (cd := .eq) (o := 16) (by decide +kernel) (pc' := 247) ⟨by decide, by decide⟩ (fun hc231 => ?_) (fun hc231 => ?_)
            · skip
              have k231 : f12.toInt = (0 : Int) := (hh_eq).1.mp hc231
              refine own_run SS C [.aload 15, .iload 16, .iload 7] (pc' := 253) (Ls' := #[.val (.int x0), .val (.int x1), .val (.int x2), .val (.int x3), .val (.int t0), .val (.int t1), .val (.int t2), .val (.int t3), .val (.ref b1), .val (.int f9), .val (.int f10), .val (.int f11), .val (.int f12), .val (.ref b6), .val (.int (Int32.ofNat fu.length)), .val (.ref b8), .val (.int (Int32.ofNat fr.length)), .unset, .unset, .unset]) (st' := [(.int t3), (.int (Int32.ofNat fr.length)), (.ref b8)]) (by decide +kernel) rfl ?_
              refine own_iastore SS C AR (by decide +kernel) (j := (Int32.ofNat fr.length)) (x := t3) (by rw [qk, own_pad_len (by omega)]; omega) g8 (vs' := own_pad (fr ++ [t3])) (by rw [qk3]; exact own_pad_set _ (by omega)) (fun TB hB SB KB AB => ?_)
              refine own_run SB C [.iinc 16 1] (pc' := 257) (Ls' := #[.val (.int x0), .val (.int x1), .val (.int x2), .val (.int x3), .val (.int t0), .val (.int t1), .val (.int t2), .val (.int t3), .val (.ref b1), .val (.int f9), .val (.int f10), .val (.int f11), .val (.int f12), .val (.ref b6), .val (.int (Int32.ofNat fu.length)), .val (.ref b8), .val (.int ((Int32.ofNat fr.length) + (1 : Int32))), .unset, .unset, .unset]) (st' := []) (by decide +kernel) rfl ?_
              rw [own_succ]
              rw [show fr.length + 1 = (fr ++ [t3]).length by simp]
              have AT2 := AT.keep KB (ninS n_b1_b8 nin0)
              have AU2 := AU.keep KB (ninS n_b6_b8 nin0)
              exact j257 TB hB fu (fr ++ [t3]) ⟨fu, fr, hP, Or.inr ⟨rfl, rfl⟩⟩ SB AT2 AU2 AB
            · skip
              have k231 : f12.toInt ≠ (0 : Int) := (hh_eq).2.mp hc231
              refine own_run SS C [.aload 13, .iload 14, .iload 7] (pc' := 240) (Ls' := #[.val (.int x0), .val (.int x1), .val (.int x2), .val (.int x3), .val (.int t0), .val (.int t1), .val (.int t2), .val (.int t3), .val (.ref b1), .val (.int f9), .val (.int f10), .val (.int f11), .val (.int f12), .val (.ref b6), .val (.int (Int32.ofNat fu.length)), .val (.ref b8), .val (.int (Int32.ofNat fr.length)), .unset, .unset, .unset]) (st' := [(.int t3), (.int (Int32.ofNat fu.length)), (.ref b6)]) (by decide +kernel) rfl ?_
              refine own_iastore SS C AU (by decide +kernel) (j := (Int32.ofNat fu.length)) (x := t3) (by rw [qn, own_pad_len (by omega)]; omega) g6 (vs' := own_pad (fu ++ [t3])) (by rw [qn3]; exact own_pad_set _ (by omega)) (fun TB hB SB KB AB => ?_)
              refine own_run SB C [.iinc 14 1, .goto 13] (pc' := 257) (Ls' := #[.val (.int x0), .val (.int x1), .val (.int x2), .val (.int x3), .val (.int t0), .val (.int t1), .val (.int t2), .val (.int t3), .val (.ref b1), .val (.int f9), .val (.int f10), .val (.int f11), .val (.int f12), .val (.ref b6), .val (.int ((Int32.ofNat fu.length) + (1 : Int32))), .val (.ref b8), .val (.int (Int32.ofNat fr.length)), .unset, .unset, .unset]) (st' := []) (by decide +kernel) rfl ?_
              rw [own_succ]
              rw [show fu.length + 1 = (fu ++ [t3]).length by simp]
              have AT2 := AT.keep KB (ninS n_b1_b6 nin0)
              have AR2 := AR.keep KB (ninS n_b6_b8.symm nin0)
              exact j257 TB hB (fu ++ [t3]) fr ⟨fu, fr, hP, Or.inl ⟨rfl, rfl⟩⟩ SB AT2 AB AR2
          have j201 : ∀ (T' : State) (h' : Heap) (fu fr : List Int32), own_P [t1, t0] fu fr → St p l e room_1 s m #[(.int x0), (.int x1), (.int x2), (.int x3)] below meth c n0 T' h' 3 12 → Ai Z h' b1 [t0, t1, t2, t3] → Ai Z h' b6 (own_pad fu) → Ai Z h' b8 (own_pad fr) → Con p e below T' (mkF m 201 #[.val (.int x0), .val (.int x1), .val (.int x2), .val (.int x3), .val (.int t0), .val (.int t1), .val (.int t2), .val (.int t3), .val (.ref b1), .val (.int f9), .val (.int f10), .val (.int f11), .val (.int f12), .val (.ref b6), .val (.int (Int32.ofNat fu.length)), .val (.ref b8), .val (.int (Int32.ofNat fr.length)), .unset, .unset, .unset] []) (Pq s room_1 n0 (fun v _ => v = some (.int 1))) := by
            intro T' h' fu fr hP SS AT AU AR
            have hlen := own_P_len _ _ _ hP
            simp only [List.length_cons, List.length_nil, Nat.zero_add] at hlen
            have qn := own_n2 (n := fu.length) (by omega)
            have qk := own_n2 (n := fr.length) (by omega)
            have qn3 := own_n3 (n := fu.length) (by omega)
            have qk3 := own_n3 (n := fr.length) (by omega)
            refine own_run SS C [.iload 11] (pc' := 203) (Ls' := #[.val (.int x0), .val (.int x1), .val (.int x2), .val (.int x3), .val (.int t0), .val (.int t1), .val (.int t2), .val (.int t3), .val (.ref b1), .val (.int f9), .val (.int f10), .val (.int f11), .val (.int f12), .val (.ref b6), .val (.int (Int32.ofNat fu.length)), .val (.ref b8), .val (.int (Int32.ofNat fr.length)), .unset, .unset, .unset]) (st' := [(.int f11)]) (by decide +kernel) rfl ?_
            refine own_if SS C (cd := .eq) (o := 16) (by decide +kernel) (pc' := 219) ⟨by decide, by decide⟩ (fun hc203 => ?_) (fun hc203 => ?_)
            · skip
              have k203 : f11.toInt = (0 : Int) := (hh_eq).1.mp hc203
              refine own_run SS C [.aload 15, .iload 16, .iload 6] (pc' := 225) (Ls' := #[.val (.int x0), .val (.int x1), .val (.int x2), .val (.int x3), .val (.int t0), .val (.int t1), .val (.int t2), .val (.int t3), .val (.ref b1), .val (.int f9), .val (.int f10), .val (.int f11), .val (.int f12), .val (.ref b6), .val (.int (Int32.ofNat fu.length)), .val (.ref b8), .val (.int (Int32.ofNat fr.length)), .unset, .unset, .unset]) (st' := [(.int t2), (.int (Int32.ofNat fr.length)), (.ref b8)]) (by decide +kernel) rfl ?_
              refine own_iastore SS C AR (by decide +kernel) (j := (Int32.ofNat fr.length)) (x := t2) (by rw [qk, own_pad_len (by omega)]; omega) g8 (vs' := own_pad (fr ++ [t2])) (by rw [qk3]; exact own_pad_set _ (by omega)) (fun TB hB SB KB AB => ?_)
              refine own_run SB C [.iinc 16 1] (pc' := 229) (Ls' := #[.val (.int x0), .val (.int x1), .val (.int x2), .val (.int x3), .val (.int t0), .val (.int t1), .val (.int t2), .val (.int t3), .val (.ref b1), .val (.int f9), .val (.int f10), .val (.int f11), .val (.int f12), .val (.ref b6), .val (.int (Int32.ofNat fu.length)), .val (.ref b8), .val (.int ((Int32.ofNat fr.length) + (1 : Int32))), .unset, .unset, .unset]) (st' := []) (by decide +kernel) rfl ?_
              rw [own_succ]
              rw [show fr.length + 1 = (fr ++ [t2]).length by simp]
              have AT2 := AT.keep KB (ninS n_b1_b8 nin0)
              have AU2 := AU.keep KB (ninS n_b6_b8 nin0)
              exact j229 TB hB fu (fr ++ [t2]) ⟨fu, fr, hP, Or.inr ⟨rfl, rfl⟩⟩ SB AT2 AU2 AB
            · skip
              have k203 : f11.toInt ≠ (0 : Int) := (hh_eq).2.mp hc203
              refine own_run SS C [.aload 13, .iload 14, .iload 6] (pc' := 212) (Ls' := #[.val (.int x0), .val (.int x1), .val (.int x2), .val (.int x3), .val (.int t0), .val (.int t1), .val (.int t2), .val (.int t3), .val (.ref b1), .val (.int f9), .val (.int f10), .val (.int f11), .val (.int f12), .val (.ref b6), .val (.int (Int32.ofNat fu.length)), .val (.ref b8), .val (.int (Int32.ofNat fr.length)), .unset, .unset, .unset]) (st' := [(.int t2), (.int (Int32.ofNat fu.length)), (.ref b6)]) (by decide +kernel) rfl ?_
              refine own_iastore SS C AU (by decide +kernel) (j := (Int32.ofNat fu.length)) (x := t2) (by rw [qn, own_pad_len (by omega)]; omega) g6 (vs' := own_pad (fu ++ [t2])) (by rw [qn3]; exact own_pad_set _ (by omega)) (fun TB hB SB KB AB => ?_)
              refine own_run SB C [.iinc 14 1, .goto 13] (pc' := 229) (Ls' := #[.val (.int x0), .val (.int x1), .val (.int x2), .val (.int x3), .val (.int t0), .val (.int t1), .val (.int t2), .val (.int t3), .val (.ref b1), .val (.int f9), .val (.int f10), .val (.int f11), .val (.int f12), .val (.ref b6), .val (.int ((Int32.ofNat fu.length) + (1 : Int32))), .val (.ref b8), .val (.int (Int32.ofNat fr.length)), .unset, .unset, .unset]) (st' := []) (by decide +kernel) rfl ?_
              rw [own_succ]
              rw [show fu.length + 1 = (fu ++ [t2]).length by simp]
              have AT2 := AT.keep KB (ninS n_b1_b6 nin0)
              have AR2 := AR.keep KB (ninS n_b6_b8.symm nin0)
              exact j229 TB hB (fu ++ [t2]) fr ⟨fu, fr, hP, Or.inl ⟨rfl, rfl⟩⟩ SB AT2 AB AR2
          have j173 : ∀ (T' : State) (h' : Heap) (fu fr : List Int32), own_P [t0] fu fr → St p l e room_1 s m #[(.int x0), (.int x1), (.int x2), (.int x3)] below meth c n0 T' h' 3 12 → Ai Z h' b1 [t0, t1, t2, t3] → Ai Z h' b6 (own_pad fu) → Ai Z h' b8 (own_pad fr) → Con p e below T' (mkF m 173 #[.val (.int x0), .val (.int x1), .val (.int x2), .val (.int x3), .val (.int t0), .val (.int t1), .val (.int t2), .val (.int t3), .val (.ref b1), .val (.int f9), .val (.int f10), .val (.int f11), .val (.int f12), .val (.ref b6), .val (.int (Int32.ofNat fu.length)), .val (.ref b8), .val (.int (Int32.ofNat fr.length)), .unset, .unset, .unset] []) (Pq s room_1 n0 (fun v _ => v = some (.int 1))) := by
            intro T' h' fu fr hP SS AT AU AR
            have hlen := own_P_len _ _ _ hP
            simp only [List.length_cons, List.length_nil, Nat.zero_add] at hlen
            have qn := own_n2 (n := fu.length) (by omega)
            have qk := own_n2 (n := fr.length) (by omega)
            have qn3 := own_n3 (n := fu.length) (by omega)
            have qk3 := own_n3 (n := fr.length) (by omega)
            refine own_run SS C [.iload 10] (pc' := 175) (Ls' := #[.val (.int x0), .val (.int x1), .val (.int x2), .val (.int x3), .val (.int t0), .val (.int t1), .val (.int t2), .val (.int t3), .val (.ref b1), .val (.int f9), .val (.int f10), .val (.int f11), .val (.int f12), .val (.ref b6), .val (.int (Int32.ofNat fu.length)), .val (.ref b8), .val (.int (Int32.ofNat fr.length)), .unset, .unset, .unset]) (st' := [(.int f10)]) (by decide +kernel) rfl ?_
            refine own_if SS C (cd := .eq) (o := 16) (by decide +kernel) (pc' := 191) ⟨by decide, by decide⟩ (fun hc175 => ?_) (fun hc175 => ?_)
            · skip
              have k175 : f10.toInt = (0 : Int) := (hh_eq).1.mp hc175
              refine own_run SS C [.aload 15, .iload 16, .iload 5] (pc' := 197) (Ls' := #[.val (.int x0), .val (.int x1), .val (.int x2), .val (.int x3), .val (.int t0), .val (.int t1), .val (.int t2), .val (.int t3), .val (.ref b1), .val (.int f9), .val (.int f10), .val (.int f11), .val (.int f12), .val (.ref b6), .val (.int (Int32.ofNat fu.length)), .val (.ref b8), .val (.int (Int32.ofNat fr.length)), .unset, .unset, .unset]) (st' := [(.int t1), (.int (Int32.ofNat fr.length)), (.ref b8)]) (by decide +kernel) rfl ?_
              refine own_iastore SS C AR (by decide +kernel) (j := (Int32.ofNat fr.length)) (x := t1) (by rw [qk, own_pad_len (by omega)]; omega) g8 (vs' := own_pad (fr ++ [t1])) (by rw [qk3]; exact own_pad_set _ (by omega)) (fun TB hB SB KB AB => ?_)
              refine own_run SB C [.iinc 16 1] (pc' := 201) (Ls' := #[.val (.int x0), .val (.int x1), .val (.int x2), .val (.int x3), .val (.int t0), .val (.int t1), .val (.int t2), .val (.int t3), .val (.ref b1), .val (.int f9), .val (.int f10), .val (.int f11), .val (.int f12), .val (.ref b6), .val (.int (Int32.ofNat fu.length)), .val (.ref b8), .val (.int ((Int32.ofNat fr.length) + (1 : Int32))), .unset, .unset, .unset]) (st' := []) (by decide +kernel) rfl ?_
              rw [own_succ]
              rw [show fr.length + 1 = (fr ++ [t1]).length by simp]
              have AT2 := AT.keep KB (ninS n_b1_b8 nin0)
              have AU2 := AU.keep KB (ninS n_b6_b8 nin0)
              exact j201 TB hB fu (fr ++ [t1]) ⟨fu, fr, hP, Or.inr ⟨rfl, rfl⟩⟩ SB AT2 AU2 AB
            · skip
              have k175 : f10.toInt ≠ (0 : Int) := (hh_eq).2.mp hc175
              refine own_run SS C [.aload 13, .iload 14, .iload 5] (pc' := 184) (Ls' := #[.val (.int x0), .val (.int x1), .val (.int x2), .val (.int x3), .val (.int t0), .val (.int t1), .val (.int t2), .val (.int t3), .val (.ref b1), .val (.int f9), .val (.int f10), .val (.int f11), .val (.int f12), .val (.ref b6), .val (.int (Int32.ofNat fu.length)), .val (.ref b8), .val (.int (Int32.ofNat fr.length)), .unset, .unset, .unset]) (st' := [(.int t1), (.int (Int32.ofNat fu.length)), (.ref b6)]) (by decide +kernel) rfl ?_
              refine own_iastore SS C AU (by decide +kernel) (j := (Int32.ofNat fu.length)) (x := t1) (by rw [qn, own_pad_len (by omega)]; omega) g6 (vs' := own_pad (fu ++ [t1])) (by rw [qn3]; exact own_pad_set _ (by omega)) (fun TB hB SB KB AB => ?_)
              refine own_run SB C [.iinc 14 1, .goto 13] (pc' := 201) (Ls' := #[.val (.int x0), .val (.int x1), .val (.int x2), .val (.int x3), .val (.int t0), .val (.int t1), .val (.int t2), .val (.int t3), .val (.ref b1), .val (.int f9), .val (.int f10), .val (.int f11), .val (.int f12), .val (.ref b6), .val (.int ((Int32.ofNat fu.length) + (1 : Int32))), .val (.ref b8), .val (.int (Int32.ofNat fr.length)), .unset, .unset, .unset]) (st' := []) (by decide +kernel) rfl ?_
              rw [own_succ]
              rw [show fu.length + 1 = (fu ++ [t1]).length by simp]
              have AT2 := AT.keep KB (ninS n_b1_b6 nin0)
              have AR2 := AR.keep KB (ninS n_b6_b8.symm nin0)
              exact j201 TB hB (fu ++ [t1]) fr ⟨fu, fr, hP, Or.inl ⟨rfl, rfl⟩⟩ SB AT2 AB AR2
          have j145 : ∀ (T' : State) (h' : Heap) (fu fr : List Int32), own_P [] fu fr → St p l e room_1 s m #[(.int x0), (.int x1), (.int x2), (.int x3)] below meth c n0 T' h' 3 12 → Ai Z h' b1 [t0, t1, t2, t3] → Ai Z h' b6 (own_pad fu) → Ai Z h' b8 (own_pad fr) → Con p e below T' (mkF m 145 #[.val (.int x0), .val (.int x1), .val (.int x2), .val (.int x3), .val (.int t0), .val (.int t1), .val (.int t2), .val (.int t3), .val (.ref b1), .val (.int f9), .val (.int f10), .val (.int f11), .val (.int f12), .val (.ref b6), .val (.int (Int32.ofNat fu.length)), .val (.ref b8), .val (.int (Int32.ofNat fr.length)), .unset, .unset, .unset] []) (Pq s room_1 n0 (fun v _ => v = some (.int 1))) := by
            intro T' h' fu fr hP SS AT AU AR
            have hlen := own_P_len _ _ _ hP
            simp only [List.length_cons, List.length_nil, Nat.zero_add] at hlen
            have qn := own_n2 (n := fu.length) (by omega)
            have qk := own_n2 (n := fr.length) (by omega)
            have qn3 := own_n3 (n := fu.length) (by omega)
            have qk3 := own_n3 (n := fr.length) (by omega)
            refine own_run SS C [.iload 9] (pc' := 147) (Ls' := #[.val (.int x0), .val (.int x1), .val (.int x2), .val (.int x3), .val (.int t0), .val (.int t1), .val (.int t2), .val (.int t3), .val (.ref b1), .val (.int f9), .val (.int f10), .val (.int f11), .val (.int f12), .val (.ref b6), .val (.int (Int32.ofNat fu.length)), .val (.ref b8), .val (.int (Int32.ofNat fr.length)), .unset, .unset, .unset]) (st' := [(.int f9)]) (by decide +kernel) rfl ?_
            refine own_if SS C (cd := .eq) (o := 16) (by decide +kernel) (pc' := 163) ⟨by decide, by decide⟩ (fun hc147 => ?_) (fun hc147 => ?_)
            · skip
              have k147 : f9.toInt = (0 : Int) := (hh_eq).1.mp hc147
              refine own_run SS C [.aload 15, .iload 16, .iload 4] (pc' := 169) (Ls' := #[.val (.int x0), .val (.int x1), .val (.int x2), .val (.int x3), .val (.int t0), .val (.int t1), .val (.int t2), .val (.int t3), .val (.ref b1), .val (.int f9), .val (.int f10), .val (.int f11), .val (.int f12), .val (.ref b6), .val (.int (Int32.ofNat fu.length)), .val (.ref b8), .val (.int (Int32.ofNat fr.length)), .unset, .unset, .unset]) (st' := [(.int t0), (.int (Int32.ofNat fr.length)), (.ref b8)]) (by decide +kernel) rfl ?_
              refine own_iastore SS C AR (by decide +kernel) (j := (Int32.ofNat fr.length)) (x := t0) (by rw [qk, own_pad_len (by omega)]; omega) g8 (vs' := own_pad (fr ++ [t0])) (by rw [qk3]; exact own_pad_set _ (by omega)) (fun TB hB SB KB AB => ?_)
              refine own_run SB C [.iinc 16 1] (pc' := 173) (Ls' := #[.val (.int x0), .val (.int x1), .val (.int x2), .val (.int x3), .val (.int t0), .val (.int t1), .val (.int t2), .val (.int t3), .val (.ref b1), .val (.int f9), .val (.int f10), .val (.int f11), .val (.int f12), .val (.ref b6), .val (.int (Int32.ofNat fu.length)), .val (.ref b8), .val (.int ((Int32.ofNat fr.length) + (1 : Int32))), .unset, .unset, .unset]) (st' := []) (by decide +kernel) rfl ?_
              rw [own_succ]
              rw [show fr.length + 1 = (fr ++ [t0]).length by simp]
              have AT2 := AT.keep KB (ninS n_b1_b8 nin0)
              have AU2 := AU.keep KB (ninS n_b6_b8 nin0)
              exact j173 TB hB fu (fr ++ [t0]) ⟨fu, fr, hP, Or.inr ⟨rfl, rfl⟩⟩ SB AT2 AU2 AB
            · skip
              have k147 : f9.toInt ≠ (0 : Int) := (hh_eq).2.mp hc147
              refine own_run SS C [.aload 13, .iload 14, .iload 4] (pc' := 156) (Ls' := #[.val (.int x0), .val (.int x1), .val (.int x2), .val (.int x3), .val (.int t0), .val (.int t1), .val (.int t2), .val (.int t3), .val (.ref b1), .val (.int f9), .val (.int f10), .val (.int f11), .val (.int f12), .val (.ref b6), .val (.int (Int32.ofNat fu.length)), .val (.ref b8), .val (.int (Int32.ofNat fr.length)), .unset, .unset, .unset]) (st' := [(.int t0), (.int (Int32.ofNat fu.length)), (.ref b6)]) (by decide +kernel) rfl ?_
              refine own_iastore SS C AU (by decide +kernel) (j := (Int32.ofNat fu.length)) (x := t0) (by rw [qn, own_pad_len (by omega)]; omega) g6 (vs' := own_pad (fu ++ [t0])) (by rw [qn3]; exact own_pad_set _ (by omega)) (fun TB hB SB KB AB => ?_)
              refine own_run SB C [.iinc 14 1, .goto 13] (pc' := 173) (Ls' := #[.val (.int x0), .val (.int x1), .val (.int x2), .val (.int x3), .val (.int t0), .val (.int t1), .val (.int t2), .val (.int t3), .val (.ref b1), .val (.int f9), .val (.int f10), .val (.int f11), .val (.int f12), .val (.ref b6), .val (.int ((Int32.ofNat fu.length) + (1 : Int32))), .val (.ref b8), .val (.int (Int32.ofNat fr.length)), .unset, .unset, .unset]) (st' := []) (by decide +kernel) rfl ?_
              rw [own_succ]
              rw [show fu.length + 1 = (fu ++ [t0]).length by simp]
              have AT2 := AT.keep KB (ninS n_b1_b6 nin0)
              have AR2 := AR.keep KB (ninS n_b6_b8.symm nin0)
              exact j173 TB hB (fu ++ [t0]) fr ⟨fu, fr, hP, Or.inl ⟨rfl, rfl⟩⟩ SB AT2 AB AR2
          exact j145 _ _ [] [] ⟨rfl, rfl⟩ S8 A9 A10 A8
        refine own_if S5 C (cd := .eq) (o := 7) (by decide +kernel) (pc' := 126) ⟨by decide, by decide⟩ (fun hc119 => ?_) (fun hc119 => ?_)
        · skip
          have k119 : (x2 &&& (8 : Int32)).toInt = (0 : Int) := (hh_eq).1.mp hc119
          refine own_run S5 C [.iconst 0] (pc' := 127) (Ls' := #[.val (.int x0), .val (.int x1), .val (.int x2), .val (.int x3), .val (.int t0), .val (.int t1), .val (.int t2), .val (.int t3), .val (.ref b1), .val (.int f9), .val (.int f10), .val (.int f11), .unset, .unset, .unset, .unset, .unset, .unset, .unset, .unset]) (st' := [(.int (0 : Int32))]) (by decide +kernel) rfl ?_
          exact fl12 _
        · skip
          have k119 : (x2 &&& (8 : Int32)).toInt ≠ (0 : Int) := (hh_eq).2.mp hc119
          refine own_run S5 C [.iconst 1, .goto 4] (pc' := 127) (Ls' := #[.val (.int x0), .val (.int x1), .val (.int x2), .val (.int x3), .val (.int t0), .val (.int t1), .val (.int t2), .val (.int t3), .val (.ref b1), .val (.int f9), .val (.int f10), .val (.int f11), .unset, .unset, .unset, .unset, .unset, .unset, .unset, .unset]) (st' := [(.int (1 : Int32))]) (by decide +kernel) rfl ?_
          exact fl12 _
      refine own_if S5 C (cd := .eq) (o := 7) (by decide +kernel) (pc' := 112) ⟨by decide, by decide⟩ (fun hc105 => ?_) (fun hc105 => ?_)
      · skip
        have k105 : (x2 &&& (4 : Int32)).toInt = (0 : Int) := (hh_eq).1.mp hc105
        refine own_run S5 C [.iconst 0] (pc' := 113) (Ls' := #[.val (.int x0), .val (.int x1), .val (.int x2), .val (.int x3), .val (.int t0), .val (.int t1), .val (.int t2), .val (.int t3), .val (.ref b1), .val (.int f9), .val (.int f10), .unset, .unset, .unset, .unset, .unset, .unset, .unset, .unset, .unset]) (st' := [(.int (0 : Int32))]) (by decide +kernel) rfl ?_
        exact fl11 _
      · skip
        have k105 : (x2 &&& (4 : Int32)).toInt ≠ (0 : Int) := (hh_eq).2.mp hc105
        refine own_run S5 C [.iconst 1, .goto 4] (pc' := 113) (Ls' := #[.val (.int x0), .val (.int x1), .val (.int x2), .val (.int x3), .val (.int t0), .val (.int t1), .val (.int t2), .val (.int t3), .val (.ref b1), .val (.int f9), .val (.int f10), .unset, .unset, .unset, .unset, .unset, .unset, .unset, .unset, .unset]) (st' := [(.int (1 : Int32))]) (by decide +kernel) rfl ?_
        exact fl11 _
    refine own_if S5 C (cd := .eq) (o := 7) (by decide +kernel) (pc' := 99) ⟨by decide, by decide⟩ (fun hc92 => ?_) (fun hc92 => ?_)
    · skip
      have k92 : (x2 &&& (2 : Int32)).toInt = (0 : Int) := (hh_eq).1.mp hc92
      refine own_run S5 C [.iconst 0] (pc' := 100) (Ls' := #[.val (.int x0), .val (.int x1), .val (.int x2), .val (.int x3), .val (.int t0), .val (.int t1), .val (.int t2), .val (.int t3), .val (.ref b1), .val (.int f9), .unset, .unset, .unset, .unset, .unset, .unset, .unset, .unset, .unset, .unset]) (st' := [(.int (0 : Int32))]) (by decide +kernel) rfl ?_
      exact fl10 _
    · skip
      have k92 : (x2 &&& (2 : Int32)).toInt ≠ (0 : Int) := (hh_eq).2.mp hc92
      refine own_run S5 C [.iconst 1, .goto 4] (pc' := 100) (Ls' := #[.val (.int x0), .val (.int x1), .val (.int x2), .val (.int x3), .val (.int t0), .val (.int t1), .val (.int t2), .val (.int t3), .val (.ref b1), .val (.int f9), .unset, .unset, .unset, .unset, .unset, .unset, .unset, .unset, .unset, .unset]) (st' := [(.int (1 : Int32))]) (by decide +kernel) rfl ?_
      exact fl10 _
  refine own_if S5 C (cd := .eq) (o := 7) (by decide +kernel) (pc' := 86) ⟨by decide, by decide⟩ (fun hc79 => ?_) (fun hc79 => ?_)
  · skip
    have k79 : (x2 &&& (1 : Int32)).toInt = (0 : Int) := (hh_eq).1.mp hc79
    refine own_run S5 C [.iconst 0] (pc' := 87) (Ls' := #[.val (.int x0), .val (.int x1), .val (.int x2), .val (.int x3), .val (.int t0), .val (.int t1), .val (.int t2), .val (.int t3), .val (.ref b1), .unset, .unset, .unset, .unset, .unset, .unset, .unset, .unset, .unset, .unset, .unset]) (st' := [(.int (0 : Int32))]) (by decide +kernel) rfl ?_
    exact fl9 _
  · skip
    have k79 : (x2 &&& (1 : Int32)).toInt ≠ (0 : Int) := (hh_eq).2.mp hc79
    refine own_run S5 C [.iconst 1, .goto 4] (pc' := 87) (Ls' := #[.val (.int x0), .val (.int x1), .val (.int x2), .val (.int x3), .val (.int t0), .val (.int t1), .val (.int t2), .val (.int t3), .val (.ref b1), .unset, .unset, .unset, .unset, .unset, .unset, .unset, .unset, .unset, .unset, .unset]) (st' := [(.int (1 : Int32))]) (by decide +kernel) rfl ?_
    exact fl9 _
set_option maxRecDepth 65536 in
set_option maxHeartbeats 40000000 in
theorem comes_1 {Post : Tables → Env → Array Value → State → Outcome → State → Prop} (hpost : ∀ tb e args s v u, (limb_1_1.after args s (.returned v) u = true ∧ limb_1_2.after args s (.returned v) u = true ∧ True) → FrameEnd s (.returned v) u (Jvm.fieldLocs frame_1_writes args s ++ Jvm.arrayLocs frame_1_arrays args s ++ Jvm.staticLocs frame_1_statics s) 24 128 → Post tb e args s (.returned v) u) :
    ArmFor flags0 classFile x code maxLocals ret World_1 tables_1 room_1 Calls_1 rest_1 Pre_1 Post := by
  intro l hfl _ _ p e ha hc hk s m args below hf hA hF happ hP
  obtain ⟨hcalls, hrest, hpre⟩ := hP
  obtain ⟨-, -, -, hnamed, -, -, -, hat⟩ := (Spec.applies_iff hf).mp happ
  obtain ⟨hg, hn⟩ := and_e (Cond.before_iff.mp (show (Jvm.Cond.and given_1 narrow_1).before args s = true from hpre))
  obtain ⟨hcount, g0⟩ := and_e hg
  obtain ⟨k0, g1⟩ := and_e g0
  obtain ⟨k1, g2⟩ := and_e g1
  obtain ⟨k2, g3⟩ := and_e g2
  obtain ⟨w0, w1, w2, w3, rfl⟩ : ∃ w0 w1 w2 w3 : Value, args = #[w0, w1, w2, w3] := by
    have hs : args.size = 4 := by simpa [Cond.value, given_1] using hcount
    obtain ⟨L⟩ := args
    match L, hs with
    | [w0, w1, w2, w3], _ => exact ⟨w0, w1, w2, w3, rfl⟩
  have hw := fun d (hd : d ∈ tables_1) => atoms_spec (ws := Jvm.Cond.code x code maxLocals ret :: tables_1) hat d (List.mem_cons_of_mem _ hd)
  obtain ⟨i0, ei0⟩ := is_v k0
  obtain rfl : w0 = (.int i0) := Option.some.inj ei0
  obtain ⟨i1, ei1⟩ := is_v k1
  obtain rfl : w1 = (.int i1) := Option.some.inj ei1
  obtain ⟨i2, ei2⟩ := is_v k2
  obtain rfl : w2 = (.int i2) := Option.some.inj ei2
  obtain ⟨i3, ei3⟩ := is_v g3
  obtain rfl : w3 = (.int i3) := Option.some.inj ei3
  obtain ⟨n, o, h1, h2, h3, v, L, rfl, ⟨N, -, hv⟩, hq⟩ := rm_law l s _ hw tables_1 i0 i1 i2 i3 s.heap s.heap.size (Nat.le_refl _) p e ha hc hk s m _ below hf ((Spec.applies_iff_loose hf).mp happ).1 ⟨rfl, State.Warmed39.refl s, rfl⟩ trivial
  obtain rfl : v = some (.int 1) := hv
  refine ⟨n, _, h1, h2, h3, hpost _ _ _ _ _ _ ⟨Cond.after_iff.mpr rfl, Cond.after_iff.mpr (eq_i res_at (Term.int_eval (1)) rfl), trivial⟩ ⟨hq.1, hq.2.1, (hq.2.2.sift fun y hy => Or.inr (N y hy)).mono (by decide) (by decide)⟩⟩
theorem main_1_1 : Claimed_1_1 := comes_1 fun _ _ _ _ _ _ h hF => ⟨h.1, hF⟩
theorem main_1_2 : Claimed_1_2 := comes_1 fun _ _ _ _ _ _ h hF => ⟨h.2.1, hF⟩
end Jvm.Pilot.@@N@@
namespace Jvm.Pilot.@@N@@
open Jvm Jvm.ClassFile Sem Op Lib Jvm.Free Jvm.Stand Jvm.Pilot.@@N@@.Jvm.D
/-! MADE BY PROGRAM (witnessworld.py) out of the Statement's table words and the real class files: 9 classes; the members and pool entries that the words name. The judged class is class 1, her method 1. -/
namespace start1
open Jvm.ClassFile
def u (s : String) : CpInfo := .utf8 (stringToUtf16 s)
/-- a pool by its gaps: so many unusable entries, then the entry; so many at the end -/
def gap : Nat → List CpInfo → List CpInfo
  | 0, r => r
  | n + 1, r => .unusable :: gap n r
def poolList (es : List (Nat × CpInfo)) (last : Nat) : List CpInfo := es.foldr (fun e r => gap e.1 (e.2 :: r)) (gap last [])
def pool (es : List (Nat × CpInfo)) (last : Nat) : Array CpInfo := ⟨poolList es last⟩
def fileOf (pool : Array CpInfo) (this : Nat) (attrs : Array Attribute := #[]) (ms : Array MethodInfo := #[]) (fl : Nat := 33) (sup : Nat := 0) (ifs : Array Nat := #[]) (fds : Array FieldInfo := #[]) : ClassFile where
  minorVersion := 0
  majorVersion := 65
  constantPool := pool
  accessFlags := fl
  thisClass := this
  superClass := sup
  interfaces := ifs
  fields := fds
  methods := ms
  attributes := attrs
def plain (name : String) (sup : Option ClassId) : Class where
  name := name
  kind := .ordinary
  loader := none
  accessFlags := 33
  super := sup
  interfaces := #[]
  cf := none
  fields := #[]
  methods := #[]
  instanceTypes := #[]
  staticTypes := #[]
  resolved := #[]
  callSites := []
  init := .initialized
  statics := none
  mirror := none

def pool0 : Array CpInfo := pool [(5, u "<init>"), (0, u "()V"), (1, .class_ 10), (1, u "java/lang/Object")] 113

def k0m0 : Method := { name := "<init>", desc := "()V", sig := { parameters := [], returnType := none }, accessFlags := 1, code := none }
/-- java/lang/Object -/
def k0 : Class := { plain "java/lang/Object" none with
  accessFlags := 33
  interfaces := #[]
  cf := some (fileOf pool0 8 #[] #[{ accessFlags := 1, nameIndex := 5, descriptorIndex := 6, attributes := #[] }] 33 0 #[] #[])
  fields := #[]
  methods := #[k0m0]
  instanceTypes := #[]
  staticTypes := #[]
  resolved := Array.replicate 124 none
  statics := none }

def pool1 : Array CpInfo := pool [(2, .class_ 4), (1, u "java/lang/Object"), (0, u "<init>"), (0, u "()V"), (0, .integer 2147483647), (0, .methodref 9 10), (0, .class_ 11), (0, .nameAndType 12 13), (0, u "com/example/holdfast/holdfast/fill/Ceilings"), (0, u "first"), (0, u "([II[I)[I"), (0, .class_ 15), (0, u "com/example/holdfast/holdfast/fill/CeilingsFirstPinLaw"), (2, u "law"), (0, u "(IIII)Z")] 5

def k1m0 : Method := { name := "<init>", desc := "()V", sig := { parameters := [], returnType := none }, accessFlags := 1, code := none }
def k1c1 : Code := { maxStack := 4, maxLocals := 20, code := code, exceptionTable := #[], attributes := #[] }
def k1m1 : Method := { name := "law", desc := "(IIII)Z", sig := { parameters := [.int, .int, .int, .int], returnType := some .boolean }, accessFlags := 9, code := some k1c1 }
/-- com/example/holdfast/holdfast/fill/CeilingsFirstPinLaw -/
def k1 : Class := { plain "com/example/holdfast/holdfast/fill/CeilingsFirstPinLaw" (some 0) with
  accessFlags := 49
  interfaces := #[]
  cf := some (fileOf pool1 14 #[] #[{ accessFlags := 1, nameIndex := 5, descriptorIndex := 6, attributes := #[] }, { accessFlags := 9, nameIndex := 18, descriptorIndex := 19, attributes := #[] }] 49 2 #[] #[])
  fields := #[]
  methods := #[k1m0, k1m1]
  instanceTypes := #[]
  staticTypes := #[]
  resolved := Array.replicate 25 none
  statics := none }

def pool2 : Array CpInfo := pool [(2, .class_ 4), (1, u "java/lang/Object"), (3, .class_ 10), (1, u "com/example/holdfast/holdfast/fill/Ceilings"), (0, u "takers"), (0, u "[[I"), (2, u "full"), (1, u "[I"), (2, u "chosen"), (2, u "totals"), (2, u "weights"), (5, u "NONE"), (23, u "places"), (4, .class_ 62), (0, u "com/example/holdfast/holdfast/fill/Ceilings$Loads"), (9, u "first"), (39, .class_ 113), (0, u "com/example/holdfast/holdfast/fill/Ceilings$Search"), (28, u "sizes"), (2, u "extrasOf"), (16, u "([II[I)[I")] 10

def k2c0 : Code := { maxStack := 3, maxLocals := 8, code := prog_39_method_3_code, exceptionTable := #[], attributes := #[] }
def k2m0 : Method := { name := "first", desc := "([II[I)[I", sig := { parameters := [(.array .int), .int, (.array .int)], returnType := some (.array .int) }, accessFlags := 8, code := some k2c0 }
/-- com/example/holdfast/holdfast/fill/Ceilings -/
def k2 : Class := { plain "com/example/holdfast/holdfast/fill/Ceilings" (some 0) with
  accessFlags := 48
  interfaces := #[]
  cf := some (fileOf pool2 8 #[.nestMembers #[61, 112]] #[{ accessFlags := 8, nameIndex := 72, descriptorIndex := 162, attributes := #[] }] 48 2 #[] #[{ accessFlags := 26, nameIndex := 32, descriptorIndex := 17, attributes := #[] }, { accessFlags := 18, nameIndex := 11, descriptorIndex := 12, attributes := #[] }, { accessFlags := 18, nameIndex := 15, descriptorIndex := 12, attributes := #[] }, { accessFlags := 18, nameIndex := 20, descriptorIndex := 12, attributes := #[] }, { accessFlags := 18, nameIndex := 23, descriptorIndex := 17, attributes := #[] }, { accessFlags := 18, nameIndex := 26, descriptorIndex := 17, attributes := #[] }, { accessFlags := 2, nameIndex := 145, descriptorIndex := 12, attributes := #[] }, { accessFlags := 2, nameIndex := 142, descriptorIndex := 17, attributes := #[] }, { accessFlags := 2, nameIndex := 56, descriptorIndex := 17, attributes := #[] }])
  fields := #[{ name := "NONE", type := (.array .int), accessFlags := 26, slot := 0, constantValue := 0 }, { name := "takers", type := (.array (.array .int)), accessFlags := 18, slot := 0, constantValue := 0 }, { name := "full", type := (.array (.array .int)), accessFlags := 18, slot := 1, constantValue := 0 }, { name := "chosen", type := (.array (.array .int)), accessFlags := 18, slot := 2, constantValue := 0 }, { name := "totals", type := (.array .int), accessFlags := 18, slot := 3, constantValue := 0 }, { name := "weights", type := (.array .int), accessFlags := 18, slot := 4, constantValue := 0 }, { name := "extrasOf", type := (.array (.array .int)), accessFlags := 2, slot := 5, constantValue := 0 }, { name := "sizes", type := (.array .int), accessFlags := 2, slot := 6, constantValue := 0 }, { name := "places", type := (.array .int), accessFlags := 2, slot := 7, constantValue := 0 }]
  methods := #[k2m0]
  instanceTypes := #[(.array (.array .int)), (.array (.array .int)), (.array (.array .int)), (.array .int), (.array .int), (.array (.array .int)), (.array .int), (.array .int)]
  staticTypes := #[(.array .int)]
  resolved := Array.replicate 173 none
  statics := none }

def pool3 : Array CpInfo := pool [(1, u "java/lang/Cloneable"), (0, .class_ 1), (0, u "java/lang/Object"), (0, .class_ 3)] 3

/-- java/lang/Cloneable -/
def k3 : Class := { plain "java/lang/Cloneable" (some 0) with
  accessFlags := 1537
  interfaces := #[]
  cf := some (fileOf pool3 2 #[] #[] 1537 4 #[] #[])
  fields := #[]
  methods := #[]
  instanceTypes := #[]
  staticTypes := #[]
  resolved := Array.replicate 8 none
  statics := none }

def pool4 : Array CpInfo := pool [(1, u "java/io/Serializable"), (0, .class_ 1), (0, u "java/lang/Object"), (0, .class_ 3)] 3

/-- java/io/Serializable -/
def k4 : Class := { plain "java/io/Serializable" (some 0) with
  accessFlags := 1537
  interfaces := #[]
  cf := some (fileOf pool4 2 #[] #[] 1537 4 #[] #[])
  fields := #[]
  methods := #[]
  instanceTypes := #[]
  staticTypes := #[]
  resolved := Array.replicate 8 none
  statics := none }

/-- the primitive byte -/
def k5 : Class := { plain "byte" none with kind := .primitive 'B', accessFlags := 0x411 }
/-- [B -/
def k6 : Class := { plain "[B" (some 0) with kind := .array 5 .byte, interfaces := #[3, 4], accessFlags := 1041 }

/-- the primitive int -/
def k7 : Class := { plain "int" none with kind := .primitive 'I', accessFlags := 0x411 }
/-- [I -/
def k8 : Class := { plain "[I" (some 0) with kind := .array 7 .int, interfaces := #[3, 4], accessFlags := 1041 }

def heap : Heap := #[]
def classes : Array Class := #[k0, k1, k2, k3, k4, k5, k6, k7, k8]
def interned : List (Array UInt16 × Addr) := []
def slotsUsed : Nat := 0
def theMethod : MethodId := ⟨1, 1⟩
def args0 : Array Value := #[.int 5, .int 7, .int 2, .int 9]
def aboutOver (below : List Frame) : State where
  vm := { classes := classes, interned := interned.toArray }
  heap := heap
  slotsUsed := slotsUsed
  threads := #[{ frames := .invoking theMethod args0 :: below }]
def below0 : List Frame := [.native { method := ⟨0, 0⟩, args := #[] }]
def about1 : State := aboutOver below0
def p0 : Program := .bare "" "" ""
def e0 : Env := launch0.env 0 0 0
theorem w_frames : about1.frames = Frame.invoking theMethod args0 :: below0 := rfl
set_option maxRecDepth 65536 in
theorem w_args : argsFit about1.vm theMethod args0 = true := by decide +kernel
set_option maxRecDepth 65536 in
theorem w_heap : heapFits about1 = true := by decide +kernel
set_option maxRecDepth 65536 in
theorem w_runnable : about1.curStatus? = some .runnable := by decide +kernel
set_option maxRecDepth 65536 in
theorem w_alone : about1.alone = true := by decide +kernel
set_option maxRecDepth 65536 in
theorem w_named : about1.methodNamed? x = some theMethod := by decide +kernel
set_option maxRecDepth 65536 in
theorem w_hears : about1.hears theMethod below0 = true := by decide +kernel
set_option maxRecDepth 65536 in
theorem w_ripe : about1.ripe theMethod args0 below0 = true := by decide +kernel
theorem w_running : about1.status = .running := rfl
set_option maxRecDepth 65536 in
theorem w_room : about1.hasRoom e0.platform room_1 = true :=
  launch0.hasRoom_least _ room_1 (by decide +kernel) (by decide +kernel) (by decide +kernel) (by decide +kernel) (by decide +kernel) (by decide +kernel)
theorem allAtoms_all (ts : List Jvm.Cond) (a : Array Jvm.Value) (st : Jvm.State) : (allAtoms ts).before a st = ts.all (fun c => c.before a st) := by
  induction ts with
  | nil => rfl
  | cons c t ih =>
    show (Jvm.Cond.and c (allAtoms t)).before a st = _
    rw [Jvm.Cond.before_and, ih, List.all_cons]
def words1 : List Jvm.Cond := Jvm.Cond.code x code maxLocals ret :: tables_1
/-- a 'code' word, met by the world's own term for the bytes: nothing is compared byte by byte -/
theorem code_word {y : MethodName} {bytes : ByteArray} {mx : Nat} {rt : Option FieldType} {a : Array Value} {s : State} {m : MethodId} {meth : Method} {c : Code} (h1 : s.methodNamed? y = some m) (h2 : s.vm.method? m = some meth) (h3 : meth.code = some c) (h4 : c.code = bytes)
    (h5 : (c.maxLocals == mx && c.exceptionTable.isEmpty && decide (c.maxStack ≤ mostOperands) && decide (meth.sig.returnType = rt) && !meth.locks && decide (parseMethodDescriptor y.desc = some meth.sig)) = true) : (Jvm.Cond.code y bytes mx rt).before a s = true := by
  simp only [Bool.and_eq_true, beq_iff_eq, Bool.not_eq_true', decide_eq_true_eq] at h5
  obtain ⟨⟨⟨⟨⟨g1, g2⟩, g3⟩, g4⟩, g5⟩, g6⟩ := h5
  simp [Cond.before, Cond.holds, Cond.value, h1, h2, h3, h4, g1, g2, g3, g4, g5, g6]
def isCode : Jvm.Cond → Bool
  | .code _ _ _ _ => true
  | _ => false
theorem all_split {L : List Jvm.Cond} {P : Jvm.Cond → Bool} (h1 : L.all (fun c => isCode c || P c) = true) (h2 : ∀ c ∈ L.filter isCode, P c = true) : L.all P = true := by
  refine List.all_eq_true.mpr fun c hc => ?_
  have h := List.all_eq_true.mp h1 c hc
  rcases Bool.eq_false_or_eq_true (isCode c) with hi | hi
  · exact h2 c (List.mem_filter.mpr ⟨hc, hi⟩)
  · simpa [hi] using h
set_option maxRecDepth 65536 in
theorem w_c0 : (Jvm.Cond.code x code maxLocals ret).before args0 about1 = true := code_word (m := ⟨1, 1⟩) (meth := k1m1) (c := k1c1) (by decide +kernel) rfl rfl rfl (by decide +kernel)
set_option maxRecDepth 65536 in
theorem w_c1 : (Jvm.Cond.code ({ cls := "com/example/holdfast/holdfast/fill/Ceilings", name := "first", desc := "([II[I)[I" } : Jvm.MethodName) prog_39_method_3_code (8 : Nat) (Option.some (Jvm.ClassFile.FieldType.array Jvm.ClassFile.FieldType.int))).before args0 about1 = true := code_word (m := ⟨2, 0⟩) (meth := k2m0) (c := k2c0) (by decide +kernel) rfl rfl rfl (by decide +kernel)
def codes1 : List Jvm.Cond := [Jvm.Cond.code x code maxLocals ret, Jvm.Cond.code ({ cls := "com/example/holdfast/holdfast/fill/Ceilings", name := "first", desc := "([II[I)[I" } : Jvm.MethodName) prog_39_method_3_code (8 : Nat) (Option.some (Jvm.ClassFile.FieldType.array Jvm.ClassFile.FieldType.int))]
set_option maxRecDepth 65536 in
theorem codes_eq : words1.filter isCode = codes1 := rfl
theorem w_codes : ∀ c ∈ words1.filter isCode, c.before args0 about1 = true := by
  rw [codes_eq]
  intro c hc
  simp only [codes1, List.mem_cons, List.not_mem_nil, or_false] at hc
  rcases hc with rfl | rfl
  · exact w_c0
  · exact w_c1
set_option maxRecDepth 65536 in
theorem w_t1 : words1.all (fun c => isCode c || c.before args0 about1) = true := by decide +kernel
theorem w_tables : (allAtoms (Jvm.Cond.code x code maxLocals ret :: tables_1)).before args0 about1 = true := by
  rw [allAtoms_all]
  show words1.all (fun c => c.before args0 about1) = true
  refine all_split ?_ w_codes
  rw [w_t1]
set_option maxRecDepth 65536 in
theorem w_case : (Jvm.Cond.and given_1 narrow_1).before args0 about1 = true := by decide +kernel
theorem w_applies : (headSpec (Jvm.Cond.code x code maxLocals ret :: tables_1) room_1).applies x e0.platform about1 = true :=
  (Spec.applies_iff w_frames).mpr ⟨w_running, w_runnable, w_alone, w_named, w_hears, w_ripe, w_room, w_tables⟩
theorem atStart : AtStart classFile x code maxLocals ret World_1 tables_1 room_1 Calls_1 rest_1 Pre_1 launch0 p0 e0 about1 theMethod args0 below0 :=
  ⟨lists_1, trivial, launch0.admits_env _ _ _, launch0.least_env, fairChoices_fair.cas, fairChoices_fair.clock, w_frames, w_args, w_heap, w_applies, trivial, trivial, w_case⟩
end start1
theorem witness_1 : WitnessClaimed_1 := ⟨start1.p0, start1.e0, start1.about1, start1.theMethod, start1.args0, start1.below0, start1.atStart⟩
end Jvm.Pilot.@@N@@
