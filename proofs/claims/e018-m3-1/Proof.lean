import JvmDerived
import JvmDerived.Pilot.@@N@@Statement
import JvmDerived.Pilot.@@N@@Code
set_option linter.unusedVariables false
set_option linter.unusedSimpArgs false
namespace Jvm.RoadKit
open Sem ClassFile Op Lib Jvm.Stand Jvm.Free Jvm.LawKit
section New
variable {p : Program} {l : Launch} {e : Env} {R : Room} {s : State} {m : MethodId} {args : Array Value} {below : List Frame} {meth : Method} {c : Code} {T : State} {locs : List Loc} {cells slots : Nat}
theorem retI (X : Stand p l e R s m args below meth c T locs cells slots) (hx : p.tables.exec = Jvm.exec) {pc : Nat} {Ls : Array Slot} {z : Int32} {rest : List Value} (hret : meth.sig.returnType = some .int) (hd : decode c.code pc = .ok (.ireturn, 1)) {fs : List Frame}
    (hl : ∀ (f : JFrame) (acts : List Action), f.method = m → f.locked = none → f.entered = [] → (doReturn e (T.setTop f) acts (some (.int z))).1 = T.setFrames fs) : Steps p.tables e below (T.setTop (mkF m pc Ls (.int z :: rest))) (T.setFrames fs) := by
  have hm' : T.vm.method? m = some meth := X.method'
  have hn : narrow .int (.int z) = .int z := rfl
  show Steps p.tables e below (T.setTop { method := m, pc := pc, locals := Ls, stack := _ :: rest, locked := none }) _
  jvm_step X.here [X.here.top, hx, hd, hm', hret, hn]
  first | (intro acts; rw [hl _ acts rfl rfl rfl]) | rw [hl _ _ rfl rfl rfl]
  exact Steps.refl _
end New
end Jvm.RoadKit
namespace Jvm.Pilot.@@N@@
open Jvm Jvm.ClassFile Sem Op Lib Jvm.Free Jvm.Stand Jvm.LawKit Jvm.RoadKit Bundle Jvm.Pilot.@@N@@.Jvm.D
/-! THE WALK IN SHORT: where a walk stands (St), what is fixed about the body (Cx), that a run from a frame comes to an end that says P (Con); a straight run of plain instructions in one row (own_run). -/
section OwnKit
def St (p : Program) (l : Launch) (e : Env) (R : Room) (s : State) (m : MethodId) (args : Array Value) (below : List Frame) (meth : Method) (c : Code) (n0 : Nat) (T : State) (h : Heap) (cells slots : Nat) : Prop :=
  ∃ locs, Stand p l e R s m args below meth c T locs cells slots ∧ T.heap = h ∧ Fr n0 locs ∧ n0 ≤ h.size
def Cx (p : Program) (s Z : State) (m : MethodId) (meth : Method) (c : Code) (bytes : ByteArray) (own : String) (maxL : Nat) (ret : Option FieldType) (nm : String) : Prop :=
  p.tables.exec = Jvm.exec ∧ Z.Warmed39 s.vm ∧ c.code = bytes ∧ s.vm.findClass own = some m.cls ∧ c.maxLocals = maxL ∧ meth.sig.returnType = ret ∧ meth.locks = false ∧ meth.name = nm
def Con (p : Program) (e : Env) (below : List Frame) (T : State) (g : JFrame) (P : State → Outcome → Prop) : Prop :=
  ∃ t o, Steps p.tables e below (T.setTop g) t ∧ t.status = .running ∧ Ended t below o ∧ P t o
def ilen : Instr → Nat
  | .iload _ => 2 | .aload _ => 2 | .istore _ => 2 | .astore _ => 2 | .bipush _ => 2 | .lload _ => 2 | .lstore _ => 2
  | .sipush _ => 3 | .iinc _ _ => 3 | .goto _ => 3
  | _ => 1
def pstep (i : Instr) (pc : Nat) (Ls : Array Slot) (st : List Value) : Option (Nat × Array Slot × List Value) :=
  match i with
  | .iload_n k => match Ls[k.val]? with | some (.val (.int v)) => some (pc + 1, Ls, .int v :: st) | _ => none
  | .iload k => match Ls[k]? with | some (.val (.int v)) => some (pc + 2, Ls, .int v :: st) | _ => none
  | .aload_n k => match Ls[k.val]? with | some (.val v) => if v.isRef = true then some (pc + 1, Ls, v :: st) else none | _ => none
  | .aload k => match Ls[k]? with | some (.val v) => if v.isRef = true then some (pc + 2, Ls, v :: st) else none | _ => none
  | .lload k => match Ls[k]? with | some (.val (.long v)) => some (pc + 2, Ls, .long v :: st) | _ => none
  | .istore_n k => match st with | .int x :: r => (match storeLocals Ls k.val (.int x) with | some L => some (pc + 1, L, r) | none => none) | _ => none
  | .istore k => match st with | .int x :: r => (match storeLocals Ls k (.int x) with | some L => some (pc + 2, L, r) | none => none) | _ => none
  | .astore_n k => match st with | x :: r => (if x.isRef = true then (match storeLocals Ls k.val x with | some L => some (pc + 1, L, r) | none => none) else none) | _ => none
  | .astore k => match st with | x :: r => (if x.isRef = true then (match storeLocals Ls k x with | some L => some (pc + 2, L, r) | none => none) else none) | _ => none
  | .lstore k => match st with | .long x :: r => (match storeLocals Ls k (.long x) with | some L => some (pc + 2, L, r) | none => none) | _ => none
  | .iconst i => some (pc + 1, Ls, .int (Int32.ofInt i) :: st)
  | .lconst k => some (pc + 1, Ls, .long (Int64.ofNat k) :: st)
  | .bipush i => some (pc + 2, Ls, .int (Int8.ofInt i).toInt32 :: st)
  | .sipush i => some (pc + 3, Ls, .int (Int16.ofInt i).toInt32 :: st)
  | .aconst_null => some (pc + 1, Ls, .null :: st)
  | .iadd => match st with | .int y :: .int x :: r => some (pc + 1, Ls, .int (x + y) :: r) | _ => none
  | .isub => match st with | .int y :: .int x :: r => some (pc + 1, Ls, .int (x - y) :: r) | _ => none
  | .imul => match st with | .int y :: .int x :: r => some (pc + 1, Ls, .int (x * y) :: r) | _ => none
  | .iand => match st with | .int y :: .int x :: r => some (pc + 1, Ls, .int (x &&& y) :: r) | _ => none
  | .ior => match st with | .int y :: .int x :: r => some (pc + 1, Ls, .int (x ||| y) :: r) | _ => none
  | .ishl => match st with | .int y :: .int x :: r => some (pc + 1, Ls, .int (x <<< (y &&& 31)) :: r) | _ => none
  | .ishr => match st with | .int y :: .int x :: r => some (pc + 1, Ls, .int (x >>> (y &&& 31)) :: r) | _ => none
  | .iushr => match st with | .int y :: .int x :: r => some (pc + 1, Ls, .int (XT.ushr x y) :: r) | _ => none
  | .idiv => match st with | .int y :: .int x :: r => (if y = 0 then none else some (pc + 1, Ls, .int (x / y) :: r)) | _ => none
  | .irem => match st with | .int y :: .int x :: r => (if y = 0 then none else some (pc + 1, Ls, .int (x - (x / y) * y) :: r)) | _ => none
  | .i2b => match st with | .int x :: r => some (pc + 1, Ls, .int (x.toInt8.toInt32) :: r) | _ => none
  | .i2l => match st with | .int x :: r => some (pc + 1, Ls, .long (x.toInt64) :: r) | _ => none
  | .lsub => match st with | .long y :: .long x :: r => some (pc + 1, Ls, .long (x - y) :: r) | _ => none
  | .lneg => match st with | .long x :: r => some (pc + 1, Ls, .long (-x) :: r) | _ => none
  | .lcmp => match st with | .long y :: .long x :: r => some (pc + 1, Ls, .int (XT.cmpL x y) :: r) | _ => none
  | .dup => match st with | x :: r => (if x.category = 1 then some (pc + 1, Ls, x :: x :: r) else none) | _ => none
  | .iinc k z => match Ls[k]? with | some (.val (.int x)) => (match storeLocals Ls k (.int (x + Int32.ofInt z)) with | some L => some (pc + 3, L, st) | none => none) | _ => none
  | .goto o => if 0 ≤ (pc : Int) + o then some (((pc : Int) + o).toNat, Ls, st) else none
  | _ => none
/-- where the next instruction of a straight run lies -/
def nextPc (i : Instr) (pc : Nat) : Nat := match i with | .goto o => ((pc : Int) + o).toNat | _ => pc + ilen i
def fetchOk (bytes : ByteArray) : Nat → List Instr → Bool
  | _, [] => true
  | pc, i :: r => decide (decode bytes pc = .ok (i, ilen i)) && fetchOk bytes (nextPc i pc) r
def prun : Nat → Array Slot → List Value → List Instr → Option (Nat × Array Slot × List Value)
  | pc, Ls, st, [] => some (pc, Ls, st)
  | pc, Ls, st, i :: r => match pstep i pc Ls st with | some (pc', Ls', st') => if nextPc i pc = pc' then prun pc' Ls' st' r else none | none => none
variable {p : Program} {l : Launch} {e : Env} {R : Room} {s : State} {m : MethodId} {args : Array Value} {below : List Frame} {meth : Method} {c : Code} {T : State} {h : Heap} {cells slots n0 : Nat} {Z : State} {a0 : Array Value} {bytes : ByteArray} {own : String} {maxL : Nat} {ret : Option FieldType} {nm : String} {P : State → Outcome → Prop}
theorem via {T' : State} {g g' : JFrame} (st : ∀ target, Steps p.tables e below (T'.setTop g') target → Steps p.tables e below (T.setTop g) target) (k : Con p e below T' g' P) : Con p e below T g P := by
  obtain ⟨t, o, h1, r⟩ := k; exact ⟨t, o, st t h1, r⟩
theorem own_run1 (S : St p l e R s m args below meth c n0 T h cells slots) (C : Cx p s Z m meth c bytes own maxL ret nm) {i : Instr} {pc : Nat} {Ls : Array Slot} {st : List Value} {q : Nat × Array Slot × List Value}
    (hd : decode bytes pc = .ok (i, ilen i)) (hp : pstep i pc Ls st = some q) (k : Con p e below T (mkF m q.1 q.2.1 q.2.2) P) : Con p e below T (mkF m pc Ls st) P := by
  obtain ⟨locs, X, -⟩ := S
  obtain ⟨hx, -, hby, -⟩ := C
  have hd' := hb hby hd
  unfold pstep at hp
  split at hp
  · split at hp
    · cases hp; exact via (fun t z => XS.iloadN X.here hx rfl hd' ‹_› z) k
    · cases hp
  · split at hp
    · cases hp; exact via (fun t z => XS.iload X.here hx rfl hd' ‹_› z) k
    · cases hp
  · split at hp
    · split at hp
      · cases hp; exact via (fun t z => XS.aloadN X.here hx rfl hd' ‹_› ‹_› z) k
      · cases hp
    · cases hp
  · split at hp
    · split at hp
      · cases hp; exact via (fun t z => XS.aload X.here hx rfl hd' ‹_› ‹_› z) k
      · cases hp
    · cases hp
  · split at hp
    · cases hp; exact via (fun t z => XT.lload X.here hx rfl hd' ‹_› z) k
    · cases hp
  · split at hp
    · split at hp
      · cases hp; exact via (fun t z => XS.istoreN X.here hx rfl hd' rfl ‹_› z) k
      · cases hp
    · cases hp
  · split at hp
    · split at hp
      · cases hp; exact via (fun t z => XS.istore X.here hx rfl hd' rfl ‹_› z) k
      · cases hp
    · cases hp
  · split at hp
    · split at hp
      · split at hp
        · cases hp; exact via (fun t z => XS.astoreN X.here hx rfl hd' rfl ‹_› ‹_› z) k
        · cases hp
      · cases hp
    · cases hp
  · split at hp
    · split at hp
      · split at hp
        · cases hp; exact via (fun t z => XS.astore X.here hx rfl hd' rfl ‹_› ‹_› z) k
        · cases hp
      · cases hp
    · cases hp
  · split at hp
    · split at hp
      · cases hp; exact via (fun t z => XT.lstore X.here hx rfl hd' rfl ‹_› z) k
      · cases hp
    · cases hp
  · cases hp; exact via (fun t z => XS.iconst X.here hx rfl hd' z) k
  · cases hp; exact via (fun t z => XT.lconst X.here hx rfl hd' z) k
  · cases hp; exact via (fun t z => XS.bipush X.here hx rfl hd' z) k
  · cases hp; exact via (fun t z => XS.sipush X.here hx rfl hd' z) k
  · cases hp; exact via (fun t z => XS.aconstNull X.here hx rfl hd' z) k
  · split at hp
    · cases hp; exact via (fun t z => XS.iadd X.here hx rfl hd' rfl z) k
    · cases hp
  · split at hp
    · cases hp; exact via (fun t z => XS.isub X.here hx rfl hd' rfl z) k
    · cases hp
  · split at hp
    · cases hp; exact via (fun t z => XS.imul X.here hx rfl hd' rfl z) k
    · cases hp
  · split at hp
    · cases hp; exact via (fun t z => XS.iand X.here hx rfl hd' rfl z) k
    · cases hp
  · split at hp
    · cases hp; exact via (fun t z => XT.ior X.here hx rfl hd' rfl z) k
    · cases hp
  · split at hp
    · cases hp; exact via (fun t z => XT.ishl X.here hx rfl hd' rfl z) k
    · cases hp
  · split at hp
    · cases hp; exact via (fun t z => XT.ishr X.here hx rfl hd' rfl z) k
    · cases hp
  · split at hp
    · cases hp; exact via (fun t z => XT.iushr X.here hx rfl hd' rfl z) k
    · cases hp
  · split at hp
    · split at hp
      · cases hp
      · cases hp; exact via (fun t z => XS.idiv X.here hx rfl hd' rfl ‹_› z) k
    · cases hp
  · split at hp
    · split at hp
      · cases hp
      · cases hp; exact via (fun t z => XS.irem X.here hx rfl hd' rfl ‹_› z) k
    · cases hp
  · split at hp
    · cases hp; exact via (fun t z => XT.i2b X.here hx rfl hd' rfl z) k
    · cases hp
  · split at hp
    · cases hp; exact via (fun t z => XT.i2l X.here hx rfl hd' rfl z) k
    · cases hp
  · split at hp
    · cases hp; exact via (fun t z => XT.lsub X.here hx rfl hd' rfl z) k
    · cases hp
  · split at hp
    · cases hp; exact via (fun t z => XT.lneg X.here hx rfl hd' rfl z) k
    · cases hp
  · split at hp
    · cases hp; exact via (fun t z => XT.lcmp X.here hx rfl hd' rfl z) k
    · cases hp
  · split at hp
    · split at hp
      · cases hp; exact via (fun t z => XS.dup X.here hx rfl hd' rfl ‹_› z) k
      · cases hp
    · cases hp
  · split at hp
    · split at hp
      · cases hp; exact via (fun t z => XS.iinc X.here hx rfl hd' ‹_› ‹_› z) k
      · cases hp
    · cases hp
  · split at hp
    · cases hp; exact via (fun t z => XS.goto X.here hx rfl rfl hd' ‹_› rfl z) k
    · cases hp
  · cases hp
/-- a straight run of plain instructions -/
theorem own_run (S : St p l e R s m args below meth c n0 T h cells slots) (C : Cx p s Z m meth c bytes own maxL ret nm) {pc' : Nat} {Ls' : Array Slot} {st' : List Value} :
    ∀ (is : List Instr) {pc : Nat} {Ls : Array Slot} {st : List Value}, fetchOk bytes pc is = true → prun pc Ls st is = some (pc', Ls', st') → Con p e below T (mkF m pc' Ls' st') P → Con p e below T (mkF m pc Ls st) P
  | [], pc, Ls, st, _, hp, k => by cases hp; exact k
  | i :: r, pc, Ls, st, hf, hp, k => by
    simp only [fetchOk, Bool.and_eq_true, decide_eq_true_eq] at hf
    simp only [prun] at hp
    split at hp
    · split at hp
      · rename_i pc1 Ls1 st1 h1 h2
        subst h2
        exact own_run1 S C hf.1 h1 (own_run S C r hf.2 hp k)
      · cases hp
    · cases hp
end OwnKit
section OwnKit2
variable {p : Program} {l : Launch} {e : Env} {R : Room} {s : State} {m : MethodId} {args : Array Value} {below : List Frame} {meth : Method} {c : Code} {T : State} {h h' : Heap} {cells slots n0 : Nat} {Z : State} {a0 : Array Value} {bytes : ByteArray} {own : String} {maxL : Nat} {ret : Option FieldType} {nm : String} {P : State → Outcome → Prop} {pc pc' : Nat} {Ls : Array Slot} {st : List Value}
/-! branches -/
theorem own_icmp (S : St p l e R s m args below meth c n0 T h cells slots) (C : Cx p s Z m meth c bytes own maxL ret nm) {cd : ClassFile.Cond} {o : Int} {x y : Int32} (hd : decode bytes pc = .ok (.if_icmp cd o, 3)) (hp : 0 ≤ (pc : Int) + o ∧ ((pc : Int) + o).toNat = pc')
    (yes : if_icmp.holds cd x y = true → Con p e below T (mkF m pc' Ls st) P) (no : if_icmp.holds cd x y = false → Con p e below T (mkF m (pc + 3) Ls st) P) : Con p e below T (mkF m pc Ls (.int y :: .int x :: st)) P := by
  obtain ⟨locs, X, -⟩ := S
  obtain ⟨hx, -, hby, -⟩ := C
  cases hc : if_icmp.holds cd x y with
  | true => exact via (fun t z => XS.icmpYes X.here hx rfl rfl (hb hby hd) rfl hc hp.1 hp.2 z) (yes hc)
  | false => exact via (fun t z => XS.icmpNo X.here hx rfl (hb hby hd) rfl hc z) (no hc)
theorem own_if (S : St p l e R s m args below meth c n0 T h cells slots) (C : Cx p s Z m meth c bytes own maxL ret nm) {cd : ClassFile.Cond} {o : Int} {x : Int32} (hd : decode bytes pc = .ok (.ifCond cd o, 3)) (hp : 0 ≤ (pc : Int) + o ∧ ((pc : Int) + o).toNat = pc')
    (yes : if_icmp.holds cd x 0 = true → Con p e below T (mkF m pc' Ls st) P) (no : if_icmp.holds cd x 0 = false → Con p e below T (mkF m (pc + 3) Ls st) P) : Con p e below T (mkF m pc Ls (.int x :: st)) P := by
  obtain ⟨locs, X, -⟩ := S
  obtain ⟨hx, -, hby, -⟩ := C
  cases hc : if_icmp.holds cd x 0 with
  | true => exact via (fun t z => XS.ifYes X.here hx rfl rfl (hb hby hd) rfl ((if0 cd x).trans hc) hp.1 hp.2 z) (yes hc)
  | false => exact via (fun t z => XS.ifNo X.here hx rfl (hb hby hd) rfl ((if0 cd x).trans hc) z) (no hc)
theorem own_ifnullNo (S : St p l e R s m args below meth c n0 T h cells slots) (C : Cx p s Z m meth c bytes own maxL ret nm) {o : Int} {b : Addr} (hd : decode bytes pc = .ok (.ifnull o, 3))
    (k : Con p e below T (mkF m (pc + 3) Ls st) P) : Con p e below T (mkF m pc Ls (.ref b :: st)) P := by
  obtain ⟨locs, X, -⟩ := S
  obtain ⟨hx, -, hby, -⟩ := C
  exact via (fun t z => XS.ifnullNo X.here hx rfl (hb hby hd) rfl z) k
theorem hh_lt {x y : Int32} : (if_icmp.holds .lt x y = true ↔ x.toInt < y.toInt) ∧ (if_icmp.holds .lt x y = false ↔ y.toInt ≤ x.toInt) := by
  rw [show if_icmp.holds .lt x y = decide (x < y) from rfl, decide_eq_true_eq, decide_eq_false_iff_not, Int32.lt_iff_toInt_lt]; omega
theorem hh_ge {x y : Int32} : (if_icmp.holds .ge x y = true ↔ y.toInt ≤ x.toInt) ∧ (if_icmp.holds .ge x y = false ↔ x.toInt < y.toInt) := by
  rw [show if_icmp.holds .ge x y = decide (y ≤ x) from rfl, decide_eq_true_eq, decide_eq_false_iff_not, Int32.le_iff_toInt_le]; omega
theorem hh_gt {x y : Int32} : (if_icmp.holds .gt x y = true ↔ y.toInt < x.toInt) ∧ (if_icmp.holds .gt x y = false ↔ x.toInt ≤ y.toInt) := by
  rw [show if_icmp.holds .gt x y = decide (y < x) from rfl, decide_eq_true_eq, decide_eq_false_iff_not, Int32.lt_iff_toInt_lt]; omega
theorem hh_le {x y : Int32} : (if_icmp.holds .le x y = true ↔ x.toInt ≤ y.toInt) ∧ (if_icmp.holds .le x y = false ↔ y.toInt < x.toInt) := by
  rw [show if_icmp.holds .le x y = decide (x ≤ y) from rfl, decide_eq_true_eq, decide_eq_false_iff_not, Int32.le_iff_toInt_le]; omega
theorem hh_eq {x y : Int32} : (if_icmp.holds .eq x y = true ↔ x.toInt = y.toInt) ∧ (if_icmp.holds .eq x y = false ↔ x.toInt ≠ y.toInt) := by
  rw [show if_icmp.holds .eq x y = (x == y) from rfl, beq_iff_eq, beq_eq_false_iff_ne, ne_eq, ← Int32.toInt_inj]; exact ⟨Iff.rfl, Iff.rfl⟩
theorem hh_ne {x y : Int32} : (if_icmp.holds .ne x y = true ↔ x.toInt ≠ y.toInt) ∧ (if_icmp.holds .ne x y = false ↔ x.toInt = y.toInt) := by
  rw [show if_icmp.holds .ne x y = (x != y) from rfl, bne_iff_ne, bne_eq_false_iff_eq, ne_eq, ← Int32.toInt_inj]; exact ⟨Iff.rfl, Iff.rfl⟩
/-! constants -/
theorem own_ldc (S : St p l e R s m args below meth c n0 T h cells slots) (C : Cx p s Z m meth c bytes own maxL ret nm) {idx : Nat} {v : Int32} (w : (Jvm.Cond.constant own idx v).before a0 Z = true) (hd : decode bytes pc = .ok (.ldc idx, 2))
    (k : Con p e below T (mkF m (pc + 2) Ls (.int v :: st)) P) : Con p e below T (mkF m pc Ls st) P := by
  obtain ⟨locs, X, -⟩ := S
  obtain ⟨hx, hZ, hby, hown, -⟩ := C
  exact via (X.ldcInt hx hown (mvT hZ w) (g := mkF m pc Ls st) rfl (hb hby hd)) k
/-- a remainder whose divisor isn't 0 -/
theorem own_irem (S : St p l e R s m args below meth c n0 T h cells slots) (C : Cx p s Z m meth c bytes own maxL ret nm) {x y : Int32} (hy : y ≠ 0) (hd : decode bytes pc = .ok (.irem, 1))
    (k : Con p e below T (mkF m (pc + 1) Ls (.int (x - (x / y) * y) :: st)) P) : Con p e below T (mkF m pc Ls (.int y :: .int x :: st)) P := by
  obtain ⟨locs, X, -⟩ := S
  obtain ⟨hx, hZ, hby, hown, -⟩ := C
  exact via (fun t z => XS.irem X.here hx rfl (hb hby hd) rfl hy z) k
/-! arrays of ints -/
def Ai (Z : State) (h : Heap) (a : Addr) (vs : List Int32) : Prop :=
  ∃ cl : Cell, Arr Z h a cl .int ∧ cl.slots.size = vs.length ∧ vs.length < 2 ^ 31 ∧ ∀ j, j < vs.length → cl.slots[j]? = some (.int (vs.getD j 0))
theorem Ai.lt {a : Addr} {vs : List Int32} (A : Ai Z h a vs) : a < h.size := by obtain ⟨c, A, -⟩ := A; exact A.lt
theorem Ai.ext {a : Addr} {vs : List Int32} (A : Ai Z h a vs) (E : Ext h h') : Ai Z h' a vs := by obtain ⟨c, A, r⟩ := A; exact ⟨c, A.ext E, r⟩
theorem Ai.other {a b : Addr} {vs : List Int32} {sl : Nat} {v : Value} (A : Ai Z h b vs) (W : Wr h h' a sl v) (q : b ≠ a) : Ai Z h' b vs := by obtain ⟨c, A, r⟩ := A; exact ⟨c, A.other W q, r⟩
theorem Ai.keep {a : Addr} {vs : List Int32} {ws : List Addr} (A : Ai Z h a vs) (K : Keep h h' ws) (q : a ∉ ws) : Ai Z h' a vs := by obtain ⟨c, A, r⟩ := A; exact ⟨c, ⟨K.2.1 a c A.1 q, A.2⟩, r⟩
theorem Ai.small {a : Addr} {vs : List Int32} (A : Ai Z h a vs) : vs.length < 2 ^ 31 := by obtain ⟨c, -, -, r, -⟩ := A; exact r
theorem own_idx {j : Int32} {n k : Nat} (hj : 0 ≤ j.toInt ∧ j.toInt < (n : Int)) (e : k = n) : ¬ (j < 0 ∨ k ≤ j.toNatClampNeg) := by
  subst e
  rw [Int32.lt_iff_toInt_lt, show (0 : Int32).toInt = 0 from rfl, show j.toNatClampNeg = j.toInt.toNat from rfl]
  omega
theorem own_newarray (S : St p l e R s m args below meth c n0 T h cells slots) (C : Cx p s Z m meth c bytes own maxL ret nm) (w : (Jvm.Cond.arrayClass .int).before a0 Z = true) (hd : decode bytes pc = .ok (.newarray .int, 2)) {n : Int32} (hn : 0 ≤ n.toInt) (cap : Nat) (hcap : n.toNatClampNeg ≤ cap) (hbig : cap * 8 ≤ 536870912)
    (hc : cells + 1 ≤ R.cells) (hs : slots + cap ≤ R.slots) {vs : List Int32} (hvs : List.replicate n.toNatClampNeg (0 : Int32) = vs)
    (k : ∀ (T' : State) (h' : Heap) (a : Addr), a = h.size → St p l e R s m args below meth c n0 T' h' (cells + 1) (slots + cap) → Ext h h' → n0 ≤ a → Ai Z h' a vs → Con p e below T' (mkF m (pc + 2) Ls (.ref a :: st)) P) : Con p e below T (mkF m pc Ls (.int n :: st)) P := by
  obtain ⟨locs, X, e0, N, Z0⟩ := S
  obtain ⟨hx, hZ, hby, hown, -⟩ := C
  have hneg : ¬ n < 0 := by rw [Int32.lt_iff_toInt_lt, show (0 : Int32).toInt = 0 from rfl]; omega
  obtain ⟨T', h', cA, X', e', E, A, stp⟩ := newP X hx hZ (aty := .int) w e0 (g := mkF m pc Ls (.int n :: st)) rfl (hb hby hd) rfl hneg (cap := cap) hcap hbig hc hs
  refine via stp (k T' h' h.size rfl ⟨locs, X', e', N, Nat.le_trans Z0 E.1⟩ E Z0 ⟨_, A, ?_, ?_, fun j hj => ?_⟩)
  · rw [sz_new, ← hvs, List.length_replicate]
  · rw [← hvs, List.length_replicate, show n.toNatClampNeg = n.toInt.toNat from rfl]
    have := n.toInt_lt
    omega
  · subst hvs
    rw [List.length_replicate] at hj
    have hg : (List.replicate n.toNatClampNeg (0 : Int32)).getD j 0 = 0 := by
      rw [List.getD_eq_getElem?_getD, List.getElem?_replicate]; split <;> rfl
    rw [hg]
    show (Array.replicate n.toNatClampNeg (Value.int 0))[j]? = _
    rw [Array.getElem?_replicate, if_pos hj]
theorem own_alen (S : St p l e R s m args below meth c n0 T h cells slots) (C : Cx p s Z m meth c bytes own maxL ret nm) {a : Addr} {vs : List Int32} (A : Ai Z h a vs) (hd : decode bytes pc = .ok (.arraylength, 1)) {v : Int32} (hv : Int32.ofNat vs.length = v)
    (k : Con p e below T (mkF m (pc + 1) Ls (.int v :: st)) P) : Con p e below T (mkF m pc Ls (.ref a :: st)) P := by
  obtain ⟨locs, X, e0, N, Z0⟩ := S
  obtain ⟨hx, hZ, hby, hown, -⟩ := C
  obtain ⟨cl, A, hsz, hsm, hat⟩ := A
  refine via (fun t z => X.arraylength hx (cell := cl) (by rw [e0]; exact A.1) (State.isArrayOf_alike hZ.alike A.2.1) (g := mkF m pc Ls (.ref a :: st)) rfl (rest := st) rfl (hb hby hd) t z) ?_
  rw [hsz]; subst hv; exact k
theorem own_iaload (S : St p l e R s m args below meth c n0 T h cells slots) (C : Cx p s Z m meth c bytes own maxL ret nm) {a : Addr} {vs : List Int32} (A : Ai Z h a vs) (hd : decode bytes pc = .ok (.iaload, 1)) {j v : Int32} (hj : 0 ≤ j.toInt ∧ j.toInt < (vs.length : Int)) (hv : vs.getD j.toNatClampNeg 0 = v)
    (k : Con p e below T (mkF m (pc + 1) Ls (.int v :: st)) P) : Con p e below T (mkF m pc Ls (.int j :: .ref a :: st)) P := by
  obtain ⟨locs, X, e0, N, Z0⟩ := S
  obtain ⟨hx, hZ, hby, hown, -⟩ := C
  obtain ⟨cl, A, hsz, hsm, hat⟩ := A
  have hlt : j.toNatClampNeg < vs.length := by rw [show j.toNatClampNeg = j.toInt.toNat from rfl]; omega
  subst hv
  exact via (fun t z => X.iaload hx (j := j) (v := .int (vs.getD j.toNatClampNeg 0)) (by rw [e0]; exact A.1) (State.isArrayOf_alike hZ.alike A.2.1) A.2.2 (own_idx hj hsz) (hat _ hlt) (g := mkF m pc Ls (.int j :: .ref a :: st)) rfl rfl (hb hby hd) t z) k
theorem own_iastore (S : St p l e R s m args below meth c n0 T h cells slots) (C : Cx p s Z m meth c bytes own maxL ret nm) {a : Addr} {vs vs' : List Int32} (A : Ai Z h a vs) (hd : decode bytes pc = .ok (.iastore, 1)) {j x : Int32} (hj : 0 ≤ j.toInt ∧ j.toInt < (vs.length : Int)) (ge : n0 ≤ a) (hv : vs.set j.toNatClampNeg x = vs')
    (k : ∀ (T' : State) (h' : Heap), St p l e R s m args below meth c n0 T' h' cells slots → Keep h h' [a] → Ai Z h' a vs' → Con p e below T' (mkF m (pc + 1) Ls st) P) : Con p e below T (mkF m pc Ls (.int x :: .int j :: .ref a :: st)) P := by
  obtain ⟨locs, X, e0, N, Z0⟩ := S
  obtain ⟨hx, hZ, hby, hown, -⟩ := C
  obtain ⟨cl, A, hsz, hsm, hat⟩ := A
  have hlt : j.toNatClampNeg < vs.length := by rw [show j.toNatClampNeg = j.toInt.toNat from rfl]; omega
  obtain ⟨T', h', X', e', W, stp⟩ := stI X hx hZ e0 A (j := j) (x := x) (own_idx hj hsz) (g := mkF m pc Ls (.int x :: .int j :: .ref a :: st)) rfl rfl (hb hby hd)
  subst hv
  refine via stp (k T' h' ⟨_, X', e', Fr.snoc X' N ge, Nat.le_trans Z0 (Keep.of_wr W).1⟩ (Keep.of_wr W) ⟨_, A.same W, ?_, ?_, fun i hi => ?_⟩)
  · rw [sz_set, List.length_set]; exact hsz
  · rw [List.length_set]; exact hsm
  · rw [List.length_set] at hi
    by_cases u : j.toNatClampNeg = i
    · subst u
      rw [List.getD_eq_getElem?_getD, List.getElem?_set_self hi]
      simp only [Cell.setSlot]
      rw [Array.getElem?_setIfInBounds_self_of_lt (by rw [hsz]; exact hi)]
      rfl
    · have := hat i hi
      rw [List.getD_eq_getElem?_getD] at this ⊢
      rw [List.getElem?_set_ne u, ← this]
      simp only [Cell.setSlot]
      rw [Array.getElem?_setIfInBounds_ne u]
/-! what a body leaves -/
def Pq (s : State) (rm : Room) (n0 : Nat) (Q : Option Value → Heap → Prop) : State → Outcome → Prop := fun U' o => ∃ v L, o = .returned v ∧ (Fr n0 L ∧ n0 ≤ U'.heap.size ∧ Q v U'.heap) ∧ FrameEnd s o U' L rm.cells rm.slots
variable {Q : Option Value → Heap → Prop}
theorem own_reti (S : St p l e R s m args below meth c n0 T h cells slots) (C : Cx p s Z m meth c bytes own maxL (some .int) nm) {z : Int32} (hd : decode bytes pc = .ok (.ireturn, 1)) (hc : cells ≤ R.cells) (hs : slots ≤ R.slots) (q : Q (some (.int z)) h) : Con p e below T (mkF m pc Ls (.int z :: st)) (Pq s R n0 Q) := by
  obtain ⟨locs, X, e0, N, Z0⟩ := S
  obtain ⟨hx, hZ, hby, hown, hml, hret, hlk, -⟩ := C
  obtain ⟨fs, hr, hrun, hended, hW, hsame⟩ := X.leave (v := some (.int z)) (fun h => by rw [hret] at h; cases h) hlk
  subst e0
  exact ⟨_, _, retI X hx hret (hb hby hd) hr, hrun, hended, _, locs, rfl, ⟨N, Z0, q⟩, ⟨_, rfl⟩, hW, hsame.mono hc hs⟩
theorem own_retz (S : St p l e R s m args below meth c n0 T h cells slots) (C : Cx p s Z m meth c bytes own maxL (some .boolean) nm) {z z' : Int32} (hz : z &&& 1 = z') (hd : decode bytes pc = .ok (.ireturn, 1)) (hc : cells ≤ R.cells) (hs : slots ≤ R.slots) (q : Q (some (.int z')) h) : Con p e below T (mkF m pc Ls (.int z :: st)) (Pq s R n0 Q) := by
  obtain ⟨locs, X, e0, N, Z0⟩ := S
  obtain ⟨hx, hZ, hby, hown, hml, hret, hlk, -⟩ := C
  obtain ⟨fs, hr, hrun, hended, hW, hsame⟩ := X.leave (v := some (.int (nar .boolean z))) (fun h => by rw [hret] at h; cases h) hlk
  subst e0
  subst hz
  exact ⟨_, _, retN X hx (t := .boolean) hret (Or.inl rfl) (hb hby hd) hr, hrun, hended, _, locs, rfl, ⟨N, Z0, q⟩, ⟨_, rfl⟩, hW, hsame.mono hc hs⟩
theorem own_reta (S : St p l e R s m args below meth c n0 T h cells slots) {ft : FieldType} (C : Cx p s Z m meth c bytes own maxL (some ft) nm) (hft : ft.isReference = true) {a : Addr} (hd : decode bytes pc = .ok (.areturn, 1)) (hc : cells ≤ R.cells) (hs : slots ≤ R.slots) (q : Q (some (.ref a)) h) : Con p e below T (mkF m pc Ls [.ref a]) (Pq s R n0 Q) := by
  obtain ⟨locs, X, e0, N, Z0⟩ := S
  obtain ⟨hx, hZ, hby, hown, hml, hret, hlk, -⟩ := C
  obtain ⟨fs, hr, hrun, hended, hW, hsame⟩ := X.leave (v := some (.ref a)) (fun h => by rw [hret] at h; cases h) hlk
  subst e0
  exact ⟨_, _, X.areturnOut hx rfl hret hft (hb hby hd) hr, hrun, hended, _, locs, rfl, ⟨N, Z0, q⟩, ⟨_, rfl⟩, hW, hsame.mono hc hs⟩
theorem own_retv (S : St p l e R s m args below meth c n0 T h cells slots) (C : Cx p s Z m meth c bytes own maxL none nm) (hd : decode bytes pc = .ok (.return_, 1)) (hc : cells ≤ R.cells) (hs : slots ≤ R.slots) (q : Q none h) : Con p e below T (mkF m pc Ls []) (Pq s R n0 Q) := by
  obtain ⟨locs, X, e0, N, Z0⟩ := S
  obtain ⟨hx, hZ, hby, hown, hml, hret, hlk, -⟩ := C
  obtain ⟨fs, hr, hrun, hended, hW, hsame⟩ := X.leave (v := none) (fun _ => rfl) hlk
  subst e0
  exact ⟨_, _, X.returnOut hx hret (hb hby hd) hr, hrun, hended, _, locs, rfl, ⟨N, Z0, q⟩, ⟨_, rfl⟩, hW, hsame.mono hc hs⟩
/-! a body's contract, and how it is entered -/
def Mt (l : Launch) (Z : State) (y : MethodName) (bytes : ByteArray) (maxL : Nat) (ret : Option FieldType) (ws : List Jvm.Cond) (rm : Room) (as : Array Value) (h0 : Heap) (n0 : Nat) (Q : Option Value → Heap → Prop) : Prop :=
  MetFree l y (head1 (Jvm.Cond.code y bytes maxL ret :: ws) rm) (fun a U => a = as ∧ Z.Warmed39 U.vm ∧ U.heap = h0) (fun _ _ _ _ _ => True) (fun _ U o U' => ∃ v L, o = .returned v ∧ (Fr n0 L ∧ n0 ≤ U'.heap.size ∧ Q v U'.heap) ∧ FrameEnd U o U' L rm.cells rm.slots)
theorem Mt.of {y : MethodName} {ws : List Jvm.Cond} {rm : Room} {as : Array Value} (pn : plainFor y = true) (Z0 : n0 ≤ h.size) (ef : ∀ m, entryFrame m as maxL = mkF m 0 Ls []) (ho : y.cls = own) (hn : y.name = nm)
    (body : ∀ (p : Program) (e : Env) (s : State) (m : MethodId) (below : List Frame) (meth : Method) (c : Code) (T : State), Cx p s Z m meth c bytes own maxL ret nm → St p l e rm s m as below meth c n0 T h 0 0 → Con p e below T (mkF m 0 Ls []) (Pq s rm n0 Q)) :
    Mt l Z y bytes maxL ret ws rm as h n0 Q := by
  refine MetFree.of_bodySF pn hisR ?_
  intro p e s m args below meth c s₁ Bd hml0 hP hK
  obtain ⟨rfl, hZ, hh⟩ := hP
  have X0 : Stand p l e rm s m args below meth c s₁ [] 0 0 := Stand.of_body Bd
  have e0 : s₁.heap = h := by rw [← hh, Bd.state]; rfl
  subst ho hn
  obtain ⟨t, o, h1, h2, h3, h4⟩ := body p e s m below meth c s₁ ⟨Bd.exec, hZ, Bd.bytes, findClass_of_methodNamed Bd.named, hml0, Bd.returns, Bd.notSynchronized, (name_of_methodNamed Bd.named Bd.method).1⟩ ⟨[], X0, e0, Fr.nil n0, Z0⟩
  exact ⟨t, o, castTop (ef m) h1, h2, h3, h4⟩
/-! calls by contract -/
theorem own_callS (S : St p l e R s m args below meth c n0 T h cells slots) (C : Cx p s Z m meth c bytes own maxL ret nm) {y : MethodName} {yb : ByteArray} {yL : Nat} {yr : Option FieldType} {rm : Room} {idx : Nat} (w1 : (Jvm.Cond.methodLink own idx y).before a0 Z = true) (w2 : (Jvm.Cond.static y).before a0 Z = true) (w3 : (Jvm.Cond.initialized y.cls).before a0 Z = true) (w4 : (Jvm.Cond.code y yb yL yr).before a0 Z = true)
    (hy : y.cls ≠ "java/lang/invoke/MethodHandle" ∧ y.cls ≠ "java/lang/invoke/VarHandle") {as : Array Value} (hM : Mt l Z y yb yL yr [] rm as h n0 Q) (W : Nat) (hf : rm.frames + 1 ≤ R.frames) (hl : W + (yL + 11) + rm.locals ≤ R.locals) {ps : List FieldType} {r : Option FieldType} (pd : parseMethodDescriptor y.desc = some ⟨ps, r⟩) (argsL rest : List Value) (hn : argsL.length = ps.length) (ha : argsL.toArray = as)
    (hst : st = argsL.reverse ++ rest) (hW : (rest.map fun v => v.category).sum ≤ W) (hsz : Ls.size = maxL) (hd : decode bytes pc = .ok (.invokestatic idx, 3)) (hc : cells + rm.cells ≤ R.cells) (hs : slots + rm.slots ≤ R.slots)
    (k : ∀ (v : Option Value) (T' : State) (h' : Heap), St p l e R s m args below meth c n0 T' h' (cells + rm.cells) (slots + rm.slots) → Q v h' → Con p e below T' (mkF m (pc + 3) Ls (v.toList ++ rest)) P) : Con p e below T (mkF m pc Ls st) P := by
  obtain ⟨locs, X, e0, N, Z0⟩ := S
  obtain ⟨hx, hZ, hby, hown, hml, -⟩ := C
  obtain ⟨v, vm1, ⟨T', L', k', n'⟩, -, X', ⟨Lc, hQ, l1, y1, z1⟩, stp⟩ := Jvm.LawKit.callS X hx (y := y) hown (mvT hZ w1) (mvT hZ w2) (mvT hZ w3) (mvT hZ w4) hy (backOf (W := W) (Q := fun v h L => Fr n0 L ∧ n0 ≤ h.size ∧ Q v h) hM hZ w4 w3 hf hl) (g := mkF m pc Ls st) rfl (by rw [hml]; exact hsz) (argsL := argsL) (rest := rest) (lenOf pd hn) hst (by show 2 * 0 + _ ≤ _; omega) (hb hby hd) (fun _ _ => ⟨ha, e0, hc, hs⟩)
  dsimp only [Pt.U, Pt.locs, Pt.cells, Pt.slots] at X' l1 y1 z1 stp hQ
  subst l1 y1 z1
  exact via stp (k v T' _ ⟨_, X', rfl, Fr.app N hQ.1, hQ.2.1⟩ hQ.2.2)
theorem own_callI (S : St p l e R s m args below meth c n0 T h cells slots) (C : Cx p s Z m meth c bytes own maxL ret nm) {y : MethodName} {yb : ByteArray} {yL : Nat} {rm : Room} {idx : Nat} (hy1 : y.name = "<init>") (w1 : (Jvm.Cond.methodLink own idx y).before a0 Z = true) (w2 : (Jvm.Cond.instanceMethod y).before a0 Z = true) (w3 : (Jvm.Cond.initialized y.cls).before a0 Z = true) (w4 : (Jvm.Cond.code y yb yL none).before a0 Z = true)
    (hy : y.cls ≠ "java/lang/invoke/MethodHandle" ∧ y.cls ≠ "java/lang/invoke/VarHandle") {as : Array Value} (hM : Mt l Z y yb yL none [] rm as h n0 Q) (W : Nat) (hf : rm.frames + 1 ≤ R.frames) (hl : W + (yL + 11) + rm.locals ≤ R.locals) {ps : List FieldType} {r : Option FieldType} (pd : parseMethodDescriptor y.desc = some ⟨ps, r⟩) (a : Addr) (argsL rest : List Value) (hn : argsL.length = ps.length) (ha : (.ref a :: argsL).toArray = as)
    (hst : st = argsL.reverse ++ .ref a :: rest) (hW : (rest.map fun v => v.category).sum ≤ W) (hsz : Ls.size = maxL) (hd : decode bytes pc = .ok (.invokespecial idx, 3)) (hc : cells + rm.cells ≤ R.cells) (hs : slots + rm.slots ≤ R.slots)
    (k : ∀ (v : Option Value) (T' : State) (h' : Heap), St p l e R s m args below meth c n0 T' h' (cells + rm.cells) (slots + rm.slots) → Q v h' → Con p e below T' (mkF m (pc + 3) Ls (v.toList ++ rest)) P) : Con p e below T (mkF m pc Ls st) P := by
  obtain ⟨locs, X, e0, N, Z0⟩ := S
  obtain ⟨hx, hZ, hby, hown, hml, -⟩ := C
  obtain ⟨v, vm1, ⟨T', L', k', n'⟩, -, X', ⟨Lc, hQ, l1, y1, z1⟩, stp⟩ := X.specialBack hx (y := y) hy1 hown (mvT hZ w1) (mvT hZ w2) (mvT hZ w4) hy (backOf (W := W) (Q := fun v h L => Fr n0 L ∧ n0 ≤ h.size ∧ Q v h) hM hZ w4 w3 hf hl) (g := mkF m pc Ls st) rfl (by rw [hml]; exact hsz) (Steps.refl _) (a := a) (argsL := argsL) (rest := rest) (lenOf pd hn) hst (by show 2 * 0 + _ ≤ _; omega) (hb hby hd) (fun _ _ => ⟨ha, e0, hc, hs⟩)
  dsimp only [Pt.U, Pt.locs, Pt.cells, Pt.slots] at X' l1 y1 z1 stp hQ
  subst l1 y1 z1
  exact via (fun t z => stp.trans z) (k v T' _ ⟨_, X', rfl, Fr.app N hQ.1, hQ.2.1⟩ hQ.2.2)
theorem own_callV (S : St p l e R s m args below meth c n0 T h cells slots) (C : Cx p s Z m meth c bytes own maxL ret nm) {y : MethodName} {yb : ByteArray} {yL : Nat} {yr : Option FieldType} {rm : Room} {idx : Nat} {D : String} (w1 : (Jvm.Cond.methodLink own idx y).before a0 Z = true) (w2 : (Jvm.Cond.declares y).before a0 Z = true) (w3 : (Jvm.Cond.selects D y y).before a0 Z = true) (w4 : (Jvm.Cond.instanceMethod y).before a0 Z = true) (w5 : (Jvm.Cond.initialized y.cls).before a0 Z = true) (w6 : (Jvm.Cond.code y yb yL yr).before a0 Z = true)
    (hy : y.cls ≠ "java/lang/invoke/MethodHandle" ∧ y.cls ≠ "java/lang/invoke/VarHandle") {a : Addr} (E : Exa Z h a D) {as : Array Value} (hM : Mt l Z y yb yL yr [] rm as h n0 Q) (W : Nat) (hf : rm.frames + 1 ≤ R.frames) (hl : W + (yL + 11) + rm.locals ≤ R.locals) {ps : List FieldType} {r : Option FieldType} (pd : parseMethodDescriptor y.desc = some ⟨ps, r⟩) (argsL rest : List Value) (hn : argsL.length = ps.length) (ha : (.ref a :: argsL).toArray = as)
    (hst : st = argsL.reverse ++ .ref a :: rest) (hW : (rest.map fun v => v.category).sum ≤ W) (hsz : Ls.size = maxL) (hd : decode bytes pc = .ok (.invokevirtual idx, 3)) (hc : cells + rm.cells ≤ R.cells) (hs : slots + rm.slots ≤ R.slots)
    (k : ∀ (v : Option Value) (T' : State) (h' : Heap), St p l e R s m args below meth c n0 T' h' (cells + rm.cells) (slots + rm.slots) → Q v h' → Con p e below T' (mkF m (pc + 3) Ls (v.toList ++ rest)) P) : Con p e below T (mkF m pc Ls st) P := by
  obtain ⟨locs, X, e0, N, Z0⟩ := S
  obtain ⟨hx, hZ, hby, hown, hml, -⟩ := C
  obtain ⟨cq, kq, qa, qb, qc⟩ := isOf hZ e0 E
  obtain ⟨v, vm1, ⟨T', L', k', n'⟩, -, X', ⟨Lc, hQ, l1, y1, z1⟩, stp⟩ := X.virtualBack hx (y := y) (z := y) hown (mvT hZ w1) (mvT hZ w2) (notFace_of_selects (args := #[]) (mvT hZ w3)) (mvT hZ w3) (mvT hZ w4) hy (backOf (W := W) (Q := fun v h L => Fr n0 L ∧ n0 ≤ h.size ∧ Q v h) hM hZ w6 w5 hf hl) qa qc (g := mkF m pc Ls st) rfl (by rw [hml]; exact hsz) (Steps.refl _) (argsL := argsL) (rest := rest) (lenOf pd hn) hst (by show 2 * 0 + _ ≤ _; omega) (hb hby hd) (fun _ _ => ⟨ha, e0, hc, hs⟩)
  dsimp only [Pt.U, Pt.locs, Pt.cells, Pt.slots] at X' l1 y1 z1 stp hQ
  subst l1 y1 z1
  exact via (fun t z => stp.trans z) (k v T' _ ⟨_, X', rfl, Fr.app N hQ.1, hQ.2.1⟩ hQ.2.2)
theorem own_callU (S : St p l e R s m args below meth c n0 T h cells slots) (C : Cx p s Z m meth c bytes own maxL ret nm) {y z : MethodName} {yb : ByteArray} {yL : Nat} {yr : Option FieldType} {rm : Room} {idx : Nat} {D O : String} (w1 : (Jvm.Cond.methodLink own idx y).before a0 Z = true) (ws : (Jvm.Cond.sameMethod y.cls O y.name y.desc).before a0 Z = true) (w2 : (Jvm.Cond.declares ⟨O, y.name, y.desc⟩).before a0 Z = true) (w3 : (Jvm.Cond.selects D y z).before a0 Z = true) (w4 : (Jvm.Cond.instanceMethod z).before a0 Z = true) (w5 : (Jvm.Cond.initialized z.cls).before a0 Z = true) (w6 : (Jvm.Cond.code z yb yL yr).before a0 Z = true)
    (hy : O ≠ "java/lang/invoke/MethodHandle" ∧ O ≠ "java/lang/invoke/VarHandle") {a : Addr} (E : Exa Z h a D) {as : Array Value} (hM : Mt l Z z yb yL yr [] rm as h n0 Q) (W : Nat) (hf : rm.frames + 1 ≤ R.frames) (hl : W + (yL + 11) + rm.locals ≤ R.locals) {ps : List FieldType} {r : Option FieldType} (pd : parseMethodDescriptor y.desc = some ⟨ps, r⟩) (argsL rest : List Value) (hn : argsL.length = ps.length) (ha : (.ref a :: argsL).toArray = as)
    (hst : st = argsL.reverse ++ .ref a :: rest) (hW : (rest.map fun v => v.category).sum ≤ W) (hsz : Ls.size = maxL) (hd : decode bytes pc = .ok (.invokevirtual idx, 3)) (hc : cells + rm.cells ≤ R.cells) (hs : slots + rm.slots ≤ R.slots)
    (k : ∀ (v : Option Value) (T' : State) (h' : Heap), St p l e R s m args below meth c n0 T' h' (cells + rm.cells) (slots + rm.slots) → Q v h' → Con p e below T' (mkF m (pc + 3) Ls (v.toList ++ rest)) P) : Con p e below T (mkF m pc Ls st) P := by
  obtain ⟨locs, X, e0, N, Z0⟩ := S
  obtain ⟨hx, hZ, hby, hown, hml, -⟩ := C
  obtain ⟨cq, kq, qa, qb, qc⟩ := isOf hZ e0 E
  obtain ⟨v, vm1, ⟨T', L', k', n'⟩, -, X', ⟨Lc, hQ, l1, y1, z1⟩, stp⟩ := X.virtualBackUp hx (x := y) (y := z) (owner := O) hown (mvT hZ w1) (mvT hZ ws) (mvT hZ w2) hy (mvT hZ w3) (mvT hZ w4) (backOf (W := W) (Q := fun v h L => Fr n0 L ∧ n0 ≤ h.size ∧ Q v h) hM hZ w6 w5 hf hl) qa qc (g := mkF m pc Ls st) rfl (by rw [hml]; exact hsz) (Steps.refl _) (argsL := argsL) (rest := rest) (lenOf pd hn) hst (by show 2 * 0 + _ ≤ _; omega) (hb hby hd) (fun _ _ => ⟨ha, e0, hc, hs⟩)
  dsimp only [Pt.U, Pt.locs, Pt.cells, Pt.slots] at X' l1 y1 z1 stp hQ
  subst l1 y1 z1
  exact via (fun t z => stp.trans z) (k v T' _ ⟨_, X', rfl, Fr.app N hQ.1, hQ.2.1⟩ hQ.2.2)
/-! objects -/
theorem own_new (S : St p l e R s m args below meth c n0 T h cells slots) (C : Cx p s Z m meth c bytes own maxL ret nm) {D : String} {idx n : Nat} (w1 : (Jvm.Cond.classLink own idx D).before a0 Z = true) (w2 : (Jvm.Cond.instantiable D n).before a0 Z = true) (w3 : (Jvm.Cond.initialized D).before a0 Z = true) (hd : decode bytes pc = .ok (.new idx, 3)) (hc : cells + 1 ≤ R.cells) (hs : slots + n ≤ R.slots)
    (k : ∀ (T' : State) (h' : Heap) (a : Addr), a = h.size → St p l e R s m args below meth c n0 T' h' (cells + 1) (slots + n) → Ext h h' → n0 ≤ a → Exa Z h' a D → (∀ {O nm d : String} {ty : FieldType}, Laid Z a0 D O nm d → parseFieldDescriptor d = some ty → Fld Z h' a O nm d (defaultValue ty)) → Con p e below T' (mkF m (pc + 3) Ls (.ref a :: st)) P) : Con p e below T (mkF m pc Ls st) P := by
  obtain ⟨locs, X, e0, N, Z0⟩ := S
  obtain ⟨hx, hZ, hby, hown, -⟩ := C
  obtain ⟨T', h', X', e', E, A, D', -, stp⟩ := newO X hx hZ hown w1 w2 w3 e0 (g := mkF m pc Ls st) rfl (hb hby hd) hc hs
  exact via stp (k T' h' h.size rfl ⟨locs, X', e', N, Nat.le_trans Z0 E.1⟩ E Z0 A D')
theorem own_getf (S : St p l e R s m args below meth c n0 T h cells slots) (C : Cx p s Z m meth c bytes own maxL ret nm) {O f d : String} {idx : Nat} (w : (Jvm.Cond.fieldLink own idx O f d).before a0 Z = true) {a : Addr} {v : Value} (F : Fld Z h a O f d v) (hd : decode bytes pc = .ok (.getfield idx, 3))
    (k : ∀ T' : State, St p l e R s m args below meth c n0 T' h cells slots → Con p e below T' (mkF m (pc + 3) Ls (v :: st)) P) : Con p e below T (mkF m pc Ls (.ref a :: st)) P := by
  obtain ⟨locs, X, e0, N, Z0⟩ := S
  obtain ⟨hx, hZ, hby, hown, -⟩ := C
  obtain ⟨T', X', e', stp⟩ := getF X hx hZ hown (host := "") (Or.inl w) Via.refl e0 F (g := mkF m pc Ls (.ref a :: st)) rfl rfl (hb hby hd)
  exact via stp (k T' ⟨locs, X', e', N, Z0⟩)
theorem own_putf (S : St p l e R s m args below meth c n0 T h cells slots) (C : Cx p s Z m meth c bytes own maxL ret nm) {O f d D : String} {idx kk : Nat} {ty : FieldType} (w : (Jvm.Cond.fieldLink own idx O f d).before a0 Z = true) {a : Addr} {v old : Value} (F : Fld Z h a O f d old) (E : Exa Z h a D) (L : (Jvm.Cond.lays D O f d).before a0 Z = true ∨ ((Jvm.Cond.laysFinal D O f d).before a0 Z = true ∧ own = O ∧ nm = "<init>")) (wi : (Jvm.Cond.instantiable D kk).before a0 Z = true) (hty : parseFieldDescriptor d = some ty) (hn : narrow ty v = v) (hf : fits ty v = true) (ge : n0 ≤ a) (hd : decode bytes pc = .ok (.putfield idx, 3))
    (k : ∀ (T' : State) (h' : Heap), St p l e R s m args below meth c n0 T' h' cells slots → Wr h h' a (Jvm.RoadKit.slotOf Z O f d) v → Con p e below T' (mkF m (pc + 3) Ls st) P) : Con p e below T (mkF m pc Ls (v :: .ref a :: st)) P := by
  obtain ⟨locs, X, e0, N, Z0⟩ := S
  obtain ⟨hx, hZ, hby, hown, -, -, -, hnm⟩ := C
  obtain ⟨T', h', X', e', W, stp⟩ := putF X hx hZ hown (host := "") (Or.inl w) Via.refl e0 F E (L.imp id fun q => ⟨q.1, q.2.1, hnm.trans q.2.2⟩) wi hty hn hf (g := mkF m pc Ls (v :: .ref a :: st)) rfl rfl (hb hby hd)
  exact via stp (k T' h' ⟨_, X', e', Fr.snoc X' N ge, Nat.le_trans Z0 (Keep.of_wr W).1⟩ W)
end OwnKit2
section OwnKit3
variable {p : Program} {l : Launch} {e : Env} {R : Room} {s : State} {m : MethodId} {args : Array Value} {below : List Frame} {meth : Method} {c : Code} {T : State} {h h' : Heap} {cells slots n0 : Nat} {Z : State} {a0 : Array Value} {bytes : ByteArray} {own : String} {maxL : Nat} {ret : Option FieldType} {nm : String} {P : State → Outcome → Prop} {pc pc' : Nat} {Ls Ls' : Array Slot} {st : List Value}
/-- a slot that holds nothing or one word -/
def Sl (o : Slot) : Prop := o = .unset ∨ ∃ w : Value, o = .val w ∧ w.category = 1
theorem Sl.i (x : Int32) : Sl (.val (.int x)) := Or.inr ⟨_, rfl, rfl⟩
theorem Sl.u : Sl .unset := Or.inl rfl
theorem own_istoreG (S : St p l e R s m args below meth c n0 T h cells slots) (C : Cx p s Z m meth c bytes own maxL ret nm) {k : Nat} {x : Int32} {o : Slot} (ho : Sl o) (hd : decode bytes pc = .ok (.istore k, 2)) (hold : Ls[k]? = some o) (hL : Ls.setIfInBounds k (.val (.int x)) = Ls')
    (q : Con p e below T (mkF m (pc + 2) Ls' st) P) : Con p e below T (mkF m pc Ls (.int x :: st)) P := by
  obtain ⟨locs, X, -⟩ := S
  obtain ⟨hx, -, hby, -⟩ := C
  subst hL
  exact via (fun t z => XS.istoreS X.here hx rfl (hb hby hd) rfl hold ho z) q
theorem own_istoreGN (S : St p l e R s m args below meth c n0 T h cells slots) (C : Cx p s Z m meth c bytes own maxL ret nm) {k : Fin 4} {x : Int32} {o : Slot} (ho : Sl o) (hd : decode bytes pc = .ok (.istore_n k, 1)) (hold : Ls[k.val]? = some o) (hL : Ls.setIfInBounds k.val (.val (.int x)) = Ls')
    (q : Con p e below T (mkF m (pc + 1) Ls' st) P) : Con p e below T (mkF m pc Ls (.int x :: st)) P := by
  obtain ⟨locs, X, -⟩ := S
  obtain ⟨hx, -, hby, -⟩ := C
  subst hL
  exact via (fun t z => XS.istoreNS X.here hx rfl (hb hby hd) rfl hold ho z) q
theorem own_ne {a b : Addr} (l : a < h.size) (e : b = h.size) : a ≠ b := by rw [e]; exact Nat.ne_of_lt l
theorem own_nl {a b : Addr} (l : a < h.size) (e : b = h.size) : @LT.lt Nat _ a b := by rw [e]; exact l
theorem St.size (S : St p l e R s m args below meth c n0 T h cells slots) : n0 ≤ h.size := by obtain ⟨_, _, _, _, q⟩ := S; exact q
end OwnKit3
section OwnKit4
variable {p : Program} {l : Launch} {e : Env} {R : Room} {s : State} {m : MethodId} {args : Array Value} {below : List Frame} {meth : Method} {c : Code} {T : State} {h h' : Heap} {cells slots n0 : Nat} {Z : State} {a0 : Array Value} {bytes : ByteArray} {own : String} {maxL : Nat} {ret : Option FieldType} {nm : String} {P : State → Outcome → Prop} {pc pc' : Nat} {Ls : Array Slot} {st : List Value}
theorem own_initO (S : St p l e R s m args below meth c n0 T h cells slots) (C : Cx p s Z m meth c bytes own maxL ret nm) {idx : Nat} (w1 : (Jvm.Cond.methodLink own idx Lib.objectInit).before a0 Z = true) (w2 : (Jvm.Cond.instanceMethod Lib.objectInit).before a0 Z = true) (w3 : (Jvm.Cond.code Lib.objectInit object_method_1_code 1 none).before a0 Z = true) {a : Addr} (hd : decode bytes pc = .ok (.invokespecial idx, 3)) (hf : 1 ≤ R.frames) (hsz : Ls.size = maxL) (W : Nat) (hW : (st.map fun v => v.category).sum ≤ W) (hl : W + 12 ≤ R.locals)
    (k : ∀ T' : State, St p l e R s m args below meth c n0 T' h cells slots → Con p e below T' (mkF m (pc + 3) Ls st) P) : Con p e below T (mkF m pc Ls (.ref a :: st)) P := by
  obtain ⟨locs, X, e0, N, Z0⟩ := S
  obtain ⟨hx, hZ, hby, hown, hml, -⟩ := C
  obtain ⟨T', X', e', stp⟩ := initO X hx hZ hown w1 w2 w3 e0 (g := mkF m pc Ls (.ref a :: st)) rfl (by rw [hml]; exact hsz) rfl (hb hby hd) hf (W := W) (by show 2 * 0 + _ ≤ _; omega) hl
  exact via stp (k T' ⟨locs, X', e', N, Z0⟩)
end OwnKit4
/-! numbers -/
theorem own_toInt (x : Int32) : x.toInt = x.toBitVec.toInt := rfl
theorem own_and_le (x m : Int32) (hm : 0 ≤ m.toInt) : 0 ≤ (x &&& m).toInt ∧ (x &&& m).toInt ≤ m.toInt := by
  have h1 : (x &&& m).toBitVec.toNat ≤ m.toBitVec.toNat := by rw [Int32.toBitVec_and, BitVec.toNat_and]; exact Nat.and_le_right
  have h2 := (x &&& m).toBitVec.isLt
  have h3 := m.toBitVec.isLt
  rw [own_toInt, BitVec.toInt_eq_toNat_cond] at hm ⊢
  rw [own_toInt m, BitVec.toInt_eq_toNat_cond]
  split at hm
  · rw [if_pos (by omega), if_pos (by omega)]; omega
  · omega
theorem own_add {x y : Int32} (h1 : -2147483648 ≤ x.toInt + y.toInt) (h2 : x.toInt + y.toInt < 2147483648) : (x + y).toInt = x.toInt + y.toInt := by
  rw [Int32.toInt_add]; exact Int.bmod_eq_of_le (by omega) (by omega)
theorem own_sub {x y : Int32} (h1 : -2147483648 ≤ x.toInt - y.toInt) (h2 : x.toInt - y.toInt < 2147483648) : (x - y).toInt = x.toInt - y.toInt := by
  rw [Int32.toInt_sub]; exact Int.bmod_eq_of_le (by omega) (by omega)
theorem own_div {x y : Int32} (hx : 0 ≤ x.toInt) (hy : 0 < y.toInt) : (x / y).toInt = x.toInt / y.toInt := by
  have h1 := x.toInt_lt
  have h2 : x.toInt / y.toInt ≤ x.toInt := Int.ediv_le_self _ hx
  have h3 : 0 ≤ x.toInt / y.toInt := Int.ediv_nonneg hx (by omega)
  rw [Int32.toInt_div, Int.tdiv_eq_ediv_of_nonneg hx]
  exact Int.bmod_eq_of_le (by omega) (by omega)
theorem own_rem {x y : Int32} (hx : 0 ≤ x.toInt) (hy : 0 < y.toInt) : (x - x / y * y).toInt = x.toInt % y.toInt := by
  have h1 := x.toInt_lt
  have hd := own_div hx hy
  have e1 : x.toInt / y.toInt * y.toInt + x.toInt % y.toInt = x.toInt := Int.ediv_mul_add_emod _ _
  have h3 : 0 ≤ x.toInt % y.toInt := Int.emod_nonneg _ (by omega)
  have h4 : 0 ≤ x.toInt / y.toInt := Int.ediv_nonneg hx (by omega)
  have h5 : 0 ≤ x.toInt / y.toInt * y.toInt := Int.mul_nonneg h4 (by omega)
  have hm : (x / y * y).toInt = x.toInt / y.toInt * y.toInt := by
    rw [Int32.toInt_mul, hd]; exact Int.bmod_eq_of_le (by omega) (by omega)
  rw [own_sub (by rw [hm]; omega) (by rw [hm]; omega), hm]; omega
theorem own_ofNat {x : Int32} (h : 0 ≤ x.toInt) : x = Int32.ofNat x.toInt.toNat := by
  apply Int32.toInt_inj.mp
  have := x.toInt_lt
  rw [Int32.toInt_ofNat_of_lt (by omega)]; omega
theorem own_n2 {n : Nat} (h : n < 2147483648) : (Int32.ofNat n).toInt = (n : Int) := Int32.toInt_ofNat_of_lt h
theorem own_n3 {n : Nat} (h : n < 2147483648) : (Int32.ofNat n).toNatClampNeg = n := by
  rw [show (Int32.ofNat n).toNatClampNeg = (Int32.ofNat n).toInt.toNat from rfl, own_n2 h]; rfl
theorem own_succ (n : Nat) : Int32.ofNat n + (1 : Int32) = Int32.ofNat (n + 1) := (Int32.ofNat_add n 1).symm
theorem own_ushr (x k : Int32) (n : Nat) (hk : (k &&& 31).toUInt32.toNat = n) (h1 : 1 ≤ n) (h2 : n < 32) : 0 ≤ (XT.ushr x k).toInt ∧ (XT.ushr x k).toInt < 2 ^ (32 - n) := by
  have e : (XT.ushr x k).toBitVec.toNat = x.toUInt32.toNat >>> n := by
    show (x.toUInt32 >>> (k &&& 31).toUInt32).toNat = _
    rw [UInt32.toNat_shiftRight, hk, Nat.mod_eq_of_lt h2]
  have hx := x.toUInt32.toNat_lt
  have hb : x.toUInt32.toNat >>> n < 2 ^ (32 - n) := by
    rw [Nat.shiftRight_eq_div_pow]
    apply Nat.div_lt_of_lt_mul
    rw [← Nat.pow_add, show n + (32 - n) = 32 by omega]; exact hx
  have hp : 2 ^ (32 - n) ≤ 2 ^ 31 := Nat.pow_le_pow_right (by decide) (by omega)
  rw [own_toInt, BitVec.toInt_eq_toNat_cond, e, if_pos (by omega)]
  exact ⟨Int.natCast_nonneg _, by exact_mod_cast hb⟩
theorem ef_ihinit (m : MethodId) (a : Addr) (mb : Addr) (sz : Int32) : entryFrame m #[(.ref a), (.ref mb), (.int sz), .null] 4 = mkF m 0 #[.val (.ref a), .val (.ref mb), .val (.int sz), .val .null] [] := by first | (simp [entryFrame, mkF, argsToLocals, Value.category]; done) | rfl
theorem pn_ihinit : plainFor (⟨"com/example/holdfast/holdfast/fill/IndexHeap", "<init>", "([II[I)V"⟩ : MethodName) = true := by first | (exact plainFor_of_name (by first | (simp [plainName, overriddenIn]; done) | decide +kernel)) | decide +kernel
set_option maxRecDepth 65536 in
set_option maxHeartbeats 40000000 in
theorem rm_ihinit (l : Launch) (Z : State) (a0 : Array Value) (hw : ∀ d ∈ tables_1, d.before a0 Z = true) (ws : List Jvm.Cond) (a : Addr) (mb : Addr) (sz : Int32) (h : Heap) (n0 : Nat) (Z0 : n0 ≤ h.size) (ga : n0 ≤ a) (E : Exa Z h a "com/example/holdfast/holdfast/fill/MemberHeap") (F1 : Fld Z h a "com/example/holdfast/holdfast/fill/IndexHeap" "heap" "[I" .null) (F2 : Fld Z h a "com/example/holdfast/holdfast/fill/IndexHeap" "size" "I" (.int 0)) (F3 : Fld Z h a "com/example/holdfast/holdfast/fill/IndexHeap" "places" "[I" .null) (F4 : Fld Z h a "com/example/holdfast/holdfast/fill/MemberHeap" "counts" "[I" .null) (F5 : Fld Z h a "com/example/holdfast/holdfast/fill/MemberHeap" "mostFirst" "Z" (.int 0)) :
    Mt l Z (⟨"com/example/holdfast/holdfast/fill/IndexHeap", "<init>", "([II[I)V"⟩ : MethodName) prog_50_method_1_code 4 none ws ({ frames := 1, cells := 0, slots := 0, locals := 12 } : Room) #[(.ref a), (.ref mb), (.int sz), .null] h n0 (fun v h' => v = none ∧ Keep h h' [a] ∧ Exa Z h' a "com/example/holdfast/holdfast/fill/MemberHeap" ∧ Fld Z h' a "com/example/holdfast/holdfast/fill/IndexHeap" "size" "I" (.int sz) ∧ Fld Z h' a "com/example/holdfast/holdfast/fill/MemberHeap" "counts" "[I" .null ∧ Fld Z h' a "com/example/holdfast/holdfast/fill/MemberHeap" "mostFirst" "Z" (.int 0)) := by
  refine Mt.of (own := "com/example/holdfast/holdfast/fill/IndexHeap") (nm := "<init>") pn_ihinit Z0 (Ls := #[.val (.ref a), .val (.ref mb), .val (.int sz), .val .null]) (fun m => ef_ihinit m a mb sz) rfl rfl (fun p e s m below meth c T C S => ?_)
  refine own_run S C [.aload_n 0] (pc' := 1) (Ls' := #[.val (.ref a), .val (.ref mb), .val (.int sz), .val .null]) (st' := [(.ref a)]) (by decide +kernel) rfl ?_
  refine own_initO S C (hw _ (List.mem_of_getElem? (i := 12) rfl)) (hw _ (List.mem_of_getElem? (i := 13) rfl)) (hw _ (List.mem_of_getElem? (i := 14) rfl)) (by decide +kernel) (by decide) rfl 0 (Nat.le_of_eq rfl) (by decide) (fun T1 S1 => ?_)
  refine own_run S1 C [.aload_n 0, .aload_n 1] (pc' := 6) (Ls' := #[.val (.ref a), .val (.ref mb), .val (.int sz), .val .null]) (st' := [(.ref mb), (.ref a)]) (by decide +kernel) rfl ?_
  refine own_putf S1 C (hw _ (List.mem_of_getElem? (i := 15) rfl)) F1 E (Or.inl (hw _ (List.mem_of_getElem? (i := 16) rfl))) (hw _ (List.mem_of_getElem? (i := 2) rfl)) (ty := (.array .int)) (by decide) rfl rfl ga (by decide +kernel) (fun T2 h2 S2 W2 => ?_)
  have Fheap_2 := F1.same W2
  have Fsize_2 := F2.other W2 (Or.inr (slot_ne (Or.inl (hw _ (List.mem_of_getElem? (i := 18) rfl))) (Or.inl (hw _ (List.mem_of_getElem? (i := 16) rfl))) (by decide) (t := .int) (t' := (.array .int)) (by decide) (by decide)))
  have Fplaces_2 := F3.other W2 (Or.inr (slot_ne (Or.inl (hw _ (List.mem_of_getElem? (i := 20) rfl))) (Or.inl (hw _ (List.mem_of_getElem? (i := 16) rfl))) (by decide) (t := (.array .int)) (t' := (.array .int)) (by decide) (by decide)))
  have Fcounts_2 := F4.other W2 (Or.inr (slot_ne (Or.inr (hw _ (List.mem_of_getElem? (i := 22) rfl))) (Or.inl (hw _ (List.mem_of_getElem? (i := 16) rfl))) (by decide) (t := (.array .int)) (t' := (.array .int)) (by decide) (by decide)))
  have FmostFirst_2 := F5.other W2 (Or.inr (slot_ne (Or.inr (hw _ (List.mem_of_getElem? (i := 24) rfl))) (Or.inl (hw _ (List.mem_of_getElem? (i := 16) rfl))) (by decide) (t := .boolean) (t' := (.array .int)) (by decide) (by decide)))
  have E_2 := E.wr W2
  refine own_run S2 C [.aload_n 0, .iload_n 2] (pc' := 11) (Ls' := #[.val (.ref a), .val (.ref mb), .val (.int sz), .val .null]) (st' := [(.int sz), (.ref a)]) (by decide +kernel) rfl ?_
  refine own_putf S2 C (hw _ (List.mem_of_getElem? (i := 17) rfl)) Fsize_2 E_2 (Or.inl (hw _ (List.mem_of_getElem? (i := 18) rfl))) (hw _ (List.mem_of_getElem? (i := 2) rfl)) (ty := .int) (by decide) rfl rfl ga (by decide +kernel) (fun T3 h3 S3 W3 => ?_)
  have Fheap_3 := Fheap_2.other W3 (Or.inr (slot_ne (Or.inl (hw _ (List.mem_of_getElem? (i := 16) rfl))) (Or.inl (hw _ (List.mem_of_getElem? (i := 18) rfl))) (by decide) (t := (.array .int)) (t' := .int) (by decide) (by decide)))
  have Fsize_3 := Fsize_2.same W3
  have Fplaces_3 := Fplaces_2.other W3 (Or.inr (slot_ne (Or.inl (hw _ (List.mem_of_getElem? (i := 20) rfl))) (Or.inl (hw _ (List.mem_of_getElem? (i := 18) rfl))) (by decide) (t := (.array .int)) (t' := .int) (by decide) (by decide)))
  have Fcounts_3 := Fcounts_2.other W3 (Or.inr (slot_ne (Or.inr (hw _ (List.mem_of_getElem? (i := 22) rfl))) (Or.inl (hw _ (List.mem_of_getElem? (i := 18) rfl))) (by decide) (t := (.array .int)) (t' := .int) (by decide) (by decide)))
  have FmostFirst_3 := FmostFirst_2.other W3 (Or.inr (slot_ne (Or.inr (hw _ (List.mem_of_getElem? (i := 24) rfl))) (Or.inl (hw _ (List.mem_of_getElem? (i := 18) rfl))) (by decide) (t := .boolean) (t' := .int) (by decide) (by decide)))
  have E_3 := E_2.wr W3
  refine own_run S3 C [.aload_n 0, .aload_n 3] (pc' := 16) (Ls' := #[.val (.ref a), .val (.ref mb), .val (.int sz), .val .null]) (st' := [.null, (.ref a)]) (by decide +kernel) rfl ?_
  refine own_putf S3 C (hw _ (List.mem_of_getElem? (i := 19) rfl)) Fplaces_3 E_3 (Or.inl (hw _ (List.mem_of_getElem? (i := 20) rfl))) (hw _ (List.mem_of_getElem? (i := 2) rfl)) (ty := (.array .int)) (by decide) rfl rfl ga (by decide +kernel) (fun T4 h4 S4 W4 => ?_)
  have Fheap_4 := Fheap_3.other W4 (Or.inr (slot_ne (Or.inl (hw _ (List.mem_of_getElem? (i := 16) rfl))) (Or.inl (hw _ (List.mem_of_getElem? (i := 20) rfl))) (by decide) (t := (.array .int)) (t' := (.array .int)) (by decide) (by decide)))
  have Fsize_4 := Fsize_3.other W4 (Or.inr (slot_ne (Or.inl (hw _ (List.mem_of_getElem? (i := 18) rfl))) (Or.inl (hw _ (List.mem_of_getElem? (i := 20) rfl))) (by decide) (t := .int) (t' := (.array .int)) (by decide) (by decide)))
  have Fplaces_4 := Fplaces_3.same W4
  have Fcounts_4 := Fcounts_3.other W4 (Or.inr (slot_ne (Or.inr (hw _ (List.mem_of_getElem? (i := 22) rfl))) (Or.inl (hw _ (List.mem_of_getElem? (i := 20) rfl))) (by decide) (t := (.array .int)) (t' := (.array .int)) (by decide) (by decide)))
  have FmostFirst_4 := FmostFirst_3.other W4 (Or.inr (slot_ne (Or.inr (hw _ (List.mem_of_getElem? (i := 24) rfl))) (Or.inl (hw _ (List.mem_of_getElem? (i := 20) rfl))) (by decide) (t := .boolean) (t' := (.array .int)) (by decide) (by decide)))
  have E_4 := E_3.wr W4
  exact own_retv S4 C (by decide +kernel) (Nat.zero_le _) (Nat.zero_le _) ⟨rfl, (((Keep.refl h [a]).wr W2 (Or.inl (by simp))).wr W3 (Or.inl (by simp))).wr W4 (Or.inl (by simp)), E_4, Fsize_4, Fcounts_4, FmostFirst_4⟩
theorem ef_order (m : MethodId) (a : Addr) : entryFrame m #[(.ref a)] 2 = mkF m 0 #[.val (.ref a), .unset] [] := by first | (simp [entryFrame, mkF, argsToLocals, Value.category]; done) | rfl
theorem pn_order : plainFor (⟨"com/example/holdfast/holdfast/fill/IndexHeap", "order", "()V"⟩ : MethodName) = true := by first | (exact plainFor_of_name (by first | (simp [plainName, overriddenIn]; done) | decide +kernel)) | decide +kernel
set_option maxRecDepth 65536 in
set_option maxHeartbeats 40000000 in
theorem rm_order (l : Launch) (Z : State) (a0 : Array Value) (hw : ∀ d ∈ tables_1, d.before a0 Z = true) (ws : List Jvm.Cond) (a : Addr) (h : Heap) (n0 : Nat) (Z0 : n0 ≤ h.size) (F : Fld Z h a "com/example/holdfast/holdfast/fill/IndexHeap" "size" "I" (.int 0)) :
    Mt l Z (⟨"com/example/holdfast/holdfast/fill/IndexHeap", "order", "()V"⟩ : MethodName) prog_50_method_3_code 2 none ws ({ frames := 0, cells := 0, slots := 0, locals := 0 } : Room) #[(.ref a)] h n0 (fun v h' => v = none ∧ h' = h) := by
  refine Mt.of (own := "com/example/holdfast/holdfast/fill/IndexHeap") (nm := "order") pn_order Z0 (Ls := #[.val (.ref a), .unset]) (fun m => ef_order m a) rfl rfl (fun p e s m below meth c T C S => ?_)
  refine own_run S C [.iconst 0, .istore_n 1, .iload_n 1, .aload_n 0] (pc' := 4) (Ls' := #[.val (.ref a), .val (.int (0 : Int32))]) (st' := [(.ref a), (.int (0 : Int32))]) (by decide +kernel) rfl ?_
  refine own_getf S C (hw _ (List.mem_of_getElem? (i := 17) rfl)) F (by decide +kernel) (fun T1 S1 => ?_)
  show Con p e below _ (mkF m 7 #[.val (.ref a), .val (.int (0 : Int32))] [(.int (0 : Int32)), (.int (0 : Int32))]) _
  refine own_icmp S1 C (cd := .ge) (o := 20) (by decide +kernel) (pc' := 27) ⟨by decide, by decide⟩ (fun _ => ?_) (fun hc7 => absurd ((hh_ge).2.mp hc7) (show ¬ ((0 : Int) < (0 : Int)) by decide))
  refine own_run S1 C [.aload_n 0] (pc' := 28) (Ls' := #[.val (.ref a), .val (.int (0 : Int32))]) (st' := [(.ref a)]) (by decide +kernel) rfl ?_
  refine own_getf S1 C (hw _ (List.mem_of_getElem? (i := 17) rfl)) F (by decide +kernel) (fun T2 S2 => ?_)
  show Con p e below _ (mkF m 31 #[.val (.ref a), .val (.int (0 : Int32))] [(.int (0 : Int32))]) _
  refine own_run S2 C [.iconst 2, .idiv, .iconst 1, .isub, .istore_n 1, .iload_n 1] (pc' := 37) (Ls' := #[.val (.ref a), .val (.int (((0 : Int32) / (2 : Int32)) - (1 : Int32)))]) (st' := [(.int (((0 : Int32) / (2 : Int32)) - (1 : Int32)))]) (by decide +kernel) rfl ?_
  have hv : ((0 : Int32) / (2 : Int32) - (1 : Int32)) = (-1 : Int32) := by decide
  rw [hv]
  refine own_if S2 C (cd := .lt) (o := 14) (by decide +kernel) (pc' := 51) ⟨by decide, by decide⟩ (fun _ => ?_) (fun hc37 => absurd ((hh_lt).2.mp hc37) (show ¬ ((-1 : Int) ≥ (0 : Int)) by decide))
  exact own_retv S2 C (by decide +kernel) (Nat.zero_le _) (Nat.zero_le _) ⟨rfl, rfl⟩
theorem ef_mhinit (m : MethodId) (a : Addr) (mb : Addr) (cs : Addr) (mf : Int32) : entryFrame m #[(.ref a), (.ref mb), (.int (0 : Int32)), (.ref cs), .null, (.int mf)] 6 = mkF m 0 #[.val (.ref a), .val (.ref mb), .val (.int (0 : Int32)), .val (.ref cs), .val .null, .val (.int mf)] [] := by first | (simp [entryFrame, mkF, argsToLocals, Value.category]; done) | rfl
theorem pn_mhinit : plainFor (⟨"com/example/holdfast/holdfast/fill/MemberHeap", "<init>", "([II[I[IZ)V"⟩ : MethodName) = true := by first | (exact plainFor_of_name (by first | (simp [plainName, overriddenIn]; done) | decide +kernel)) | decide +kernel
set_option maxRecDepth 65536 in
set_option maxHeartbeats 40000000 in
theorem rm_mhinit (l : Launch) (Z : State) (a0 : Array Value) (hw : ∀ d ∈ tables_1, d.before a0 Z = true) (ws : List Jvm.Cond) (a : Addr) (mb : Addr) (cs : Addr) (mf : Int32) (h : Heap) (n0 : Nat) (Z0 : n0 ≤ h.size) (ga : n0 ≤ a) (E : Exa Z h a "com/example/holdfast/holdfast/fill/MemberHeap") (F1 : Fld Z h a "com/example/holdfast/holdfast/fill/IndexHeap" "heap" "[I" .null) (F2 : Fld Z h a "com/example/holdfast/holdfast/fill/IndexHeap" "size" "I" (.int 0)) (F3 : Fld Z h a "com/example/holdfast/holdfast/fill/IndexHeap" "places" "[I" .null) (F4 : Fld Z h a "com/example/holdfast/holdfast/fill/MemberHeap" "counts" "[I" .null) (F5 : Fld Z h a "com/example/holdfast/holdfast/fill/MemberHeap" "mostFirst" "Z" (.int 0)) (hmf : mf = 0 ∨ mf = 1) :
    Mt l Z (⟨"com/example/holdfast/holdfast/fill/MemberHeap", "<init>", "([II[I[IZ)V"⟩ : MethodName) prog_55_method_2_code 6 none ws ({ frames := 2, cells := 0, slots := 0, locals := 27 } : Room) #[(.ref a), (.ref mb), (.int (0 : Int32)), (.ref cs), .null, (.int mf)] h n0 (fun v h' => v = none ∧ Keep h h' [a] ∧ Exa Z h' a "com/example/holdfast/holdfast/fill/MemberHeap" ∧ Fld Z h' a "com/example/holdfast/holdfast/fill/MemberHeap" "counts" "[I" (.ref cs) ∧ Fld Z h' a "com/example/holdfast/holdfast/fill/MemberHeap" "mostFirst" "Z" (.int mf)) := by
  refine Mt.of (own := "com/example/holdfast/holdfast/fill/MemberHeap") (nm := "<init>") pn_mhinit Z0 (Ls := #[.val (.ref a), .val (.ref mb), .val (.int (0 : Int32)), .val (.ref cs), .val .null, .val (.int mf)]) (fun m => ef_mhinit m a mb cs mf) rfl rfl (fun p e s m below meth c T C S => ?_)
  refine own_run S C [.aload_n 0, .aload_n 1, .iload_n 2, .aload 4] (pc' := 5) (Ls' := #[.val (.ref a), .val (.ref mb), .val (.int (0 : Int32)), .val (.ref cs), .val .null, .val (.int mf)]) (st' := [.null, (.int (0 : Int32)), (.ref mb), (.ref a)]) (by decide +kernel) rfl ?_
  refine own_callI S C (y := (⟨"com/example/holdfast/holdfast/fill/IndexHeap", "<init>", "([II[I)V"⟩ : MethodName)) rfl (hw _ (List.mem_of_getElem? (i := 7) rfl)) (hw _ (List.mem_of_getElem? (i := 8) rfl)) (hw _ (List.mem_of_getElem? (i := 10) rfl)) (hw _ (List.mem_of_getElem? (i := 11) rfl)) (by decide) (rm_ihinit l Z a0 hw [] a mb (0 : Int32) h n0 Z0 ga E F1 F2 F3 F4 F5) 0 (by decide) (by decide) (ps := [(.array .int), .int, (.array .int)]) (r := none) (by decide +kernel) a [(.ref mb), (.int (0 : Int32)), .null] [] rfl rfl rfl (Nat.le_of_eq rfl) rfl (by decide +kernel) (by decide) (by decide) (fun v TI hI SI q => ?_)
  obtain ⟨rfl, KI, EI, G2, G4, G5⟩ := q
  show Con p e below _ (mkF m 8 #[.val (.ref a), .val (.ref mb), .val (.int (0 : Int32)), .val (.ref cs), .val .null, .val (.int mf)] []) _
  refine own_run SI C [.aload_n 0, .aload_n 3] (pc' := 10) (Ls' := #[.val (.ref a), .val (.ref mb), .val (.int (0 : Int32)), .val (.ref cs), .val .null, .val (.int mf)]) (st' := [(.ref cs), (.ref a)]) (by decide +kernel) rfl ?_
  refine own_putf SI C (hw _ (List.mem_of_getElem? (i := 21) rfl)) G4 EI (Or.inr ⟨(hw _ (List.mem_of_getElem? (i := 22) rfl)), rfl, rfl⟩) (hw _ (List.mem_of_getElem? (i := 2) rfl)) (ty := (.array .int)) (by decide) rfl rfl ga (by decide +kernel) (fun T1 h1 S1 W1 => ?_)
  have Fsize_1 := G2.other W1 (Or.inr (slot_ne (Or.inl (hw _ (List.mem_of_getElem? (i := 18) rfl))) (Or.inr (hw _ (List.mem_of_getElem? (i := 22) rfl))) (by decide) (t := .int) (t' := (.array .int)) (by decide) (by decide)))
  have Fcounts_1 := G4.same W1
  have FmostFirst_1 := G5.other W1 (Or.inr (slot_ne (Or.inr (hw _ (List.mem_of_getElem? (i := 24) rfl))) (Or.inr (hw _ (List.mem_of_getElem? (i := 22) rfl))) (by decide) (t := .boolean) (t' := (.array .int)) (by decide) (by decide)))
  have E_1 := EI.wr W1
  refine own_run S1 C [.aload_n 0, .iload 5] (pc' := 16) (Ls' := #[.val (.ref a), .val (.ref mb), .val (.int (0 : Int32)), .val (.ref cs), .val .null, .val (.int mf)]) (st' := [(.int mf), (.ref a)]) (by decide +kernel) rfl ?_
  refine own_putf S1 C (hw _ (List.mem_of_getElem? (i := 23) rfl)) FmostFirst_1 E_1 (Or.inr ⟨(hw _ (List.mem_of_getElem? (i := 24) rfl)), rfl, rfl⟩) (hw _ (List.mem_of_getElem? (i := 2) rfl)) (ty := .boolean) (by decide) (by rcases hmf with rfl | rfl <;> rfl) (by rcases hmf with rfl | rfl <;> rfl) ga (by decide +kernel) (fun T2 h2 S2 W2 => ?_)
  have Fsize_2 := Fsize_1.other W2 (Or.inr (slot_ne (Or.inl (hw _ (List.mem_of_getElem? (i := 18) rfl))) (Or.inr (hw _ (List.mem_of_getElem? (i := 24) rfl))) (by decide) (t := .int) (t' := .boolean) (by decide) (by decide)))
  have Fcounts_2 := Fcounts_1.other W2 (Or.inr (slot_ne (Or.inr (hw _ (List.mem_of_getElem? (i := 22) rfl))) (Or.inr (hw _ (List.mem_of_getElem? (i := 24) rfl))) (by decide) (t := (.array .int)) (t' := .boolean) (by decide) (by decide)))
  have FmostFirst_2 := FmostFirst_1.same W2
  have E_2 := E_1.wr W2
  refine own_run S2 C [.aload_n 0] (pc' := 20) (Ls' := #[.val (.ref a), .val (.ref mb), .val (.int (0 : Int32)), .val (.ref cs), .val .null, .val (.int mf)]) (st' := [(.ref a)]) (by decide +kernel) rfl ?_
  have ZI : n0 ≤ h2.size := by obtain ⟨_, _, _, _, q⟩ := S2; exact q
  refine own_callU S2 C (y := (⟨"com/example/holdfast/holdfast/fill/MemberHeap", "order", "()V"⟩ : MethodName)) (z := (⟨"com/example/holdfast/holdfast/fill/IndexHeap", "order", "()V"⟩ : MethodName)) (O := "com/example/holdfast/holdfast/fill/IndexHeap") (hw _ (List.mem_of_getElem? (i := 25) rfl)) (hw _ (List.mem_of_getElem? (i := 26) rfl)) (hw _ (List.mem_of_getElem? (i := 27) rfl)) (hw _ (List.mem_of_getElem? (i := 29) rfl)) (hw _ (List.mem_of_getElem? (i := 28) rfl)) (hw _ (List.mem_of_getElem? (i := 10) rfl)) (hw _ (List.mem_of_getElem? (i := 30) rfl)) (by decide) E_2 (rm_order l Z a0 hw [] a h2 n0 ZI Fsize_2) 0 (by decide) (by decide) (ps := []) (r := none) (by decide +kernel) [] [] rfl rfl rfl (Nat.le_of_eq rfl) rfl (by decide +kernel) (by decide) (by decide) (fun v TO hO SO q => ?_)
  obtain ⟨rfl, hh⟩ := q
  rw [hh] at SO
  show Con p e below _ (mkF m 23 #[.val (.ref a), .val (.ref mb), .val (.int (0 : Int32)), .val (.ref cs), .val .null, .val (.int mf)] []) _
  exact own_retv SO C (by decide +kernel) (by decide) (by decide) ⟨rfl, ((KI.wr W1 (Or.inl (by simp))).wr W2 (Or.inl (by simp))), E_2, Fcounts_2, FmostFirst_2⟩
def own_bf (ca cb i j mf : Int32) : Int32 := if ca.toInt = cb.toInt then (if i.toInt < j.toInt then 1 else 0) else if mf.toInt = 0 then (if ca.toInt < cb.toInt then 1 else 0) else (if cb.toInt < ca.toInt then 1 else 0)
theorem ef_before (m : MethodId) (a : Addr) (i : Int32) (j : Int32) : entryFrame m #[(.ref a), (.int i), (.int j)] 3 = mkF m 0 #[.val (.ref a), .val (.int i), .val (.int j)] [] := by first | (simp [entryFrame, mkF, argsToLocals, Value.category]; done) | rfl
theorem pn_before : plainFor (⟨"com/example/holdfast/holdfast/fill/MemberHeap", "before", "(II)Z"⟩ : MethodName) = true := by first | (exact plainFor_of_name (by first | (simp [plainName, overriddenIn]; done) | decide +kernel)) | decide +kernel
set_option maxRecDepth 65536 in
set_option maxHeartbeats 40000000 in
theorem rm_before (l : Launch) (Z : State) (a0 : Array Value) (hw : ∀ d ∈ tables_1, d.before a0 Z = true) (ws : List Jvm.Cond) (a : Addr) (i : Int32) (j : Int32) (h : Heap) (n0 : Nat) (Z0 : n0 ≤ h.size) (cs : Addr) (mf : Int32) (vs : List Int32) (F4 : Fld Z h a "com/example/holdfast/holdfast/fill/MemberHeap" "counts" "[I" (.ref cs)) (F5 : Fld Z h a "com/example/holdfast/holdfast/fill/MemberHeap" "mostFirst" "Z" (.int mf)) (A1 : Ai Z h cs vs) (hi : 0 ≤ i.toInt ∧ i.toInt < (vs.length : Int)) (hj : 0 ≤ j.toInt ∧ j.toInt < (vs.length : Int)) (ca cb : Int32) (hca : vs.getD i.toNatClampNeg 0 = ca) (hcb : vs.getD j.toNatClampNeg 0 = cb) :
    Mt l Z (⟨"com/example/holdfast/holdfast/fill/MemberHeap", "before", "(II)Z"⟩ : MethodName) prog_55_method_3_code 3 (some .boolean) ws ({ frames := 0, cells := 0, slots := 0, locals := 0 } : Room) #[(.ref a), (.int i), (.int j)] h n0 (fun v h' => v = some (.int (own_bf ca cb i j mf)) ∧ h' = h) := by
  refine Mt.of (own := "com/example/holdfast/holdfast/fill/MemberHeap") (nm := "before") pn_before Z0 (Ls := #[.val (.ref a), .val (.int i), .val (.int j)]) (fun m => ef_before m a i j) rfl rfl (fun p e s m below meth c T C S => ?_)
  refine own_run S C [.aload_n 0] (pc' := 1) (Ls' := #[.val (.ref a), .val (.int i), .val (.int j)]) (st' := [(.ref a)]) (by decide +kernel) rfl ?_
  refine own_getf S C (hw _ (List.mem_of_getElem? (i := 21) rfl)) F4 (by decide +kernel) (fun T1 S1 => ?_)
  show Con p e below _ (mkF m 4 #[.val (.ref a), .val (.int i), .val (.int j)] [(.ref cs)]) _
  refine own_run S1 C [.iload_n 1] (pc' := 5) (Ls' := #[.val (.ref a), .val (.int i), .val (.int j)]) (st' := [(.int i), (.ref cs)]) (by decide +kernel) rfl ?_
  refine own_iaload S1 C A1 (by decide +kernel) (j := i) (v := ca) hi hca ?_
  show Con p e below _ (mkF m 6 #[.val (.ref a), .val (.int i), .val (.int j)] [(.int ca)]) _
  refine own_run S1 C [.aload_n 0] (pc' := 7) (Ls' := #[.val (.ref a), .val (.int i), .val (.int j)]) (st' := [(.ref a), (.int ca)]) (by decide +kernel) rfl ?_
  refine own_getf S1 C (hw _ (List.mem_of_getElem? (i := 21) rfl)) F4 (by decide +kernel) (fun T2 S2 => ?_)
  show Con p e below _ (mkF m 10 #[.val (.ref a), .val (.int i), .val (.int j)] [(.ref cs), (.int ca)]) _
  refine own_run S2 C [.iload_n 2] (pc' := 11) (Ls' := #[.val (.ref a), .val (.int i), .val (.int j)]) (st' := [(.int j), (.ref cs), (.int ca)]) (by decide +kernel) rfl ?_
  refine own_iaload S2 C A1 (by decide +kernel) (j := j) (v := cb) hj hcb ?_
  show Con p e below _ (mkF m 12 #[.val (.ref a), .val (.int i), .val (.int j)] [(.int cb), (.int ca)]) _
  refine own_icmp S2 C (cd := .eq) (o := 54) (by decide +kernel) (pc' := 66) ⟨by decide, by decide⟩ (fun hc12 => ?_) (fun hc12 => ?_)
  · skip
    have k12 : ca.toInt = cb.toInt := (hh_eq).1.mp hc12
    refine own_run S2 C [.iload_n 1, .iload_n 2] (pc' := 68) (Ls' := #[.val (.ref a), .val (.int i), .val (.int j)]) (st' := [(.int j), (.int i)]) (by decide +kernel) rfl ?_
    refine own_icmp S2 C (cd := .ge) (o := 7) (by decide +kernel) (pc' := 75) ⟨by decide, by decide⟩ (fun hc68 => ?_) (fun hc68 => ?_)
    · skip
      have k68 : i.toInt ≥ j.toInt := (hh_ge).1.mp hc68
      refine own_run S2 C [.iconst 0] (pc' := 76) (Ls' := #[.val (.ref a), .val (.int i), .val (.int j)]) (st' := [(.int (0 : Int32))]) (by decide +kernel) rfl ?_
      have hr : own_bf ca cb i j mf = (0 : Int32) := by unfold own_bf; rw [if_pos k12, if_neg (by omega)]
      exact own_retz S2 C (z' := (0 : Int32)) (by decide) (by decide +kernel) (Nat.zero_le _) (Nat.zero_le _) ⟨by rw [hr], rfl⟩
    · skip
      have k68 : i.toInt < j.toInt := (hh_ge).2.mp hc68
      refine own_run S2 C [.iconst 1, .goto 4] (pc' := 76) (Ls' := #[.val (.ref a), .val (.int i), .val (.int j)]) (st' := [(.int (1 : Int32))]) (by decide +kernel) rfl ?_
      have hr : own_bf ca cb i j mf = (1 : Int32) := by unfold own_bf; rw [if_pos k12, if_pos k68]
      exact own_retz S2 C (z' := (1 : Int32)) (by decide) (by decide +kernel) (Nat.zero_le _) (Nat.zero_le _) ⟨by rw [hr], rfl⟩
  · skip
    have k12 : ca.toInt ≠ cb.toInt := (hh_eq).2.mp hc12
    refine own_run S2 C [.aload_n 0] (pc' := 16) (Ls' := #[.val (.ref a), .val (.int i), .val (.int j)]) (st' := [(.ref a)]) (by decide +kernel) rfl ?_
    refine own_getf S2 C (hw _ (List.mem_of_getElem? (i := 23) rfl)) F5 (by decide +kernel) (fun T3 S3 => ?_)
    show Con p e below _ (mkF m 19 #[.val (.ref a), .val (.int i), .val (.int j)] [(.int mf)]) _
    refine own_if S3 C (cd := .eq) (o := 26) (by decide +kernel) (pc' := 45) ⟨by decide, by decide⟩ (fun hc19 => ?_) (fun hc19 => ?_)
    · skip
      have k19 : mf.toInt = (0 : Int) := (hh_eq).1.mp hc19
      refine own_run S3 C [.aload_n 0] (pc' := 46) (Ls' := #[.val (.ref a), .val (.int i), .val (.int j)]) (st' := [(.ref a)]) (by decide +kernel) rfl ?_
      refine own_getf S3 C (hw _ (List.mem_of_getElem? (i := 21) rfl)) F4 (by decide +kernel) (fun T4 S4 => ?_)
      show Con p e below _ (mkF m 49 #[.val (.ref a), .val (.int i), .val (.int j)] [(.ref cs)]) _
      refine own_run S4 C [.iload_n 1] (pc' := 50) (Ls' := #[.val (.ref a), .val (.int i), .val (.int j)]) (st' := [(.int i), (.ref cs)]) (by decide +kernel) rfl ?_
      refine own_iaload S4 C A1 (by decide +kernel) (j := i) (v := ca) hi hca ?_
      show Con p e below _ (mkF m 51 #[.val (.ref a), .val (.int i), .val (.int j)] [(.int ca)]) _
      refine own_run S4 C [.aload_n 0] (pc' := 52) (Ls' := #[.val (.ref a), .val (.int i), .val (.int j)]) (st' := [(.ref a), (.int ca)]) (by decide +kernel) rfl ?_
      refine own_getf S4 C (hw _ (List.mem_of_getElem? (i := 21) rfl)) F4 (by decide +kernel) (fun T5 S5 => ?_)
      show Con p e below _ (mkF m 55 #[.val (.ref a), .val (.int i), .val (.int j)] [(.ref cs), (.int ca)]) _
      refine own_run S5 C [.iload_n 2] (pc' := 56) (Ls' := #[.val (.ref a), .val (.int i), .val (.int j)]) (st' := [(.int j), (.ref cs), (.int ca)]) (by decide +kernel) rfl ?_
      refine own_iaload S5 C A1 (by decide +kernel) (j := j) (v := cb) hj hcb ?_
      show Con p e below _ (mkF m 57 #[.val (.ref a), .val (.int i), .val (.int j)] [(.int cb), (.int ca)]) _
      refine own_icmp S5 C (cd := .ge) (o := 7) (by decide +kernel) (pc' := 64) ⟨by decide, by decide⟩ (fun hc57 => ?_) (fun hc57 => ?_)
      · skip
        have k57 : ca.toInt ≥ cb.toInt := (hh_ge).1.mp hc57
        refine own_run S5 C [.iconst 0] (pc' := 65) (Ls' := #[.val (.ref a), .val (.int i), .val (.int j)]) (st' := [(.int (0 : Int32))]) (by decide +kernel) rfl ?_
        have hr : own_bf ca cb i j mf = (0 : Int32) := by unfold own_bf; rw [if_neg (by omega), if_pos k19, if_neg (by omega)]
        exact own_retz S5 C (z' := (0 : Int32)) (by decide) (by decide +kernel) (Nat.zero_le _) (Nat.zero_le _) ⟨by rw [hr], rfl⟩
      · skip
        have k57 : ca.toInt < cb.toInt := (hh_ge).2.mp hc57
        refine own_run S5 C [.iconst 1, .goto 4] (pc' := 65) (Ls' := #[.val (.ref a), .val (.int i), .val (.int j)]) (st' := [(.int (1 : Int32))]) (by decide +kernel) rfl ?_
        have hr : own_bf ca cb i j mf = (1 : Int32) := by unfold own_bf; rw [if_neg (by omega), if_pos k19, if_pos k57]
        exact own_retz S5 C (z' := (1 : Int32)) (by decide) (by decide +kernel) (Nat.zero_le _) (Nat.zero_le _) ⟨by rw [hr], rfl⟩
    · skip
      have k19 : mf.toInt ≠ (0 : Int) := (hh_eq).2.mp hc19
      refine own_run S3 C [.aload_n 0] (pc' := 23) (Ls' := #[.val (.ref a), .val (.int i), .val (.int j)]) (st' := [(.ref a)]) (by decide +kernel) rfl ?_
      refine own_getf S3 C (hw _ (List.mem_of_getElem? (i := 21) rfl)) F4 (by decide +kernel) (fun T6 S6 => ?_)
      show Con p e below _ (mkF m 26 #[.val (.ref a), .val (.int i), .val (.int j)] [(.ref cs)]) _
      refine own_run S6 C [.iload_n 1] (pc' := 27) (Ls' := #[.val (.ref a), .val (.int i), .val (.int j)]) (st' := [(.int i), (.ref cs)]) (by decide +kernel) rfl ?_
      refine own_iaload S6 C A1 (by decide +kernel) (j := i) (v := ca) hi hca ?_
      show Con p e below _ (mkF m 28 #[.val (.ref a), .val (.int i), .val (.int j)] [(.int ca)]) _
      refine own_run S6 C [.aload_n 0] (pc' := 29) (Ls' := #[.val (.ref a), .val (.int i), .val (.int j)]) (st' := [(.ref a), (.int ca)]) (by decide +kernel) rfl ?_
      refine own_getf S6 C (hw _ (List.mem_of_getElem? (i := 21) rfl)) F4 (by decide +kernel) (fun T7 S7 => ?_)
      show Con p e below _ (mkF m 32 #[.val (.ref a), .val (.int i), .val (.int j)] [(.ref cs), (.int ca)]) _
      refine own_run S7 C [.iload_n 2] (pc' := 33) (Ls' := #[.val (.ref a), .val (.int i), .val (.int j)]) (st' := [(.int j), (.ref cs), (.int ca)]) (by decide +kernel) rfl ?_
      refine own_iaload S7 C A1 (by decide +kernel) (j := j) (v := cb) hj hcb ?_
      show Con p e below _ (mkF m 34 #[.val (.ref a), .val (.int i), .val (.int j)] [(.int cb), (.int ca)]) _
      refine own_icmp S7 C (cd := .le) (o := 7) (by decide +kernel) (pc' := 41) ⟨by decide, by decide⟩ (fun hc34 => ?_) (fun hc34 => ?_)
      · skip
        have k34 : ca.toInt ≤ cb.toInt := (hh_le).1.mp hc34
        refine own_run S7 C [.iconst 0, .goto 23] (pc' := 65) (Ls' := #[.val (.ref a), .val (.int i), .val (.int j)]) (st' := [(.int (0 : Int32))]) (by decide +kernel) rfl ?_
        have hr : own_bf ca cb i j mf = (0 : Int32) := by unfold own_bf; rw [if_neg (by omega), if_neg (by omega), if_neg (by omega)]
        exact own_retz S7 C (z' := (0 : Int32)) (by decide) (by decide +kernel) (Nat.zero_le _) (Nat.zero_le _) ⟨by rw [hr], rfl⟩
      · skip
        have k34 : ca.toInt > cb.toInt := (hh_le).2.mp hc34
        refine own_run S7 C [.iconst 1, .goto 27] (pc' := 65) (Ls' := #[.val (.ref a), .val (.int i), .val (.int j)]) (st' := [(.int (1 : Int32))]) (by decide +kernel) rfl ?_
        have hr : own_bf ca cb i j mf = (1 : Int32) := by unfold own_bf; rw [if_neg (by omega), if_neg (by omega), if_pos k34]
        exact own_retz S7 C (z' := (1 : Int32)) (by decide) (by decide +kernel) (Nat.zero_le _) (Nat.zero_le _) ⟨by rw [hr], rfl⟩
theorem own_cmp0 (d : Int64) : ((XT.cmpL d (0 : Int64)).toInt < 0 ↔ d.toInt < 0) ∧ ((XT.cmpL d (0 : Int64)).toInt = 0 ↔ d.toInt = 0) := by
  have e0 : (0 : Int64).toInt = 0 := rfl
  have e1 : (1 : Int32).toInt = 1 := rfl
  have e2 : (0 : Int32).toInt = 0 := rfl
  have e3 : (-1 : Int32).toInt = -1 := rfl
  have h0 : d = 0 ↔ d.toInt = 0 := by rw [← e0, Int64.toInt_inj]
  have h1 : (0 : Int64) < d ↔ 0 < d.toInt := by rw [Int64.lt_iff_toInt_lt, e0]
  unfold XT.cmpL
  by_cases q1 : (0 : Int64) < d
  · rw [if_pos q1, e1]; have := h1.mp q1; omega
  · rw [if_neg q1]
    have q1' : ¬ 0 < d.toInt := fun z => q1 (h1.mpr z)
    by_cases q2 : d = 0
    · rw [if_pos q2, e2]; have := h0.mp q2; omega
    · rw [if_neg q2, e3]
      have q2' : ¬ d.toInt = 0 := fun z => q2 (h0.mpr z)
      omega
theorem own_dif (a b : Int32) : (a.toInt64 - b.toInt64).toInt = a.toInt - b.toInt := by
  have h1 := a.toInt_lt
  have h2 := a.le_toInt
  have h3 := b.toInt_lt
  have h4 := b.le_toInt
  rw [Int64.toInt_sub, Int32.toInt_toInt64, Int32.toInt_toInt64]
  exact Int.bmod_eq_of_le (by omega) (by omega)
theorem own_neg {d : Int64} (h : -9223372036854775808 < d.toInt) : (-d).toInt = -d.toInt := by
  have h1 := d.toInt_lt
  rw [Int64.toInt_neg]
  exact Int.bmod_eq_of_le (by omega) (by omega)
theorem ef_law (m : MethodId) (x0 : Int32) (x1 : Int32) (x2 : Int32) (x3 : Int32) : entryFrame m #[(.int x0), (.int x1), (.int x2), (.int x3)] maxLocals = mkF m 0 #[.val (.int x0), .val (.int x1), .val (.int x2), .val (.int x3), .unset, .unset, .unset, .unset, .unset, .unset, .unset, .unset, .unset, .unset] [] := by first | (simp [entryFrame, mkF, argsToLocals, Value.category, maxLocals]; done) | rfl
theorem pn_law : plainFor (⟨"com/example/holdfast/holdfast/fill/MemberHeapBeforePinLaw", "law", "(IIII)Z"⟩ : MethodName) = true := by first | (exact plainFor_of_name (by first | (simp [plainName, overriddenIn]; done) | decide +kernel)) | decide +kernel
set_option maxRecDepth 65536 in
set_option maxHeartbeats 40000000 in
theorem rm_law (l : Launch) (Z : State) (a0 : Array Value) (hw : ∀ d ∈ tables_1, d.before a0 Z = true) (ws : List Jvm.Cond) (x0 : Int32) (x1 : Int32) (x2 : Int32) (x3 : Int32) (h : Heap) (n0 : Nat) (Z0 : n0 ≤ h.size) :
    Mt l Z x code maxLocals ret ws room_1 #[(.int x0), (.int x1), (.int x2), (.int x3)] h n0 (fun v _ => v = some (.int 1)) := by
  refine Mt.of (own := "com/example/holdfast/holdfast/fill/MemberHeapBeforePinLaw") (nm := "law") pn_law Z0 (Ls := #[.val (.int x0), .val (.int x1), .val (.int x2), .val (.int x3), .unset, .unset, .unset, .unset, .unset, .unset, .unset, .unset, .unset, .unset]) (fun m => ef_law m x0 x1 x2 x3) rfl rfl (fun p e s m below meth c T C S => ?_)
  refine own_run S C [.iload_n 3, .iconst 3, .iand, .istore 4, .iload_n 3, .iconst 2, .ishr, .iconst 3, .iand, .istore 5, .iload_n 3, .iconst 4, .ishr, .iconst 1] (pc' := 16) (Ls' := #[.val (.int x0), .val (.int x1), .val (.int x2), .val (.int x3), .val (.int (x3 &&& (3 : Int32))), .val (.int ((x3 >>> ((2 : Int32) &&& 31)) &&& (3 : Int32))), .unset, .unset, .unset, .unset, .unset, .unset, .unset, .unset]) (st' := [(.int (1 : Int32)), (.int (x3 >>> ((4 : Int32) &&& 31)))]) (by decide +kernel) rfl ?_
  refine own_run S C [.iand] (pc' := 17) (Ls' := #[.val (.int x0), .val (.int x1), .val (.int x2), .val (.int x3), .val (.int (x3 &&& (3 : Int32))), .val (.int ((x3 >>> ((2 : Int32) &&& 31)) &&& (3 : Int32))), .unset, .unset, .unset, .unset, .unset, .unset, .unset, .unset]) (st' := [(.int ((x3 >>> ((4 : Int32) &&& 31)) &&& (1 : Int32)))]) (by decide +kernel) rfl ?_
  have ha := own_and_le x3 (3 : Int32) (by decide)
  have hb' := own_and_le (x3 >>> ((2 : Int32) &&& 31)) (3 : Int32) (by decide)
  rw [show (3 : Int32).toInt = 3 from rfl] at ha hb'
  generalize (x3 &&& (3 : Int32)) = i at ha ⊢
  generalize ((x3 >>> ((2 : Int32) &&& 31)) &&& (3 : Int32)) = j at hb' ⊢
  have cont : ∀ mf : Int32, mf = 0 ∨ mf = 1 → Con p e below T (mkF m 25 #[.val (.int x0), .val (.int x1), .val (.int x2), .val (.int x3), .val (.int i), .val (.int j), .unset, .unset, .unset, .unset, .unset, .unset, .unset, .unset] [(.int mf)]) (Pq s room_1 n0 (fun v _ => v = some (.int 1))) := by
    intro mf hmf
    refine own_run S C [.istore 6, .iconst 4] (pc' := 28) (Ls' := #[.val (.int x0), .val (.int x1), .val (.int x2), .val (.int x3), .val (.int i), .val (.int j), .val (.int mf), .unset, .unset, .unset, .unset, .unset, .unset, .unset]) (st' := [(.int (4 : Int32))]) (by decide +kernel) rfl ?_
    refine own_newarray S C (hw _ (List.mem_of_getElem? (i := 0) rfl)) (by decide +kernel) (n := (4 : Int32)) (by decide) 4 (by decide) (by decide) (by decide) (by decide) (vs := [(0 : Int32), (0 : Int32), (0 : Int32), (0 : Int32)]) rfl (fun T1 h1 b1 e1 S1 E1 g1 A1 => ?_)
    refine own_run S1 C [.dup, .iconst 0, .iload_n 0] (pc' := 33) (Ls' := #[.val (.int x0), .val (.int x1), .val (.int x2), .val (.int x3), .val (.int i), .val (.int j), .val (.int mf), .unset, .unset, .unset, .unset, .unset, .unset, .unset]) (st' := [(.int x0), (.int (0 : Int32)), (.ref b1), (.ref b1)]) (by decide +kernel) rfl ?_
    refine own_iastore S1 C A1 (by decide +kernel) (j := (0 : Int32)) (x := x0) ⟨by decide, (by decide : (0 : Int32).toInt < ((4 : Nat) : Int))⟩ g1 (vs' := [x0, (0 : Int32), (0 : Int32), (0 : Int32)]) rfl (fun T2 h2 S2 K2 A2 => ?_)
    refine own_run S2 C [.dup, .iconst 1, .iload_n 1] (pc' := 37) (Ls' := #[.val (.int x0), .val (.int x1), .val (.int x2), .val (.int x3), .val (.int i), .val (.int j), .val (.int mf), .unset, .unset, .unset, .unset, .unset, .unset, .unset]) (st' := [(.int x1), (.int (1 : Int32)), (.ref b1), (.ref b1)]) (by decide +kernel) rfl ?_
    refine own_iastore S2 C A2 (by decide +kernel) (j := (1 : Int32)) (x := x1) ⟨by decide, (by decide : (1 : Int32).toInt < ((4 : Nat) : Int))⟩ g1 (vs' := [x0, x1, (0 : Int32), (0 : Int32)]) rfl (fun T3 h3 S3 K3 A3 => ?_)
    refine own_run S3 C [.dup, .iconst 2, .iload_n 2] (pc' := 41) (Ls' := #[.val (.int x0), .val (.int x1), .val (.int x2), .val (.int x3), .val (.int i), .val (.int j), .val (.int mf), .unset, .unset, .unset, .unset, .unset, .unset, .unset]) (st' := [(.int x2), (.int (2 : Int32)), (.ref b1), (.ref b1)]) (by decide +kernel) rfl ?_
    refine own_iastore S3 C A3 (by decide +kernel) (j := (2 : Int32)) (x := x2) ⟨by decide, (by decide : (2 : Int32).toInt < ((4 : Nat) : Int))⟩ g1 (vs' := [x0, x1, x2, (0 : Int32)]) rfl (fun T4 h4 S4 K4 A4 => ?_)
    refine own_run S4 C [.dup, .iconst 3, .iload_n 0] (pc' := 45) (Ls' := #[.val (.int x0), .val (.int x1), .val (.int x2), .val (.int x3), .val (.int i), .val (.int j), .val (.int mf), .unset, .unset, .unset, .unset, .unset, .unset, .unset]) (st' := [(.int x0), (.int (3 : Int32)), (.ref b1), (.ref b1)]) (by decide +kernel) rfl ?_
    refine own_iastore S4 C A4 (by decide +kernel) (j := (3 : Int32)) (x := x0) ⟨by decide, (by decide : (3 : Int32).toInt < ((4 : Nat) : Int))⟩ g1 (vs' := [x0, x1, x2, x0]) rfl (fun T5 h5 S5 K5 A5 => ?_)
    refine own_run S5 C [.astore 7, .iconst 0] (pc' := 49) (Ls' := #[.val (.int x0), .val (.int x1), .val (.int x2), .val (.int x3), .val (.int i), .val (.int j), .val (.int mf), .val (.ref b1), .unset, .unset, .unset, .unset, .unset, .unset]) (st' := [(.int (0 : Int32))]) (by decide +kernel) rfl ?_
    refine own_newarray S5 C (hw _ (List.mem_of_getElem? (i := 0) rfl)) (by decide +kernel) (n := (0 : Int32)) (by decide) 0 (by decide) (by decide) (by decide) (by decide) (vs := []) rfl (fun T6 h6 b6 e6 S6 E6 g6 A6 => ?_)
    have n_b1_b6 : b1 ≠ b6 := own_ne A5.lt e6
    have A7 := A5.ext E6
    refine own_run S6 C [.astore 8] (pc' := 53) (Ls' := #[.val (.int x0), .val (.int x1), .val (.int x2), .val (.int x3), .val (.int i), .val (.int j), .val (.int mf), .val (.ref b1), .val (.ref b6), .unset, .unset, .unset, .unset, .unset]) (st' := []) (by decide +kernel) rfl ?_
    refine own_new S6 C (D := "com/example/holdfast/holdfast/fill/MemberHeap") (n := 5) (hw _ (List.mem_of_getElem? (i := 1) rfl)) (hw _ (List.mem_of_getElem? (i := 2) rfl)) (hw _ (List.mem_of_getElem? (i := 3) rfl)) (by decide +kernel) (by decide) (by decide) (fun TN hN a eN SN EN ga XN DN => ?_)
    have n_b1_a : b1 ≠ a := own_ne A7.lt eN
    have AN := A7.ext EN
    show Con p e below _ (mkF m 56 #[.val (.int x0), .val (.int x1), .val (.int x2), .val (.int x3), .val (.int i), .val (.int j), .val (.int mf), .val (.ref b1), .val (.ref b6), .unset, .unset, .unset, .unset, .unset] [(.ref a)]) _
    have F1 := DN (Or.inl (hw _ (List.mem_of_getElem? (i := 16) rfl))) (ty := (.array .int)) (by decide)
    have F2 := DN (Or.inl (hw _ (List.mem_of_getElem? (i := 18) rfl))) (ty := .int) (by decide)
    have F3 := DN (Or.inl (hw _ (List.mem_of_getElem? (i := 20) rfl))) (ty := (.array .int)) (by decide)
    have F4 := DN (Or.inr (hw _ (List.mem_of_getElem? (i := 22) rfl))) (ty := (.array .int)) (by decide)
    have F5 := DN (Or.inr (hw _ (List.mem_of_getElem? (i := 24) rfl))) (ty := .boolean) (by decide)
    have ZN : n0 ≤ hN.size := by obtain ⟨_, _, _, _, q⟩ := SN; exact q
    refine own_run SN C [.dup, .aload 8, .iconst 0, .aload 7, .aconst_null, .iload 6] (pc' := 65) (Ls' := #[.val (.int x0), .val (.int x1), .val (.int x2), .val (.int x3), .val (.int i), .val (.int j), .val (.int mf), .val (.ref b1), .val (.ref b6), .unset, .unset, .unset, .unset, .unset]) (st' := [(.int mf), .null, (.ref b1), (.int (0 : Int32)), (.ref b6), (.ref a), (.ref a)]) (by decide +kernel) rfl ?_
    refine own_callI SN C (y := (⟨"com/example/holdfast/holdfast/fill/MemberHeap", "<init>", "([II[I[IZ)V"⟩ : MethodName)) rfl (hw _ (List.mem_of_getElem? (i := 4) rfl)) (hw _ (List.mem_of_getElem? (i := 5) rfl)) (hw _ (List.mem_of_getElem? (i := 3) rfl)) (hw _ (List.mem_of_getElem? (i := 6) rfl)) (by decide) (rm_mhinit l Z a0 hw [] a b6 b1 mf hN n0 ZN ga XN F1 F2 F3 F4 F5 hmf) 1 (by decide) (by decide) (ps := [(.array .int), .int, (.array .int), (.array .int), .boolean]) (r := none) (by decide +kernel) a [(.ref b6), (.int (0 : Int32)), (.ref b1), .null, (.int mf)] [(.ref a)] rfl rfl rfl (Nat.le_of_eq rfl) rfl (by decide +kernel) (by decide) (by decide) (fun v TC hC SC q => ?_)
    obtain ⟨rfl, KC, EC, G4, G5⟩ := q
    have AC := AN.keep KC (ninS n_b1_a nin0)
    show Con p e below _ (mkF m 68 #[.val (.int x0), .val (.int x1), .val (.int x2), .val (.int x3), .val (.int i), .val (.int j), .val (.int mf), .val (.ref b1), .val (.ref b6), .unset, .unset, .unset, .unset, .unset] [(.ref a)]) _
    have ZC : n0 ≤ hC.size := by obtain ⟨_, _, _, _, q⟩ := SC; exact q
    obtain ⟨ca, hca⟩ : ∃ z, ([x0, x1, x2, x0] : List Int32).getD i.toNatClampNeg 0 = z := ⟨_, rfl⟩
    obtain ⟨cb, hcb⟩ : ∃ z, ([x0, x1, x2, x0] : List Int32).getD j.toNatClampNeg 0 = z := ⟨_, rfl⟩
    have hi : 0 ≤ i.toInt ∧ i.toInt < (([x0, x1, x2, x0] : List Int32).length : Int) := ⟨ha.1, show i.toInt < (4 : Int) by omega⟩
    have hj : 0 ≤ j.toInt ∧ j.toInt < (([x0, x1, x2, x0] : List Int32).length : Int) := ⟨hb'.1, show j.toInt < (4 : Int) by omega⟩
    refine own_run SC C [.astore 9, .aload 9, .iload 4, .iload 5] (pc' := 76) (Ls' := #[.val (.int x0), .val (.int x1), .val (.int x2), .val (.int x3), .val (.int i), .val (.int j), .val (.int mf), .val (.ref b1), .val (.ref b6), .val (.ref a), .unset, .unset, .unset, .unset]) (st' := [(.int j), (.int i), (.ref a)]) (by decide +kernel) rfl ?_
    refine own_callV SC C (y := (⟨"com/example/holdfast/holdfast/fill/MemberHeap", "before", "(II)Z"⟩ : MethodName)) (hw _ (List.mem_of_getElem? (i := 31) rfl)) (hw _ (List.mem_of_getElem? (i := 32) rfl)) (hw _ (List.mem_of_getElem? (i := 34) rfl)) (hw _ (List.mem_of_getElem? (i := 33) rfl)) (hw _ (List.mem_of_getElem? (i := 3) rfl)) (hw _ (List.mem_of_getElem? (i := 35) rfl)) (by decide) EC (rm_before l Z a0 hw [] a i j hC n0 ZC b1 mf [x0, x1, x2, x0] G4 G5 AC hi hj ca cb hca hcb) 0 (by decide) (by decide) (ps := [.int, .int]) (r := (some .boolean)) (by decide +kernel) [(.int i), (.int j)] [] rfl rfl rfl (Nat.le_of_eq rfl) rfl (by decide +kernel) (by decide) (by decide) (fun v TB hB SB q => ?_)
    obtain ⟨rfl, hh⟩ := q
    rw [hh] at SB
    show Con p e below _ (mkF m 79 #[.val (.int x0), .val (.int x1), .val (.int x2), .val (.int x3), .val (.int i), .val (.int j), .val (.int mf), .val (.ref b1), .val (.ref b6), .val (.ref a), .unset, .unset, .unset, .unset] [(.int (own_bf ca cb i j mf))]) _
    generalize hg : own_bf ca cb i j mf = got
    refine own_run SB C [.istore 10, .aload 7, .iload 4] (pc' := 85) (Ls' := #[.val (.int x0), .val (.int x1), .val (.int x2), .val (.int x3), .val (.int i), .val (.int j), .val (.int mf), .val (.ref b1), .val (.ref b6), .val (.ref a), .val (.int got), .unset, .unset, .unset]) (st' := [(.int i), (.ref b1)]) (by decide +kernel) rfl ?_
    refine own_iaload SB C AC (by decide +kernel) (j := i) (v := ca) hi hca ?_
    show Con p e below _ (mkF m 86 #[.val (.int x0), .val (.int x1), .val (.int x2), .val (.int x3), .val (.int i), .val (.int j), .val (.int mf), .val (.ref b1), .val (.ref b6), .val (.ref a), .val (.int got), .unset, .unset, .unset] [(.int ca)]) _
    refine own_run SB C [.i2l, .aload 7, .iload 5] (pc' := 91) (Ls' := #[.val (.int x0), .val (.int x1), .val (.int x2), .val (.int x3), .val (.int i), .val (.int j), .val (.int mf), .val (.ref b1), .val (.ref b6), .val (.ref a), .val (.int got), .unset, .unset, .unset]) (st' := [(.int j), (.ref b1), (.long ca.toInt64)]) (by decide +kernel) rfl ?_
    refine own_iaload SB C AC (by decide +kernel) (j := j) (v := cb) hj hcb ?_
    show Con p e below _ (mkF m 92 #[.val (.int x0), .val (.int x1), .val (.int x2), .val (.int x3), .val (.int i), .val (.int j), .val (.int mf), .val (.ref b1), .val (.ref b6), .val (.ref a), .val (.int got), .unset, .unset, .unset] [(.int cb), (.long ca.toInt64)]) _
    refine own_run SB C [.i2l, .lsub, .lstore 11, .iload 6] (pc' := 98) (Ls' := #[.val (.int x0), .val (.int x1), .val (.int x2), .val (.int x3), .val (.int i), .val (.int j), .val (.int mf), .val (.ref b1), .val (.ref b6), .val (.ref a), .val (.int got), .val (.long (ca.toInt64 - cb.toInt64)), .second, .unset]) (st' := [(.int mf)]) (by decide +kernel) rfl ?_
    have hd := own_dif ca cb
    have c2 : ∀ d : Int64, d.toInt = (if mf.toInt = 0 then ca.toInt - cb.toInt else cb.toInt - ca.toInt) → Con p e below TB (mkF m 106 #[.val (.int x0), .val (.int x1), .val (.int x2), .val (.int x3), .val (.int i), .val (.int j), .val (.int mf), .val (.ref b1), .val (.ref b6), .val (.ref a), .val (.int got), .val (.long d), .second, .unset] []) (Pq s room_1 n0 (fun v _ => v = some (.int 1))) := by
      intro d hdd
      have c3 : ∀ ex : Int32, ex = got → Con p e below TB (mkF m 132 #[.val (.int x0), .val (.int x1), .val (.int x2), .val (.int x3), .val (.int i), .val (.int j), .val (.int mf), .val (.ref b1), .val (.ref b6), .val (.ref a), .val (.int got), .val (.long d), .second, .unset] [(.int ex)]) (Pq s room_1 n0 (fun v _ => v = some (.int 1))) := by
        intro ex hex
        subst hex
        refine own_run SB C [.istore 13, .iload 10, .iload 13] (pc' := 138) (Ls' := #[.val (.int x0), .val (.int x1), .val (.int x2), .val (.int x3), .val (.int i), .val (.int j), .val (.int mf), .val (.ref b1), .val (.ref b6), .val (.ref a), .val (.int ex), .val (.long d), .second, .val (.int ex)]) (st' := [(.int ex), (.int ex)]) (by decide +kernel) rfl ?_
        refine own_icmp SB C (cd := .ne) (o := 7) (by decide +kernel) (pc' := 145) ⟨by decide, by decide⟩ (fun hc138 => absurd ((hh_ne).1.mp hc138) (show ¬ (ex.toInt ≠ ex.toInt) by omega)) (fun _ => ?_)
        refine own_run SB C [.iconst 1, .goto 4] (pc' := 146) (Ls' := #[.val (.int x0), .val (.int x1), .val (.int x2), .val (.int x3), .val (.int i), .val (.int j), .val (.int mf), .val (.ref b1), .val (.ref b6), .val (.ref a), .val (.int ex), .val (.long d), .second, .val (.int ex)]) (st' := [(.int (1 : Int32))]) (by decide +kernel) rfl ?_
        exact own_retz SB C (z' := (1 : Int32)) (by decide) (by decide +kernel) (by decide) (by decide) rfl
      have o1 := own_cmp0 d
      have e1 : (1 : Int32).toInt = 1 := rfl
      have e0 : (0 : Int32).toInt = 0 := rfl
      refine own_run SB C [.lload 11, .lconst 0, .lcmp] (pc' := 110) (Ls' := #[.val (.int x0), .val (.int x1), .val (.int x2), .val (.int x3), .val (.int i), .val (.int j), .val (.int mf), .val (.ref b1), .val (.ref b6), .val (.ref a), .val (.int got), .val (.long d), .second, .unset]) (st' := [(.int (XT.cmpL d (0 : Int64)))]) (by decide +kernel) rfl ?_
      refine own_if SB C (cd := .lt) (o := 17) (by decide +kernel) (pc' := 127) ⟨by decide, by decide⟩ (fun hc110 => ?_) (fun hc110 => ?_)
      · skip
        have k110 : (XT.cmpL d (0 : Int64)).toInt < (0 : Int) := (hh_lt).1.mp hc110
        have kd := o1.1.mp k110
        refine own_run SB C [.iconst 1, .goto 4] (pc' := 132) (Ls' := #[.val (.int x0), .val (.int x1), .val (.int x2), .val (.int x3), .val (.int i), .val (.int j), .val (.int mf), .val (.ref b1), .val (.ref b6), .val (.ref a), .val (.int got), .val (.long d), .second, .unset]) (st' := [(.int (1 : Int32))]) (by decide +kernel) rfl ?_
        refine c3 _ ?_
        rw [← hg]
        unfold own_bf
        split at hdd <;> split <;> first | rfl | (split <;> first | rfl | omega) | omega
      · skip
        have k110 : (XT.cmpL d (0 : Int64)).toInt ≥ (0 : Int) := (hh_lt).2.mp hc110
        have kd : ¬ d.toInt < 0 := fun z => absurd (o1.1.mpr z) (by omega)
        refine own_run SB C [.lload 11, .lconst 0, .lcmp] (pc' := 117) (Ls' := #[.val (.int x0), .val (.int x1), .val (.int x2), .val (.int x3), .val (.int i), .val (.int j), .val (.int mf), .val (.ref b1), .val (.ref b6), .val (.ref a), .val (.int got), .val (.long d), .second, .unset]) (st' := [(.int (XT.cmpL d (0 : Int64)))]) (by decide +kernel) rfl ?_
        refine own_if SB C (cd := .ne) (o := 14) (by decide +kernel) (pc' := 131) ⟨by decide, by decide⟩ (fun hc117 => ?_) (fun hc117 => ?_)
        · skip
          have k117 : (XT.cmpL d (0 : Int64)).toInt ≠ (0 : Int) := (hh_ne).1.mp hc117
          have ke : ¬ d.toInt = 0 := fun z => k117 (o1.2.mpr z)
          refine own_run SB C [.iconst 0] (pc' := 132) (Ls' := #[.val (.int x0), .val (.int x1), .val (.int x2), .val (.int x3), .val (.int i), .val (.int j), .val (.int mf), .val (.ref b1), .val (.ref b6), .val (.ref a), .val (.int got), .val (.long d), .second, .unset]) (st' := [(.int (0 : Int32))]) (by decide +kernel) rfl ?_
          refine c3 _ ?_
          rw [← hg]
          unfold own_bf
          split at hdd <;> split <;> first | rfl | (split <;> first | rfl | omega) | omega
        · skip
          have k117 : (XT.cmpL d (0 : Int64)).toInt = (0 : Int) := (hh_ne).2.mp hc117
          have ke := o1.2.mp k117
          refine own_run SB C [.iload 4, .iload 5] (pc' := 124) (Ls' := #[.val (.int x0), .val (.int x1), .val (.int x2), .val (.int x3), .val (.int i), .val (.int j), .val (.int mf), .val (.ref b1), .val (.ref b6), .val (.ref a), .val (.int got), .val (.long d), .second, .unset]) (st' := [(.int j), (.int i)]) (by decide +kernel) rfl ?_
          refine own_icmp SB C (cd := .ge) (o := 7) (by decide +kernel) (pc' := 131) ⟨by decide, by decide⟩ (fun hc124 => ?_) (fun hc124 => ?_)
          · skip
            have k124 : i.toInt ≥ j.toInt := (hh_ge).1.mp hc124
            refine own_run SB C [.iconst 0] (pc' := 132) (Ls' := #[.val (.int x0), .val (.int x1), .val (.int x2), .val (.int x3), .val (.int i), .val (.int j), .val (.int mf), .val (.ref b1), .val (.ref b6), .val (.ref a), .val (.int got), .val (.long d), .second, .unset]) (st' := [(.int (0 : Int32))]) (by decide +kernel) rfl ?_
            refine c3 _ ?_
            rw [← hg]
            unfold own_bf
            split at hdd <;> split <;> first | rfl | (split <;> first | rfl | omega) | omega
          · skip
            have k124 : i.toInt < j.toInt := (hh_ge).2.mp hc124
            refine own_run SB C [.iconst 1, .goto 4] (pc' := 132) (Ls' := #[.val (.int x0), .val (.int x1), .val (.int x2), .val (.int x3), .val (.int i), .val (.int j), .val (.int mf), .val (.ref b1), .val (.ref b6), .val (.ref a), .val (.int got), .val (.long d), .second, .unset]) (st' := [(.int (1 : Int32))]) (by decide +kernel) rfl ?_
            refine c3 _ ?_
            rw [← hg]
            unfold own_bf
            split at hdd <;> split <;> first | rfl | (split <;> first | rfl | omega) | omega
    refine own_if SB C (cd := .eq) (o := 8) (by decide +kernel) (pc' := 106) ⟨by decide, by decide⟩ (fun hc98 => ?_) (fun hc98 => ?_)
    · skip
      have k98 : mf.toInt = (0 : Int) := (hh_eq).1.mp hc98
      exact c2 _ (by rw [if_pos k98]; exact hd)
    · skip
      have k98 : mf.toInt ≠ (0 : Int) := (hh_eq).2.mp hc98
      refine own_run SB C [.lload 11, .lneg, .lstore 11] (pc' := 106) (Ls' := #[.val (.int x0), .val (.int x1), .val (.int x2), .val (.int x3), .val (.int i), .val (.int j), .val (.int mf), .val (.ref b1), .val (.ref b6), .val (.ref a), .val (.int got), .val (.long (-(ca.toInt64 - cb.toInt64))), .second, .unset]) (st' := []) (by decide +kernel) rfl ?_
      refine c2 _ ?_
      have h1 := ca.toInt_lt
      have h2 := ca.le_toInt
      have h3 := cb.toInt_lt
      have h4 := cb.le_toInt
      rw [if_neg k98, own_neg (by rw [hd]; omega), hd]; omega
  -- which comes first
  refine own_if S C (cd := .eq) (o := 7) (by decide +kernel) (pc' := 24) ⟨by decide, by decide⟩ (fun hc17 => ?_) (fun hc17 => ?_)
  · skip
    have k17 : ((x3 >>> ((4 : Int32) &&& 31)) &&& (1 : Int32)).toInt = (0 : Int) := (hh_eq).1.mp hc17
    refine own_run S C [.iconst 0] (pc' := 25) (Ls' := #[.val (.int x0), .val (.int x1), .val (.int x2), .val (.int x3), .val (.int i), .val (.int j), .unset, .unset, .unset, .unset, .unset, .unset, .unset, .unset]) (st' := [(.int (0 : Int32))]) (by decide +kernel) rfl ?_
    exact cont _ (Or.inl rfl)
  · skip
    have k17 : ((x3 >>> ((4 : Int32) &&& 31)) &&& (1 : Int32)).toInt ≠ (0 : Int) := (hh_eq).2.mp hc17
    refine own_run S C [.iconst 1, .goto 4] (pc' := 25) (Ls' := #[.val (.int x0), .val (.int x1), .val (.int x2), .val (.int x3), .val (.int i), .val (.int j), .unset, .unset, .unset, .unset, .unset, .unset, .unset, .unset]) (st' := [(.int (1 : Int32))]) (by decide +kernel) rfl ?_
    exact cont _ (Or.inr rfl)
set_option maxRecDepth 65536 in
set_option maxHeartbeats 40000000 in
theorem comes_1 {Post : Tables → Env → Array Value → State → Outcome → State → Prop} (hpost : ∀ tb e args s v u, (limb_1_1.after args s (.returned v) u = true ∧ limb_1_2.after args s (.returned v) u = true ∧ True) → FrameEnd s (.returned v) u (Jvm.fieldLocs frame_1_writes args s ++ Jvm.arrayLocs frame_1_arrays args s ++ Jvm.staticLocs frame_1_statics s) 16 128 → Post tb e args s (.returned v) u) :
    ArmFor flags0 classFile x code maxLocals ret World_1 tables_1 room_1 Calls_1 rest_1 Pre_1 Post := by
  intro l hfl _ _ p e ha hc hk s m args below hf hA hF happ hP
  obtain ⟨hcalls, hrest, hpre⟩ := hP
  obtain ⟨-, -, -, hnamed, -, -, -, hat⟩ := (Spec.applies_iff hf).mp happ
  obtain ⟨hg, hn⟩ := and_e (Cond.before_iff.mp (show (Jvm.Cond.and given_1 narrow_1).before args s = true from hpre))
  obtain ⟨hcount, g0⟩ := and_e hg
  obtain ⟨k0, g1⟩ := and_e g0
  obtain ⟨k1, g2⟩ := and_e g1
  obtain ⟨k2, g3⟩ := and_e g2
  obtain ⟨w0, w1, w2, w3, rfl⟩ : ∃ w0 w1 w2 w3 : Value, args = #[w0, w1, w2, w3] := by
    have hs : args.size = 4 := by simpa [Cond.value, given_1] using hcount
    obtain ⟨L⟩ := args
    match L, hs with
    | [w0, w1, w2, w3], _ => exact ⟨w0, w1, w2, w3, rfl⟩
  have hw := fun d (hd : d ∈ tables_1) => atoms_spec (ws := Jvm.Cond.code x code maxLocals ret :: tables_1) hat d (List.mem_cons_of_mem _ hd)
  obtain ⟨i0, ei0⟩ := is_v k0
  obtain rfl : w0 = (.int i0) := Option.some.inj ei0
  obtain ⟨i1, ei1⟩ := is_v k1
  obtain rfl : w1 = (.int i1) := Option.some.inj ei1
  obtain ⟨i2, ei2⟩ := is_v k2
  obtain rfl : w2 = (.int i2) := Option.some.inj ei2
  obtain ⟨i3, ei3⟩ := is_v g3
  obtain rfl : w3 = (.int i3) := Option.some.inj ei3
  obtain ⟨n, o, h1, h2, h3, v, L, rfl, ⟨N, -, hv⟩, hq⟩ := rm_law l s _ hw tables_1 i0 i1 i2 i3 s.heap s.heap.size (Nat.le_refl _) p e ha hc hk s m _ below hf ((Spec.applies_iff_loose hf).mp happ).1 ⟨rfl, State.Warmed39.refl s, rfl⟩ trivial
  obtain rfl : v = some (.int 1) := hv
  refine ⟨n, _, h1, h2, h3, hpost _ _ _ _ _ _ ⟨Cond.after_iff.mpr rfl, Cond.after_iff.mpr (eq_i res_at (Term.int_eval (1)) rfl), trivial⟩ ⟨hq.1, hq.2.1, (hq.2.2.sift fun y hy => Or.inr (N y hy)).mono (by decide) (by decide)⟩⟩
theorem main_1_1 : Claimed_1_1 := comes_1 fun _ _ _ _ _ _ h hF => ⟨h.1, hF⟩
theorem main_1_2 : Claimed_1_2 := comes_1 fun _ _ _ _ _ _ h hF => ⟨h.2.1, hF⟩
end Jvm.Pilot.@@N@@
namespace Jvm.Pilot.@@N@@
open Jvm Jvm.ClassFile Sem Op Lib Jvm.Free Jvm.Stand Jvm.Pilot.@@N@@.Jvm.D
/-! MADE BY PROGRAM (witnessworld.py) out of the Statement's table words and the real class files: 10 classes; the members and pool entries that the words name. The judged class is class 1, her method 1. -/
namespace start1
open Jvm.ClassFile
def u (s : String) : CpInfo := .utf8 (stringToUtf16 s)
/-- a pool by its gaps: so many unusable entries, then the entry; so many at the end -/
def gap : Nat → List CpInfo → List CpInfo
  | 0, r => r
  | n + 1, r => .unusable :: gap n r
def poolList (es : List (Nat × CpInfo)) (last : Nat) : List CpInfo := es.foldr (fun e r => gap e.1 (e.2 :: r)) (gap last [])
def pool (es : List (Nat × CpInfo)) (last : Nat) : Array CpInfo := ⟨poolList es last⟩
def fileOf (pool : Array CpInfo) (this : Nat) (attrs : Array Attribute := #[]) (ms : Array MethodInfo := #[]) (fl : Nat := 33) (sup : Nat := 0) (ifs : Array Nat := #[]) (fds : Array FieldInfo := #[]) : ClassFile where
  minorVersion := 0
  majorVersion := 65
  constantPool := pool
  accessFlags := fl
  thisClass := this
  superClass := sup
  interfaces := ifs
  fields := fds
  methods := ms
  attributes := attrs
def plain (name : String) (sup : Option ClassId) : Class where
  name := name
  kind := .ordinary
  loader := none
  accessFlags := 33
  super := sup
  interfaces := #[]
  cf := none
  fields := #[]
  methods := #[]
  instanceTypes := #[]
  staticTypes := #[]
  resolved := #[]
  callSites := []
  init := .initialized
  statics := none
  mirror := none

def pool0 : Array CpInfo := pool [(5, u "<init>"), (0, u "()V"), (1, .class_ 10), (1, u "java/lang/Object")] 113

def k0c0 : Code := { maxStack := 0, maxLocals := 1, code := object_method_1_code, exceptionTable := #[], attributes := #[] }
def k0m0 : Method := { name := "<init>", desc := "()V", sig := { parameters := [], returnType := none }, accessFlags := 1, code := some k0c0 }
/-- java/lang/Object -/
def k0 : Class := { plain "java/lang/Object" none with
  accessFlags := 33
  interfaces := #[]
  cf := some (fileOf pool0 8 #[] #[{ accessFlags := 1, nameIndex := 5, descriptorIndex := 6, attributes := #[] }] 33 0 #[] #[])
  fields := #[]
  methods := #[k0m0]
  instanceTypes := #[]
  staticTypes := #[]
  resolved := Array.replicate 124 none
  statics := none }

def pool1 : Array CpInfo := pool [(2, .class_ 4), (1, u "java/lang/Object"), (0, u "<init>"), (0, u "()V"), (0, .class_ 8), (0, u "com/example/holdfast/holdfast/fill/MemberHeap"), (0, .methodref 7 10), (0, .nameAndType 5 11), (0, u "([II[I[IZ)V"), (0, .methodref 7 13), (0, .nameAndType 14 15), (0, u "before"), (0, u "(II)Z"), (0, .class_ 17), (0, u "com/example/holdfast/holdfast/fill/MemberHeapBeforePinLaw"), (2, u "law"), (0, u "(IIII)Z")] 5

def k1m0 : Method := { name := "<init>", desc := "()V", sig := { parameters := [], returnType := none }, accessFlags := 1, code := none }
def k1c1 : Code := { maxStack := 7, maxLocals := 14, code := code, exceptionTable := #[], attributes := #[] }
def k1m1 : Method := { name := "law", desc := "(IIII)Z", sig := { parameters := [.int, .int, .int, .int], returnType := some .boolean }, accessFlags := 9, code := some k1c1 }
/-- com/example/holdfast/holdfast/fill/MemberHeapBeforePinLaw -/
def k1 : Class := { plain "com/example/holdfast/holdfast/fill/MemberHeapBeforePinLaw" (some 0) with
  accessFlags := 49
  interfaces := #[]
  cf := some (fileOf pool1 16 #[] #[{ accessFlags := 1, nameIndex := 5, descriptorIndex := 6, attributes := #[] }, { accessFlags := 9, nameIndex := 20, descriptorIndex := 21, attributes := #[] }] 49 2 #[] #[])
  fields := #[]
  methods := #[k1m0, k1m1]
  instanceTypes := #[]
  staticTypes := #[]
  resolved := Array.replicate 27 none
  statics := none }

def pool2 : Array CpInfo := pool [(1, .methodref 2 3), (0, .class_ 4), (0, .nameAndType 5 6), (0, u "java/lang/Object"), (0, u "<init>"), (0, u "()V"), (0, .fieldref 8 9), (0, .class_ 10), (0, .nameAndType 11 12), (0, u "com/example/holdfast/holdfast/fill/IndexHeap"), (0, u "heap"), (0, u "[I"), (0, .fieldref 8 14), (0, .nameAndType 15 16), (0, u "size"), (0, u "I"), (0, .fieldref 8 18), (0, .nameAndType 19 12), (0, u "places"), (37, u "([II[I)V"), (2, u "order")] 14

def k2c0 : Code := { maxStack := 2, maxLocals := 4, code := prog_50_method_1_code, exceptionTable := #[], attributes := #[] }
def k2m0 : Method := { name := "<init>", desc := "([II[I)V", sig := { parameters := [(.array .int), .int, (.array .int)], returnType := none }, accessFlags := 4, code := some k2c0 }
def k2c1 : Code := { maxStack := 3, maxLocals := 2, code := prog_50_method_3_code, exceptionTable := #[], attributes := #[] }
def k2m1 : Method := { name := "order", desc := "()V", sig := { parameters := [], returnType := none }, accessFlags := 20, code := some k2c1 }
/-- com/example/holdfast/holdfast/fill/IndexHeap -/
def k2 : Class := { plain "com/example/holdfast/holdfast/fill/IndexHeap" (some 0) with
  accessFlags := 1057
  interfaces := #[]
  cf := some (fileOf pool2 8 #[] #[{ accessFlags := 4, nameIndex := 5, descriptorIndex := 57, attributes := #[] }, { accessFlags := 20, nameIndex := 60, descriptorIndex := 6, attributes := #[] }] 1057 2 #[] #[{ accessFlags := 2, nameIndex := 11, descriptorIndex := 12, attributes := #[] }, { accessFlags := 2, nameIndex := 15, descriptorIndex := 16, attributes := #[] }, { accessFlags := 2, nameIndex := 19, descriptorIndex := 12, attributes := #[] }])
  fields := #[{ name := "heap", type := (.array .int), accessFlags := 2, slot := 0, constantValue := 0 }, { name := "size", type := .int, accessFlags := 2, slot := 1, constantValue := 0 }, { name := "places", type := (.array .int), accessFlags := 2, slot := 2, constantValue := 0 }]
  methods := #[k2m0, k2m1]
  instanceTypes := #[(.array .int), .int, (.array .int)]
  staticTypes := #[]
  resolved := Array.replicate 75 none
  statics := none }

def pool3 : Array CpInfo := pool [(2, .class_ 4), (1, u "com/example/holdfast/holdfast/fill/MemberHeap"), (0, u "<init>"), (0, u "([II[I[IZ)V"), (0, .methodref 8 9), (0, .class_ 10), (0, .nameAndType 5 11), (0, u "com/example/holdfast/holdfast/fill/IndexHeap"), (0, u "([II[I)V"), (0, .fieldref 2 13), (0, .nameAndType 14 15), (0, u "counts"), (0, u "[I"), (0, .fieldref 2 17), (0, .nameAndType 18 19), (0, u "mostFirst"), (0, u "Z"), (0, .methodref 2 21), (0, .nameAndType 22 23), (0, u "order"), (0, u "()V"), (3, u "before"), (0, u "(II)Z")] 3

def k3c0 : Code := { maxStack := 4, maxLocals := 6, code := prog_55_method_2_code, exceptionTable := #[], attributes := #[] }
def k3m0 : Method := { name := "<init>", desc := "([II[I[IZ)V", sig := { parameters := [(.array .int), .int, (.array .int), (.array .int), .boolean], returnType := none }, accessFlags := 1, code := some k3c0 }
def k3c1 : Code := { maxStack := 3, maxLocals := 3, code := prog_55_method_3_code, exceptionTable := #[], attributes := #[] }
def k3m1 : Method := { name := "before", desc := "(II)Z", sig := { parameters := [.int, .int], returnType := some .boolean }, accessFlags := 4, code := some k3c1 }
/-- com/example/holdfast/holdfast/fill/MemberHeap -/
def k3 : Class := { plain "com/example/holdfast/holdfast/fill/MemberHeap" (some 2) with
  accessFlags := 49
  interfaces := #[]
  cf := some (fileOf pool3 2 #[] #[{ accessFlags := 1, nameIndex := 5, descriptorIndex := 6, attributes := #[] }, { accessFlags := 4, nameIndex := 27, descriptorIndex := 28, attributes := #[] }] 49 8 #[] #[{ accessFlags := 18, nameIndex := 14, descriptorIndex := 15, attributes := #[] }, { accessFlags := 18, nameIndex := 18, descriptorIndex := 19, attributes := #[] }])
  fields := #[{ name := "counts", type := (.array .int), accessFlags := 18, slot := 3, constantValue := 0 }, { name := "mostFirst", type := .boolean, accessFlags := 18, slot := 4, constantValue := 0 }]
  methods := #[k3m0, k3m1]
  instanceTypes := #[(.array .int), .int, (.array .int), (.array .int), .boolean]
  staticTypes := #[]
  resolved := Array.replicate 32 none
  statics := none }

def pool4 : Array CpInfo := pool [(1, u "java/lang/Cloneable"), (0, .class_ 1), (0, u "java/lang/Object"), (0, .class_ 3)] 3

/-- java/lang/Cloneable -/
def k4 : Class := { plain "java/lang/Cloneable" (some 0) with
  accessFlags := 1537
  interfaces := #[]
  cf := some (fileOf pool4 2 #[] #[] 1537 4 #[] #[])
  fields := #[]
  methods := #[]
  instanceTypes := #[]
  staticTypes := #[]
  resolved := Array.replicate 8 none
  statics := none }

def pool5 : Array CpInfo := pool [(1, u "java/io/Serializable"), (0, .class_ 1), (0, u "java/lang/Object"), (0, .class_ 3)] 3

/-- java/io/Serializable -/
def k5 : Class := { plain "java/io/Serializable" (some 0) with
  accessFlags := 1537
  interfaces := #[]
  cf := some (fileOf pool5 2 #[] #[] 1537 4 #[] #[])
  fields := #[]
  methods := #[]
  instanceTypes := #[]
  staticTypes := #[]
  resolved := Array.replicate 8 none
  statics := none }

/-- the primitive byte -/
def k6 : Class := { plain "byte" none with kind := .primitive 'B', accessFlags := 0x411 }
/-- [B -/
def k7 : Class := { plain "[B" (some 0) with kind := .array 6 .byte, interfaces := #[4, 5], accessFlags := 1041 }

/-- the primitive int -/
def k8 : Class := { plain "int" none with kind := .primitive 'I', accessFlags := 0x411 }
/-- [I -/
def k9 : Class := { plain "[I" (some 0) with kind := .array 8 .int, interfaces := #[4, 5], accessFlags := 1041 }

def heap : Heap := #[]
def classes : Array Class := #[k0, k1, k2, k3, k4, k5, k6, k7, k8, k9]
def interned : List (Array UInt16 × Addr) := []
def slotsUsed : Nat := 0
def theMethod : MethodId := ⟨1, 1⟩
def args0 : Array Value := #[.int 5, .int 7, .int 2, .int 9]
def aboutOver (below : List Frame) : State where
  vm := { classes := classes, interned := interned.toArray }
  heap := heap
  slotsUsed := slotsUsed
  threads := #[{ frames := .invoking theMethod args0 :: below }]
def below0 : List Frame := [.native { method := ⟨0, 0⟩, args := #[] }]
def about1 : State := aboutOver below0
def p0 : Program := .bare "" "" ""
def e0 : Env := launch0.env 0 0 0
theorem w_frames : about1.frames = Frame.invoking theMethod args0 :: below0 := rfl
set_option maxRecDepth 65536 in
theorem w_args : argsFit about1.vm theMethod args0 = true := by decide +kernel
set_option maxRecDepth 65536 in
theorem w_heap : heapFits about1 = true := by decide +kernel
set_option maxRecDepth 65536 in
theorem w_runnable : about1.curStatus? = some .runnable := by decide +kernel
set_option maxRecDepth 65536 in
theorem w_alone : about1.alone = true := by decide +kernel
set_option maxRecDepth 65536 in
theorem w_named : about1.methodNamed? x = some theMethod := by decide +kernel
set_option maxRecDepth 65536 in
theorem w_hears : about1.hears theMethod below0 = true := by decide +kernel
set_option maxRecDepth 65536 in
theorem w_ripe : about1.ripe theMethod args0 below0 = true := by decide +kernel
theorem w_running : about1.status = .running := rfl
set_option maxRecDepth 65536 in
theorem w_room : about1.hasRoom e0.platform room_1 = true :=
  launch0.hasRoom_least _ room_1 (by decide +kernel) (by decide +kernel) (by decide +kernel) (by decide +kernel) (by decide +kernel) (by decide +kernel)
theorem allAtoms_all (ts : List Jvm.Cond) (a : Array Jvm.Value) (st : Jvm.State) : (allAtoms ts).before a st = ts.all (fun c => c.before a st) := by
  induction ts with
  | nil => rfl
  | cons c t ih =>
    show (Jvm.Cond.and c (allAtoms t)).before a st = _
    rw [Jvm.Cond.before_and, ih, List.all_cons]
def words1 : List Jvm.Cond := Jvm.Cond.code x code maxLocals ret :: tables_1
/-- a 'code' word, met by the world's own term for the bytes: nothing is compared byte by byte -/
theorem code_word {y : MethodName} {bytes : ByteArray} {mx : Nat} {rt : Option FieldType} {a : Array Value} {s : State} {m : MethodId} {meth : Method} {c : Code} (h1 : s.methodNamed? y = some m) (h2 : s.vm.method? m = some meth) (h3 : meth.code = some c) (h4 : c.code = bytes)
    (h5 : (c.maxLocals == mx && c.exceptionTable.isEmpty && decide (c.maxStack ≤ mostOperands) && decide (meth.sig.returnType = rt) && !meth.locks && decide (parseMethodDescriptor y.desc = some meth.sig)) = true) : (Jvm.Cond.code y bytes mx rt).before a s = true := by
  simp only [Bool.and_eq_true, beq_iff_eq, Bool.not_eq_true', decide_eq_true_eq] at h5
  obtain ⟨⟨⟨⟨⟨g1, g2⟩, g3⟩, g4⟩, g5⟩, g6⟩ := h5
  simp [Cond.before, Cond.holds, Cond.value, h1, h2, h3, h4, g1, g2, g3, g4, g5, g6]
def isCode : Jvm.Cond → Bool
  | .code _ _ _ _ => true
  | _ => false
theorem all_split {L : List Jvm.Cond} {P : Jvm.Cond → Bool} (h1 : L.all (fun c => isCode c || P c) = true) (h2 : ∀ c ∈ L.filter isCode, P c = true) : L.all P = true := by
  refine List.all_eq_true.mpr fun c hc => ?_
  have h := List.all_eq_true.mp h1 c hc
  rcases Bool.eq_false_or_eq_true (isCode c) with hi | hi
  · exact h2 c (List.mem_filter.mpr ⟨hc, hi⟩)
  · simpa [hi] using h
set_option maxRecDepth 65536 in
theorem w_c0 : (Jvm.Cond.code x code maxLocals ret).before args0 about1 = true := code_word (m := ⟨1, 1⟩) (meth := k1m1) (c := k1c1) (by decide +kernel) rfl rfl rfl (by decide +kernel)
set_option maxRecDepth 65536 in
theorem w_c1 : (Jvm.Cond.code ({ cls := "com/example/holdfast/holdfast/fill/MemberHeap", name := "<init>", desc := "([II[I[IZ)V" } : Jvm.MethodName) prog_55_method_2_code (6 : Nat) (Option.none : Option Jvm.ClassFile.FieldType)).before args0 about1 = true := code_word (m := ⟨3, 0⟩) (meth := k3m0) (c := k3c0) (by decide +kernel) rfl rfl rfl (by decide +kernel)
set_option maxRecDepth 65536 in
theorem w_c2 : (Jvm.Cond.code ({ cls := "com/example/holdfast/holdfast/fill/IndexHeap", name := "<init>", desc := "([II[I)V" } : Jvm.MethodName) prog_50_method_1_code (4 : Nat) (Option.none : Option Jvm.ClassFile.FieldType)).before args0 about1 = true := code_word (m := ⟨2, 0⟩) (meth := k2m0) (c := k2c0) (by decide +kernel) rfl rfl rfl (by decide +kernel)
set_option maxRecDepth 65536 in
theorem w_c3 : (Jvm.Cond.code ({ cls := "java/lang/Object", name := "<init>", desc := "()V" } : Jvm.MethodName) object_method_1_code (1 : Nat) (Option.none : Option Jvm.ClassFile.FieldType)).before args0 about1 = true := code_word (m := ⟨0, 0⟩) (meth := k0m0) (c := k0c0) (by decide +kernel) rfl rfl rfl (by decide +kernel)
set_option maxRecDepth 65536 in
theorem w_c4 : (Jvm.Cond.code ({ cls := "com/example/holdfast/holdfast/fill/IndexHeap", name := "order", desc := "()V" } : Jvm.MethodName) prog_50_method_3_code (2 : Nat) (Option.none : Option Jvm.ClassFile.FieldType)).before args0 about1 = true := code_word (m := ⟨2, 1⟩) (meth := k2m1) (c := k2c1) (by decide +kernel) rfl rfl rfl (by decide +kernel)
set_option maxRecDepth 65536 in
theorem w_c5 : (Jvm.Cond.code ({ cls := "com/example/holdfast/holdfast/fill/MemberHeap", name := "before", desc := "(II)Z" } : Jvm.MethodName) prog_55_method_3_code (3 : Nat) (Option.some Jvm.ClassFile.FieldType.boolean)).before args0 about1 = true := code_word (m := ⟨3, 1⟩) (meth := k3m1) (c := k3c1) (by decide +kernel) rfl rfl rfl (by decide +kernel)
def codes1 : List Jvm.Cond := [Jvm.Cond.code x code maxLocals ret, Jvm.Cond.code ({ cls := "com/example/holdfast/holdfast/fill/MemberHeap", name := "<init>", desc := "([II[I[IZ)V" } : Jvm.MethodName) prog_55_method_2_code (6 : Nat) (Option.none : Option Jvm.ClassFile.FieldType), Jvm.Cond.code ({ cls := "com/example/holdfast/holdfast/fill/IndexHeap", name := "<init>", desc := "([II[I)V" } : Jvm.MethodName) prog_50_method_1_code (4 : Nat) (Option.none : Option Jvm.ClassFile.FieldType), Jvm.Cond.code ({ cls := "java/lang/Object", name := "<init>", desc := "()V" } : Jvm.MethodName) object_method_1_code (1 : Nat) (Option.none : Option Jvm.ClassFile.FieldType), Jvm.Cond.code ({ cls := "com/example/holdfast/holdfast/fill/IndexHeap", name := "order", desc := "()V" } : Jvm.MethodName) prog_50_method_3_code (2 : Nat) (Option.none : Option Jvm.ClassFile.FieldType), Jvm.Cond.code ({ cls := "com/example/holdfast/holdfast/fill/MemberHeap", name := "before", desc := "(II)Z" } : Jvm.MethodName) prog_55_method_3_code (3 : Nat) (Option.some Jvm.ClassFile.FieldType.boolean)]
set_option maxRecDepth 65536 in
theorem codes_eq : words1.filter isCode = codes1 := rfl
theorem w_codes : ∀ c ∈ words1.filter isCode, c.before args0 about1 = true := by
  rw [codes_eq]
  intro c hc
  simp only [codes1, List.mem_cons, List.not_mem_nil, or_false] at hc
  rcases hc with rfl | rfl | rfl | rfl | rfl | rfl
  · exact w_c0
  · exact w_c1
  · exact w_c2
  · exact w_c3
  · exact w_c4
  · exact w_c5
set_option maxRecDepth 65536 in
theorem w_t1 : (words1.take 24).all (fun c => isCode c || c.before args0 about1) = true := by decide +kernel
set_option maxRecDepth 65536 in
theorem w_t2 : (words1.drop 24).all (fun c => isCode c || c.before args0 about1) = true := by decide +kernel
theorem w_tables : (allAtoms (Jvm.Cond.code x code maxLocals ret :: tables_1)).before args0 about1 = true := by
  rw [allAtoms_all]
  show words1.all (fun c => c.before args0 about1) = true
  refine all_split ?_ w_codes
  rw [← List.take_append_drop 24 words1, List.all_append, w_t1, w_t2]
  rfl
set_option maxRecDepth 65536 in
theorem w_case : (Jvm.Cond.and given_1 narrow_1).before args0 about1 = true := by decide +kernel
theorem w_applies : (headSpec (Jvm.Cond.code x code maxLocals ret :: tables_1) room_1).applies x e0.platform about1 = true :=
  (Spec.applies_iff w_frames).mpr ⟨w_running, w_runnable, w_alone, w_named, w_hears, w_ripe, w_room, w_tables⟩
theorem atStart : AtStart classFile x code maxLocals ret World_1 tables_1 room_1 Calls_1 rest_1 Pre_1 launch0 p0 e0 about1 theMethod args0 below0 :=
  ⟨lists_1, trivial, launch0.admits_env _ _ _, launch0.least_env, fairChoices_fair.cas, fairChoices_fair.clock, w_frames, w_args, w_heap, w_applies, trivial, trivial, w_case⟩
end start1
theorem witness_1 : WitnessClaimed_1 := ⟨start1.p0, start1.e0, start1.about1, start1.theMethod, start1.args0, start1.below0, start1.atStart⟩
end Jvm.Pilot.@@N@@
