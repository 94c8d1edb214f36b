import JvmDerived
import JvmDerived.Pilot.@@N@@Statement
import JvmDerived.Pilot.@@N@@Code
set_option linter.unusedVariables false
set_option linter.unusedSimpArgs false
namespace Jvm.RoadKit
open Sem ClassFile Op Lib Jvm.Stand Jvm.Free Jvm.LawKit
section New
variable {p : Program} {l : Launch} {e : Env} {R : Room} {s : State} {m : MethodId} {args : Array Value} {below : List Frame} {meth : Method} {c : Code} {T : State} {locs : List Loc} {cells slots : Nat}
theorem retI (X : Stand p l e R s m args below meth c T locs cells slots) (hx : p.tables.exec = Jvm.exec) {pc : Nat} {Ls : Array Slot} {z : Int32} {rest : List Value} (hret : meth.sig.returnType = some .int) (hd : decode c.code pc = .ok (.ireturn, 1)) {fs : List Frame}
    (hl : ∀ (f : JFrame) (acts : List Action), f.method = m → f.locked = none → f.entered = [] → (doReturn e (T.setTop f) acts (some (.int z))).1 = T.setFrames fs) : Steps p.tables e below (T.setTop (mkF m pc Ls (.int z :: rest))) (T.setFrames fs) := by
  have hm' : T.vm.method? m = some meth := X.method'
  have hn : narrow .int (.int z) = .int z := rfl
  show Steps p.tables e below (T.setTop { method := m, pc := pc, locals := Ls, stack := _ :: rest, locked := none }) _
  jvm_step X.here [X.here.top, hx, hd, hm', hret, hn]
  first | (intro acts; rw [hl _ acts rfl rfl rfl]) | rw [hl _ _ rfl rfl rfl]
  exact Steps.refl _
end New
end Jvm.RoadKit
namespace Jvm.Pilot.@@N@@
open Jvm Jvm.ClassFile Sem Op Lib Jvm.Free Jvm.Stand Jvm.LawKit Jvm.RoadKit Bundle Jvm.Pilot.@@N@@.Jvm.D
/-! THE WALK IN SHORT: where a walk stands (St), what is fixed about the body (Cx), that a run from a frame comes to an end that says P (Con); a straight run of plain instructions in one row (own_run). -/
section OwnKit
def St (p : Program) (l : Launch) (e : Env) (R : Room) (s : State) (m : MethodId) (args : Array Value) (below : List Frame) (meth : Method) (c : Code) (n0 : Nat) (T : State) (h : Heap) (cells slots : Nat) : Prop :=
  ∃ locs, Stand p l e R s m args below meth c T locs cells slots ∧ T.heap = h ∧ Fr n0 locs ∧ n0 ≤ h.size
def Cx (p : Program) (s Z : State) (m : MethodId) (meth : Method) (c : Code) (bytes : ByteArray) (own : String) (maxL : Nat) (ret : Option FieldType) (nm : String) : Prop :=
  p.tables.exec = Jvm.exec ∧ Z.Warmed39 s.vm ∧ c.code = bytes ∧ s.vm.findClass own = some m.cls ∧ c.maxLocals = maxL ∧ meth.sig.returnType = ret ∧ meth.locks = false ∧ meth.name = nm
def Con (p : Program) (e : Env) (below : List Frame) (T : State) (g : JFrame) (P : State → Outcome → Prop) : Prop :=
  ∃ t o, Steps p.tables e below (T.setTop g) t ∧ t.status = .running ∧ Ended t below o ∧ P t o
def ilen : Instr → Nat
  | .iload _ => 2 | .aload _ => 2 | .istore _ => 2 | .astore _ => 2 | .bipush _ => 2 | .lload _ => 2 | .lstore _ => 2
  | .sipush _ => 3 | .iinc _ _ => 3 | .goto _ => 3
  | _ => 1
def pstep (i : Instr) (pc : Nat) (Ls : Array Slot) (st : List Value) : Option (Nat × Array Slot × List Value) :=
  match i with
  | .iload_n k => match Ls[k.val]? with | some (.val (.int v)) => some (pc + 1, Ls, .int v :: st) | _ => none
  | .iload k => match Ls[k]? with | some (.val (.int v)) => some (pc + 2, Ls, .int v :: st) | _ => none
  | .aload_n k => match Ls[k.val]? with | some (.val v) => if v.isRef = true then some (pc + 1, Ls, v :: st) else none | _ => none
  | .aload k => match Ls[k]? with | some (.val v) => if v.isRef = true then some (pc + 2, Ls, v :: st) else none | _ => none
  | .lload k => match Ls[k]? with | some (.val (.long v)) => some (pc + 2, Ls, .long v :: st) | _ => none
  | .istore_n k => match st with | .int x :: r => (match storeLocals Ls k.val (.int x) with | some L => some (pc + 1, L, r) | none => none) | _ => none
  | .istore k => match st with | .int x :: r => (match storeLocals Ls k (.int x) with | some L => some (pc + 2, L, r) | none => none) | _ => none
  | .astore_n k => match st with | x :: r => (if x.isRef = true then (match storeLocals Ls k.val x with | some L => some (pc + 1, L, r) | none => none) else none) | _ => none
  | .astore k => match st with | x :: r => (if x.isRef = true then (match storeLocals Ls k x with | some L => some (pc + 2, L, r) | none => none) else none) | _ => none
  | .lstore k => match st with | .long x :: r => (match storeLocals Ls k (.long x) with | some L => some (pc + 2, L, r) | none => none) | _ => none
  | .iconst i => some (pc + 1, Ls, .int (Int32.ofInt i) :: st)
  | .lconst k => some (pc + 1, Ls, .long (Int64.ofNat k) :: st)
  | .bipush i => some (pc + 2, Ls, .int (Int8.ofInt i).toInt32 :: st)
  | .sipush i => some (pc + 3, Ls, .int (Int16.ofInt i).toInt32 :: st)
  | .aconst_null => some (pc + 1, Ls, .null :: st)
  | .iadd => match st with | .int y :: .int x :: r => some (pc + 1, Ls, .int (x + y) :: r) | _ => none
  | .isub => match st with | .int y :: .int x :: r => some (pc + 1, Ls, .int (x - y) :: r) | _ => none
  | .imul => match st with | .int y :: .int x :: r => some (pc + 1, Ls, .int (x * y) :: r) | _ => none
  | .iand => match st with | .int y :: .int x :: r => some (pc + 1, Ls, .int (x &&& y) :: r) | _ => none
  | .ior => match st with | .int y :: .int x :: r => some (pc + 1, Ls, .int (x ||| y) :: r) | _ => none
  | .ishl => match st with | .int y :: .int x :: r => some (pc + 1, Ls, .int (x <<< (y &&& 31)) :: r) | _ => none
  | .ishr => match st with | .int y :: .int x :: r => some (pc + 1, Ls, .int (x >>> (y &&& 31)) :: r) | _ => none
  | .iushr => match st with | .int y :: .int x :: r => some (pc + 1, Ls, .int (XT.ushr x y) :: r) | _ => none
  | .idiv => match st with | .int y :: .int x :: r => (if y = 0 then none else some (pc + 1, Ls, .int (x / y) :: r)) | _ => none
  | .irem => match st with | .int y :: .int x :: r => (if y = 0 then none else some (pc + 1, Ls, .int (x - (x / y) * y) :: r)) | _ => none
  | .i2b => match st with | .int x :: r => some (pc + 1, Ls, .int (x.toInt8.toInt32) :: r) | _ => none
  | .i2l => match st with | .int x :: r => some (pc + 1, Ls, .long (x.toInt64) :: r) | _ => none
  | .lsub => match st with | .long y :: .long x :: r => some (pc + 1, Ls, .long (x - y) :: r) | _ => none
  | .lneg => match st with | .long x :: r => some (pc + 1, Ls, .long (-x) :: r) | _ => none
  | .lcmp => match st with | .long y :: .long x :: r => some (pc + 1, Ls, .int (XT.cmpL x y) :: r) | _ => none
  | .dup => match st with | x :: r => (if x.category = 1 then some (pc + 1, Ls, x :: x :: r) else none) | _ => none
  | .iinc k z => match Ls[k]? with | some (.val (.int x)) => (match storeLocals Ls k (.int (x + Int32.ofInt z)) with | some L => some (pc + 3, L, st) | none => none) | _ => none
  | .goto o => if 0 ≤ (pc : Int) + o then some (((pc : Int) + o).toNat, Ls, st) else none
  | _ => none
/-- where the next instruction of a straight run lies -/
def nextPc (i : Instr) (pc : Nat) : Nat := match i with | .goto o => ((pc : Int) + o).toNat | _ => pc + ilen i
def fetchOk (bytes : ByteArray) : Nat → List Instr → Bool
  | _, [] => true
  | pc, i :: r => decide (decode bytes pc = .ok (i, ilen i)) && fetchOk bytes (nextPc i pc) r
def prun : Nat → Array Slot → List Value → List Instr → Option (Nat × Array Slot × List Value)
  | pc, Ls, st, [] => some (pc, Ls, st)
  | pc, Ls, st, i :: r => match pstep i pc Ls st with | some (pc', Ls', st') => if nextPc i pc = pc' then prun pc' Ls' st' r else none | none => none
variable {p : Program} {l : Launch} {e : Env} {R : Room} {s : State} {m : MethodId} {args : Array Value} {below : List Frame} {meth : Method} {c : Code} {T : State} {h : Heap} {cells slots n0 : Nat} {Z : State} {a0 : Array Value} {bytes : ByteArray} {own : String} {maxL : Nat} {ret : Option FieldType} {nm : String} {P : State → Outcome → Prop}
theorem via {T' : State} {g g' : JFrame} (st : ∀ target, Steps p.tables e below (T'.setTop g') target → Steps p.tables e below (T.setTop g) target) (k : Con p e below T' g' P) : Con p e below T g P := by
  obtain ⟨t, o, h1, r⟩ := k; exact ⟨t, o, st t h1, r⟩
theorem own_run1 (S : St p l e R s m args below meth c n0 T h cells slots) (C : Cx p s Z m meth c bytes own maxL ret nm) {i : Instr} {pc : Nat} {Ls : Array Slot} {st : List Value} {q : Nat × Array Slot × List Value}
    (hd : decode bytes pc = .ok (i, ilen i)) (hp : pstep i pc Ls st = some q) (k : Con p e below T (mkF m q.1 q.2.1 q.2.2) P) : Con p e below T (mkF m pc Ls st) P := by
  obtain ⟨locs, X, -⟩ := S
  obtain ⟨hx, -, hby, -⟩ := C
  have hd' := hb hby hd
  unfold pstep at hp
  split at hp
  · split at hp
    · cases hp; exact via (fun t z => XS.iloadN X.here hx rfl hd' ‹_› z) k
    · cases hp
  · split at hp
    · cases hp; exact via (fun t z => XS.iload X.here hx rfl hd' ‹_› z) k
    · cases hp
  · split at hp
    · split at hp
      · cases hp; exact via (fun t z => XS.aloadN X.here hx rfl hd' ‹_› ‹_› z) k
      · cases hp
    · cases hp
  · split at hp
    · split at hp
      · cases hp; exact via (fun t z => XS.aload X.here hx rfl hd' ‹_› ‹_› z) k
      · cases hp
    · cases hp
  · split at hp
    · cases hp; exact via (fun t z => XT.lload X.here hx rfl hd' ‹_› z) k
    · cases hp
  · split at hp
    · split at hp
      · cases hp; exact via (fun t z => XS.istoreN X.here hx rfl hd' rfl ‹_› z) k
      · cases hp
    · cases hp
  · split at hp
    · split at hp
      · cases hp; exact via (fun t z => XS.istore X.here hx rfl hd' rfl ‹_› z) k
      · cases hp
    · cases hp
  · split at hp
    · split at hp
      · split at hp
        · cases hp; exact via (fun t z => XS.astoreN X.here hx rfl hd' rfl ‹_› ‹_› z) k
        · cases hp
      · cases hp
    · cases hp
  · split at hp
    · split at hp
      · split at hp
        · cases hp; exact via (fun t z => XS.astore X.here hx rfl hd' rfl ‹_› ‹_› z) k
        · cases hp
      · cases hp
    · cases hp
  · split at hp
    · split at hp
      · cases hp; exact via (fun t z => XT.lstore X.here hx rfl hd' rfl ‹_› z) k
      · cases hp
    · cases hp
  · cases hp; exact via (fun t z => XS.iconst X.here hx rfl hd' z) k
  · cases hp; exact via (fun t z => XT.lconst X.here hx rfl hd' z) k
  · cases hp; exact via (fun t z => XS.bipush X.here hx rfl hd' z) k
  · cases hp; exact via (fun t z => XS.sipush X.here hx rfl hd' z) k
  · cases hp; exact via (fun t z => XS.aconstNull X.here hx rfl hd' z) k
  · split at hp
    · cases hp; exact via (fun t z => XS.iadd X.here hx rfl hd' rfl z) k
    · cases hp
  · split at hp
    · cases hp; exact via (fun t z => XS.isub X.here hx rfl hd' rfl z) k
    · cases hp
  · split at hp
    · cases hp; exact via (fun t z => XS.imul X.here hx rfl hd' rfl z) k
    · cases hp
  · split at hp
    · cases hp; exact via (fun t z => XS.iand X.here hx rfl hd' rfl z) k
    · cases hp
  · split at hp
    · cases hp; exact via (fun t z => XT.ior X.here hx rfl hd' rfl z) k
    · cases hp
  · split at hp
    · cases hp; exact via (fun t z => XT.ishl X.here hx rfl hd' rfl z) k
    · cases hp
  · split at hp
    · cases hp; exact via (fun t z => XT.ishr X.here hx rfl hd' rfl z) k
    · cases hp
  · split at hp
    · cases hp; exact via (fun t z => XT.iushr X.here hx rfl hd' rfl z) k
    · cases hp
  · split at hp
    · split at hp
      · cases hp
      · cases hp; exact via (fun t z => XS.idiv X.here hx rfl hd' rfl ‹_› z) k
    · cases hp
  · split at hp
    · split at hp
      · cases hp
      · cases hp; exact via (fun t z => XS.irem X.here hx rfl hd' rfl ‹_› z) k
    · cases hp
  · split at hp
    · cases hp; exact via (fun t z => XT.i2b X.here hx rfl hd' rfl z) k
    · cases hp
  · split at hp
    · cases hp; exact via (fun t z => XT.i2l X.here hx rfl hd' rfl z) k
    · cases hp
  · split at hp
    · cases hp; exact via (fun t z => XT.lsub X.here hx rfl hd' rfl z) k
    · cases hp
  · split at hp
    · cases hp; exact via (fun t z => XT.lneg X.here hx rfl hd' rfl z) k
    · cases hp
  · split at hp
    · cases hp; exact via (fun t z => XT.lcmp X.here hx rfl hd' rfl z) k
    · cases hp
  · split at hp
    · split at hp
      · cases hp; exact via (fun t z => XS.dup X.here hx rfl hd' rfl ‹_› z) k
      · cases hp
    · cases hp
  · split at hp
    · split at hp
      · cases hp; exact via (fun t z => XS.iinc X.here hx rfl hd' ‹_› ‹_› z) k
      · cases hp
    · cases hp
  · split at hp
    · cases hp; exact via (fun t z => XS.goto X.here hx rfl rfl hd' ‹_› rfl z) k
    · cases hp
  · cases hp
/-- a straight run of plain instructions -/
theorem own_run (S : St p l e R s m args below meth c n0 T h cells slots) (C : Cx p s Z m meth c bytes own maxL ret nm) {pc' : Nat} {Ls' : Array Slot} {st' : List Value} :
    ∀ (is : List Instr) {pc : Nat} {Ls : Array Slot} {st : List Value}, fetchOk bytes pc is = true → prun pc Ls st is = some (pc', Ls', st') → Con p e below T (mkF m pc' Ls' st') P → Con p e below T (mkF m pc Ls st) P
  | [], pc, Ls, st, _, hp, k => by cases hp; exact k
  | i :: r, pc, Ls, st, hf, hp, k => by
    simp only [fetchOk, Bool.and_eq_true, decide_eq_true_eq] at hf
    simp only [prun] at hp
    split at hp
    · split at hp
      · rename_i pc1 Ls1 st1 h1 h2
        subst h2
        exact own_run1 S C hf.1 h1 (own_run S C r hf.2 hp k)
      · cases hp
    · cases hp
end OwnKit
section OwnKit2
variable {p : Program} {l : Launch} {e : Env} {R : Room} {s : State} {m : MethodId} {args : Array Value} {below : List Frame} {meth : Method} {c : Code} {T : State} {h h' : Heap} {cells slots n0 : Nat} {Z : State} {a0 : Array Value} {bytes : ByteArray} {own : String} {maxL : Nat} {ret : Option FieldType} {nm : String} {P : State → Outcome → Prop} {pc pc' : Nat} {Ls : Array Slot} {st : List Value}
/-! branches -/
theorem own_icmp (S : St p l e R s m args below meth c n0 T h cells slots) (C : Cx p s Z m meth c bytes own maxL ret nm) {cd : ClassFile.Cond} {o : Int} {x y : Int32} (hd : decode bytes pc = .ok (.if_icmp cd o, 3)) (hp : 0 ≤ (pc : Int) + o ∧ ((pc : Int) + o).toNat = pc')
    (yes : if_icmp.holds cd x y = true → Con p e below T (mkF m pc' Ls st) P) (no : if_icmp.holds cd x y = false → Con p e below T (mkF m (pc + 3) Ls st) P) : Con p e below T (mkF m pc Ls (.int y :: .int x :: st)) P := by
  obtain ⟨locs, X, -⟩ := S
  obtain ⟨hx, -, hby, -⟩ := C
  cases hc : if_icmp.holds cd x y with
  | true => exact via (fun t z => XS.icmpYes X.here hx rfl rfl (hb hby hd) rfl hc hp.1 hp.2 z) (yes hc)
  | false => exact via (fun t z => XS.icmpNo X.here hx rfl (hb hby hd) rfl hc z) (no hc)
theorem own_if (S : St p l e R s m args below meth c n0 T h cells slots) (C : Cx p s Z m meth c bytes own maxL ret nm) {cd : ClassFile.Cond} {o : Int} {x : Int32} (hd : decode bytes pc = .ok (.ifCond cd o, 3)) (hp : 0 ≤ (pc : Int) + o ∧ ((pc : Int) + o).toNat = pc')
    (yes : if_icmp.holds cd x 0 = true → Con p e below T (mkF m pc' Ls st) P) (no : if_icmp.holds cd x 0 = false → Con p e below T (mkF m (pc + 3) Ls st) P) : Con p e below T (mkF m pc Ls (.int x :: st)) P := by
  obtain ⟨locs, X, -⟩ := S
  obtain ⟨hx, -, hby, -⟩ := C
  cases hc : if_icmp.holds cd x 0 with
  | true => exact via (fun t z => XS.ifYes X.here hx rfl rfl (hb hby hd) rfl ((if0 cd x).trans hc) hp.1 hp.2 z) (yes hc)
  | false => exact via (fun t z => XS.ifNo X.here hx rfl (hb hby hd) rfl ((if0 cd x).trans hc) z) (no hc)
theorem own_ifnullNo (S : St p l e R s m args below meth c n0 T h cells slots) (C : Cx p s Z m meth c bytes own maxL ret nm) {o : Int} {b : Addr} (hd : decode bytes pc = .ok (.ifnull o, 3))
    (k : Con p e below T (mkF m (pc + 3) Ls st) P) : Con p e below T (mkF m pc Ls (.ref b :: st)) P := by
  obtain ⟨locs, X, -⟩ := S
  obtain ⟨hx, -, hby, -⟩ := C
  exact via (fun t z => XS.ifnullNo X.here hx rfl (hb hby hd) rfl z) k
theorem hh_lt {x y : Int32} : (if_icmp.holds .lt x y = true ↔ x.toInt < y.toInt) ∧ (if_icmp.holds .lt x y = false ↔ y.toInt ≤ x.toInt) := by
  rw [show if_icmp.holds .lt x y = decide (x < y) from rfl, decide_eq_true_eq, decide_eq_false_iff_not, Int32.lt_iff_toInt_lt]; omega
theorem hh_ge {x y : Int32} : (if_icmp.holds .ge x y = true ↔ y.toInt ≤ x.toInt) ∧ (if_icmp.holds .ge x y = false ↔ x.toInt < y.toInt) := by
  rw [show if_icmp.holds .ge x y = decide (y ≤ x) from rfl, decide_eq_true_eq, decide_eq_false_iff_not, Int32.le_iff_toInt_le]; omega
theorem hh_gt {x y : Int32} : (if_icmp.holds .gt x y = true ↔ y.toInt < x.toInt) ∧ (if_icmp.holds .gt x y = false ↔ x.toInt ≤ y.toInt) := by
  rw [show if_icmp.holds .gt x y = decide (y < x) from rfl, decide_eq_true_eq, decide_eq_false_iff_not, Int32.lt_iff_toInt_lt]; omega
theorem hh_le {x y : Int32} : (if_icmp.holds .le x y = true ↔ x.toInt ≤ y.toInt) ∧ (if_icmp.holds .le x y = false ↔ y.toInt < x.toInt) := by
  rw [show if_icmp.holds .le x y = decide (x ≤ y) from rfl, decide_eq_true_eq, decide_eq_false_iff_not, Int32.le_iff_toInt_le]; omega
theorem hh_eq {x y : Int32} : (if_icmp.holds .eq x y = true ↔ x.toInt = y.toInt) ∧ (if_icmp.holds .eq x y = false ↔ x.toInt ≠ y.toInt) := by
  rw [show if_icmp.holds .eq x y = (x == y) from rfl, beq_iff_eq, beq_eq_false_iff_ne, ne_eq, ← Int32.toInt_inj]; exact ⟨Iff.rfl, Iff.rfl⟩
theorem hh_ne {x y : Int32} : (if_icmp.holds .ne x y = true ↔ x.toInt ≠ y.toInt) ∧ (if_icmp.holds .ne x y = false ↔ x.toInt = y.toInt) := by
  rw [show if_icmp.holds .ne x y = (x != y) from rfl, bne_iff_ne, bne_eq_false_iff_eq, ne_eq, ← Int32.toInt_inj]; exact ⟨Iff.rfl, Iff.rfl⟩
/-! constants -/
theorem own_ldc (S : St p l e R s m args below meth c n0 T h cells slots) (C : Cx p s Z m meth c bytes own maxL ret nm) {idx : Nat} {v : Int32} (w : (Jvm.Cond.constant own idx v).before a0 Z = true) (hd : decode bytes pc = .ok (.ldc idx, 2))
    (k : Con p e below T (mkF m (pc + 2) Ls (.int v :: st)) P) : Con p e below T (mkF m pc Ls st) P := by
  obtain ⟨locs, X, -⟩ := S
  obtain ⟨hx, hZ, hby, hown, -⟩ := C
  exact via (X.ldcInt hx hown (mvT hZ w) (g := mkF m pc Ls st) rfl (hb hby hd)) k
/-- a remainder whose divisor isn't 0 -/
theorem own_irem (S : St p l e R s m args below meth c n0 T h cells slots) (C : Cx p s Z m meth c bytes own maxL ret nm) {x y : Int32} (hy : y ≠ 0) (hd : decode bytes pc = .ok (.irem, 1))
    (k : Con p e below T (mkF m (pc + 1) Ls (.int (x - (x / y) * y) :: st)) P) : Con p e below T (mkF m pc Ls (.int y :: .int x :: st)) P := by
  obtain ⟨locs, X, -⟩ := S
  obtain ⟨hx, hZ, hby, hown, -⟩ := C
  exact via (fun t z => XS.irem X.here hx rfl (hb hby hd) rfl hy z) k
/-! arrays of ints -/
def Ai (Z : State) (h : Heap) (a : Addr) (vs : List Int32) : Prop :=
  ∃ cl : Cell, Arr Z h a cl .int ∧ cl.slots.size = vs.length ∧ vs.length < 2 ^ 31 ∧ ∀ j, j < vs.length → cl.slots[j]? = some (.int (vs.getD j 0))
theorem Ai.lt {a : Addr} {vs : List Int32} (A : Ai Z h a vs) : a < h.size := by obtain ⟨c, A, -⟩ := A; exact A.lt
theorem Ai.ext {a : Addr} {vs : List Int32} (A : Ai Z h a vs) (E : Ext h h') : Ai Z h' a vs := by obtain ⟨c, A, r⟩ := A; exact ⟨c, A.ext E, r⟩
theorem Ai.other {a b : Addr} {vs : List Int32} {sl : Nat} {v : Value} (A : Ai Z h b vs) (W : Wr h h' a sl v) (q : b ≠ a) : Ai Z h' b vs := by obtain ⟨c, A, r⟩ := A; exact ⟨c, A.other W q, r⟩
theorem Ai.keep {a : Addr} {vs : List Int32} {ws : List Addr} (A : Ai Z h a vs) (K : Keep h h' ws) (q : a ∉ ws) : Ai Z h' a vs := by obtain ⟨c, A, r⟩ := A; exact ⟨c, ⟨K.2.1 a c A.1 q, A.2⟩, r⟩
theorem Ai.small {a : Addr} {vs : List Int32} (A : Ai Z h a vs) : vs.length < 2 ^ 31 := by obtain ⟨c, -, -, r, -⟩ := A; exact r
theorem own_idx {j : Int32} {n k : Nat} (hj : 0 ≤ j.toInt ∧ j.toInt < (n : Int)) (e : k = n) : ¬ (j < 0 ∨ k ≤ j.toNatClampNeg) := by
  subst e
  rw [Int32.lt_iff_toInt_lt, show (0 : Int32).toInt = 0 from rfl, show j.toNatClampNeg = j.toInt.toNat from rfl]
  omega
theorem own_newarray (S : St p l e R s m args below meth c n0 T h cells slots) (C : Cx p s Z m meth c bytes own maxL ret nm) (w : (Jvm.Cond.arrayClass .int).before a0 Z = true) (hd : decode bytes pc = .ok (.newarray .int, 2)) {n : Int32} (hn : 0 ≤ n.toInt) (cap : Nat) (hcap : n.toNatClampNeg ≤ cap) (hbig : cap * 8 ≤ 536870912)
    (hc : cells + 1 ≤ R.cells) (hs : slots + cap ≤ R.slots) {vs : List Int32} (hvs : List.replicate n.toNatClampNeg (0 : Int32) = vs)
    (k : ∀ (T' : State) (h' : Heap) (a : Addr), a = h.size → St p l e R s m args below meth c n0 T' h' (cells + 1) (slots + cap) → Ext h h' → n0 ≤ a → Ai Z h' a vs → Con p e below T' (mkF m (pc + 2) Ls (.ref a :: st)) P) : Con p e below T (mkF m pc Ls (.int n :: st)) P := by
  obtain ⟨locs, X, e0, N, Z0⟩ := S
  obtain ⟨hx, hZ, hby, hown, -⟩ := C
  have hneg : ¬ n < 0 := by rw [Int32.lt_iff_toInt_lt, show (0 : Int32).toInt = 0 from rfl]; omega
  obtain ⟨T', h', cA, X', e', E, A, stp⟩ := newP X hx hZ (aty := .int) w e0 (g := mkF m pc Ls (.int n :: st)) rfl (hb hby hd) rfl hneg (cap := cap) hcap hbig hc hs
  refine via stp (k T' h' h.size rfl ⟨locs, X', e', N, Nat.le_trans Z0 E.1⟩ E Z0 ⟨_, A, ?_, ?_, fun j hj => ?_⟩)
  · rw [sz_new, ← hvs, List.length_replicate]
  · rw [← hvs, List.length_replicate, show n.toNatClampNeg = n.toInt.toNat from rfl]
    have := n.toInt_lt
    omega
  · subst hvs
    rw [List.length_replicate] at hj
    have hg : (List.replicate n.toNatClampNeg (0 : Int32)).getD j 0 = 0 := by
      rw [List.getD_eq_getElem?_getD, List.getElem?_replicate]; split <;> rfl
    rw [hg]
    show (Array.replicate n.toNatClampNeg (Value.int 0))[j]? = _
    rw [Array.getElem?_replicate, if_pos hj]
theorem own_alen (S : St p l e R s m args below meth c n0 T h cells slots) (C : Cx p s Z m meth c bytes own maxL ret nm) {a : Addr} {vs : List Int32} (A : Ai Z h a vs) (hd : decode bytes pc = .ok (.arraylength, 1)) {v : Int32} (hv : Int32.ofNat vs.length = v)
    (k : Con p e below T (mkF m (pc + 1) Ls (.int v :: st)) P) : Con p e below T (mkF m pc Ls (.ref a :: st)) P := by
  obtain ⟨locs, X, e0, N, Z0⟩ := S
  obtain ⟨hx, hZ, hby, hown, -⟩ := C
  obtain ⟨cl, A, hsz, hsm, hat⟩ := A
  refine via (fun t z => X.arraylength hx (cell := cl) (by rw [e0]; exact A.1) (State.isArrayOf_alike hZ.alike A.2.1) (g := mkF m pc Ls (.ref a :: st)) rfl (rest := st) rfl (hb hby hd) t z) ?_
  rw [hsz]; subst hv; exact k
theorem own_iaload (S : St p l e R s m args below meth c n0 T h cells slots) (C : Cx p s Z m meth c bytes own maxL ret nm) {a : Addr} {vs : List Int32} (A : Ai Z h a vs) (hd : decode bytes pc = .ok (.iaload, 1)) {j v : Int32} (hj : 0 ≤ j.toInt ∧ j.toInt < (vs.length : Int)) (hv : vs.getD j.toNatClampNeg 0 = v)
    (k : Con p e below T (mkF m (pc + 1) Ls (.int v :: st)) P) : Con p e below T (mkF m pc Ls (.int j :: .ref a :: st)) P := by
  obtain ⟨locs, X, e0, N, Z0⟩ := S
  obtain ⟨hx, hZ, hby, hown, -⟩ := C
  obtain ⟨cl, A, hsz, hsm, hat⟩ := A
  have hlt : j.toNatClampNeg < vs.length := by rw [show j.toNatClampNeg = j.toInt.toNat from rfl]; omega
  subst hv
  exact via (fun t z => X.iaload hx (j := j) (v := .int (vs.getD j.toNatClampNeg 0)) (by rw [e0]; exact A.1) (State.isArrayOf_alike hZ.alike A.2.1) A.2.2 (own_idx hj hsz) (hat _ hlt) (g := mkF m pc Ls (.int j :: .ref a :: st)) rfl rfl (hb hby hd) t z) k
theorem own_iastore (S : St p l e R s m args below meth c n0 T h cells slots) (C : Cx p s Z m meth c bytes own maxL ret nm) {a : Addr} {vs vs' : List Int32} (A : Ai Z h a vs) (hd : decode bytes pc = .ok (.iastore, 1)) {j x : Int32} (hj : 0 ≤ j.toInt ∧ j.toInt < (vs.length : Int)) (ge : n0 ≤ a) (hv : vs.set j.toNatClampNeg x = vs')
    (k : ∀ (T' : State) (h' : Heap), St p l e R s m args below meth c n0 T' h' cells slots → Keep h h' [a] → Ai Z h' a vs' → Con p e below T' (mkF m (pc + 1) Ls st) P) : Con p e below T (mkF m pc Ls (.int x :: .int j :: .ref a :: st)) P := by
  obtain ⟨locs, X, e0, N, Z0⟩ := S
  obtain ⟨hx, hZ, hby, hown, -⟩ := C
  obtain ⟨cl, A, hsz, hsm, hat⟩ := A
  have hlt : j.toNatClampNeg < vs.length := by rw [show j.toNatClampNeg = j.toInt.toNat from rfl]; omega
  obtain ⟨T', h', X', e', W, stp⟩ := stI X hx hZ e0 A (j := j) (x := x) (own_idx hj hsz) (g := mkF m pc Ls (.int x :: .int j :: .ref a :: st)) rfl rfl (hb hby hd)
  subst hv
  refine via stp (k T' h' ⟨_, X', e', Fr.snoc X' N ge, Nat.le_trans Z0 (Keep.of_wr W).1⟩ (Keep.of_wr W) ⟨_, A.same W, ?_, ?_, fun i hi => ?_⟩)
  · rw [sz_set, List.length_set]; exact hsz
  · rw [List.length_set]; exact hsm
  · rw [List.length_set] at hi
    by_cases u : j.toNatClampNeg = i
    · subst u
      rw [List.getD_eq_getElem?_getD, List.getElem?_set_self hi]
      simp only [Cell.setSlot]
      rw [Array.getElem?_setIfInBounds_self_of_lt (by rw [hsz]; exact hi)]
      rfl
    · have := hat i hi
      rw [List.getD_eq_getElem?_getD] at this ⊢
      rw [List.getElem?_set_ne u, ← this]
      simp only [Cell.setSlot]
      rw [Array.getElem?_setIfInBounds_ne u]
/-! what a body leaves -/
def Pq (s : State) (rm : Room) (n0 : Nat) (Q : Option Value → Heap → Prop) : State → Outcome → Prop := fun U' o => ∃ v L, o = .returned v ∧ (Fr n0 L ∧ n0 ≤ U'.heap.size ∧ Q v U'.heap) ∧ FrameEnd s o U' L rm.cells rm.slots
variable {Q : Option Value → Heap → Prop}
theorem own_reti (S : St p l e R s m args below meth c n0 T h cells slots) (C : Cx p s Z m meth c bytes own maxL (some .int) nm) {z : Int32} (hd : decode bytes pc = .ok (.ireturn, 1)) (hc : cells ≤ R.cells) (hs : slots ≤ R.slots) (q : Q (some (.int z)) h) : Con p e below T (mkF m pc Ls (.int z :: st)) (Pq s R n0 Q) := by
  obtain ⟨locs, X, e0, N, Z0⟩ := S
  obtain ⟨hx, hZ, hby, hown, hml, hret, hlk, -⟩ := C
  obtain ⟨fs, hr, hrun, hended, hW, hsame⟩ := X.leave (v := some (.int z)) (fun h => by rw [hret] at h; cases h) hlk
  subst e0
  exact ⟨_, _, retI X hx hret (hb hby hd) hr, hrun, hended, _, locs, rfl, ⟨N, Z0, q⟩, ⟨_, rfl⟩, hW, hsame.mono hc hs⟩
theorem own_retz (S : St p l e R s m args below meth c n0 T h cells slots) (C : Cx p s Z m meth c bytes own maxL (some .boolean) nm) {z z' : Int32} (hz : z &&& 1 = z') (hd : decode bytes pc = .ok (.ireturn, 1)) (hc : cells ≤ R.cells) (hs : slots ≤ R.slots) (q : Q (some (.int z')) h) : Con p e below T (mkF m pc Ls (.int z :: st)) (Pq s R n0 Q) := by
  obtain ⟨locs, X, e0, N, Z0⟩ := S
  obtain ⟨hx, hZ, hby, hown, hml, hret, hlk, -⟩ := C
  obtain ⟨fs, hr, hrun, hended, hW, hsame⟩ := X.leave (v := some (.int (nar .boolean z))) (fun h => by rw [hret] at h; cases h) hlk
  subst e0
  subst hz
  exact ⟨_, _, retN X hx (t := .boolean) hret (Or.inl rfl) (hb hby hd) hr, hrun, hended, _, locs, rfl, ⟨N, Z0, q⟩, ⟨_, rfl⟩, hW, hsame.mono hc hs⟩
theorem own_reta (S : St p l e R s m args below meth c n0 T h cells slots) {ft : FieldType} (C : Cx p s Z m meth c bytes own maxL (some ft) nm) (hft : ft.isReference = true) {a : Addr} (hd : decode bytes pc = .ok (.areturn, 1)) (hc : cells ≤ R.cells) (hs : slots ≤ R.slots) (q : Q (some (.ref a)) h) : Con p e below T (mkF m pc Ls [.ref a]) (Pq s R n0 Q) := by
  obtain ⟨locs, X, e0, N, Z0⟩ := S
  obtain ⟨hx, hZ, hby, hown, hml, hret, hlk, -⟩ := C
  obtain ⟨fs, hr, hrun, hended, hW, hsame⟩ := X.leave (v := some (.ref a)) (fun h => by rw [hret] at h; cases h) hlk
  subst e0
  exact ⟨_, _, X.areturnOut hx rfl hret hft (hb hby hd) hr, hrun, hended, _, locs, rfl, ⟨N, Z0, q⟩, ⟨_, rfl⟩, hW, hsame.mono hc hs⟩
theorem own_retv (S : St p l e R s m args below meth c n0 T h cells slots) (C : Cx p s Z m meth c bytes own maxL none nm) (hd : decode bytes pc = .ok (.return_, 1)) (hc : cells ≤ R.cells) (hs : slots ≤ R.slots) (q : Q none h) : Con p e below T (mkF m pc Ls []) (Pq s R n0 Q) := by
  obtain ⟨locs, X, e0, N, Z0⟩ := S
  obtain ⟨hx, hZ, hby, hown, hml, hret, hlk, -⟩ := C
  obtain ⟨fs, hr, hrun, hended, hW, hsame⟩ := X.leave (v := none) (fun _ => rfl) hlk
  subst e0
  exact ⟨_, _, X.returnOut hx hret (hb hby hd) hr, hrun, hended, _, locs, rfl, ⟨N, Z0, q⟩, ⟨_, rfl⟩, hW, hsame.mono hc hs⟩
/-! a body's contract, and how it is entered -/
def Mt (l : Launch) (Z : State) (y : MethodName) (bytes : ByteArray) (maxL : Nat) (ret : Option FieldType) (ws : List Jvm.Cond) (rm : Room) (as : Array Value) (h0 : Heap) (n0 : Nat) (Q : Option Value → Heap → Prop) : Prop :=
  MetFree l y (head1 (Jvm.Cond.code y bytes maxL ret :: ws) rm) (fun a U => a = as ∧ Z.Warmed39 U.vm ∧ U.heap = h0) (fun _ _ _ _ _ => True) (fun _ U o U' => ∃ v L, o = .returned v ∧ (Fr n0 L ∧ n0 ≤ U'.heap.size ∧ Q v U'.heap) ∧ FrameEnd U o U' L rm.cells rm.slots)
theorem Mt.of {y : MethodName} {ws : List Jvm.Cond} {rm : Room} {as : Array Value} (pn : plainFor y = true) (Z0 : n0 ≤ h.size) (ef : ∀ m, entryFrame m as maxL = mkF m 0 Ls []) (ho : y.cls = own) (hn : y.name = nm)
    (body : ∀ (p : Program) (e : Env) (s : State) (m : MethodId) (below : List Frame) (meth : Method) (c : Code) (T : State), Cx p s Z m meth c bytes own maxL ret nm → St p l e rm s m as below meth c n0 T h 0 0 → Con p e below T (mkF m 0 Ls []) (Pq s rm n0 Q)) :
    Mt l Z y bytes maxL ret ws rm as h n0 Q := by
  refine MetFree.of_bodySF pn hisR ?_
  intro p e s m args below meth c s₁ Bd hml0 hP hK
  obtain ⟨rfl, hZ, hh⟩ := hP
  have X0 : Stand p l e rm s m args below meth c s₁ [] 0 0 := Stand.of_body Bd
  have e0 : s₁.heap = h := by rw [← hh, Bd.state]; rfl
  subst ho hn
  obtain ⟨t, o, h1, h2, h3, h4⟩ := body p e s m below meth c s₁ ⟨Bd.exec, hZ, Bd.bytes, findClass_of_methodNamed Bd.named, hml0, Bd.returns, Bd.notSynchronized, (name_of_methodNamed Bd.named Bd.method).1⟩ ⟨[], X0, e0, Fr.nil n0, Z0⟩
  exact ⟨t, o, castTop (ef m) h1, h2, h3, h4⟩
/-! calls by contract -/
theorem own_callS (S : St p l e R s m args below meth c n0 T h cells slots) (C : Cx p s Z m meth c bytes own maxL ret nm) {y : MethodName} {yb : ByteArray} {yL : Nat} {yr : Option FieldType} {rm : Room} {idx : Nat} (w1 : (Jvm.Cond.methodLink own idx y).before a0 Z = true) (w2 : (Jvm.Cond.static y).before a0 Z = true) (w3 : (Jvm.Cond.initialized y.cls).before a0 Z = true) (w4 : (Jvm.Cond.code y yb yL yr).before a0 Z = true)
    (hy : y.cls ≠ "java/lang/invoke/MethodHandle" ∧ y.cls ≠ "java/lang/invoke/VarHandle") {as : Array Value} (hM : Mt l Z y yb yL yr [] rm as h n0 Q) (W : Nat) (hf : rm.frames + 1 ≤ R.frames) (hl : W + (yL + 11) + rm.locals ≤ R.locals) {ps : List FieldType} {r : Option FieldType} (pd : parseMethodDescriptor y.desc = some ⟨ps, r⟩) (argsL rest : List Value) (hn : argsL.length = ps.length) (ha : argsL.toArray = as)
    (hst : st = argsL.reverse ++ rest) (hW : (rest.map fun v => v.category).sum ≤ W) (hsz : Ls.size = maxL) (hd : decode bytes pc = .ok (.invokestatic idx, 3)) (hc : cells + rm.cells ≤ R.cells) (hs : slots + rm.slots ≤ R.slots)
    (k : ∀ (v : Option Value) (T' : State) (h' : Heap), St p l e R s m args below meth c n0 T' h' (cells + rm.cells) (slots + rm.slots) → Q v h' → Con p e below T' (mkF m (pc + 3) Ls (v.toList ++ rest)) P) : Con p e below T (mkF m pc Ls st) P := by
  obtain ⟨locs, X, e0, N, Z0⟩ := S
  obtain ⟨hx, hZ, hby, hown, hml, -⟩ := C
  obtain ⟨v, vm1, ⟨T', L', k', n'⟩, -, X', ⟨Lc, hQ, l1, y1, z1⟩, stp⟩ := Jvm.LawKit.callS X hx (y := y) hown (mvT hZ w1) (mvT hZ w2) (mvT hZ w3) (mvT hZ w4) hy (backOf (W := W) (Q := fun v h L => Fr n0 L ∧ n0 ≤ h.size ∧ Q v h) hM hZ w4 w3 hf hl) (g := mkF m pc Ls st) rfl (by rw [hml]; exact hsz) (argsL := argsL) (rest := rest) (lenOf pd hn) hst (by show 2 * 0 + _ ≤ _; omega) (hb hby hd) (fun _ _ => ⟨ha, e0, hc, hs⟩)
  dsimp only [Pt.U, Pt.locs, Pt.cells, Pt.slots] at X' l1 y1 z1 stp hQ
  subst l1 y1 z1
  exact via stp (k v T' _ ⟨_, X', rfl, Fr.app N hQ.1, hQ.2.1⟩ hQ.2.2)
theorem own_callI (S : St p l e R s m args below meth c n0 T h cells slots) (C : Cx p s Z m meth c bytes own maxL ret nm) {y : MethodName} {yb : ByteArray} {yL : Nat} {rm : Room} {idx : Nat} (hy1 : y.name = "<init>") (w1 : (Jvm.Cond.methodLink own idx y).before a0 Z = true) (w2 : (Jvm.Cond.instanceMethod y).before a0 Z = true) (w3 : (Jvm.Cond.initialized y.cls).before a0 Z = true) (w4 : (Jvm.Cond.code y yb yL none).before a0 Z = true)
    (hy : y.cls ≠ "java/lang/invoke/MethodHandle" ∧ y.cls ≠ "java/lang/invoke/VarHandle") {as : Array Value} (hM : Mt l Z y yb yL none [] rm as h n0 Q) (W : Nat) (hf : rm.frames + 1 ≤ R.frames) (hl : W + (yL + 11) + rm.locals ≤ R.locals) {ps : List FieldType} {r : Option FieldType} (pd : parseMethodDescriptor y.desc = some ⟨ps, r⟩) (a : Addr) (argsL rest : List Value) (hn : argsL.length = ps.length) (ha : (.ref a :: argsL).toArray = as)
    (hst : st = argsL.reverse ++ .ref a :: rest) (hW : (rest.map fun v => v.category).sum ≤ W) (hsz : Ls.size = maxL) (hd : decode bytes pc = .ok (.invokespecial idx, 3)) (hc : cells + rm.cells ≤ R.cells) (hs : slots + rm.slots ≤ R.slots)
    (k : ∀ (v : Option Value) (T' : State) (h' : Heap), St p l e R s m args below meth c n0 T' h' (cells + rm.cells) (slots + rm.slots) → Q v h' → Con p e below T' (mkF m (pc + 3) Ls (v.toList ++ rest)) P) : Con p e below T (mkF m pc Ls st) P := by
  obtain ⟨locs, X, e0, N, Z0⟩ := S
  obtain ⟨hx, hZ, hby, hown, hml, -⟩ := C
  obtain ⟨v, vm1, ⟨T', L', k', n'⟩, -, X', ⟨Lc, hQ, l1, y1, z1⟩, stp⟩ := X.specialBack hx (y := y) hy1 hown (mvT hZ w1) (mvT hZ w2) (mvT hZ w4) hy (backOf (W := W) (Q := fun v h L => Fr n0 L ∧ n0 ≤ h.size ∧ Q v h) hM hZ w4 w3 hf hl) (g := mkF m pc Ls st) rfl (by rw [hml]; exact hsz) (Steps.refl _) (a := a) (argsL := argsL) (rest := rest) (lenOf pd hn) hst (by show 2 * 0 + _ ≤ _; omega) (hb hby hd) (fun _ _ => ⟨ha, e0, hc, hs⟩)
  dsimp only [Pt.U, Pt.locs, Pt.cells, Pt.slots] at X' l1 y1 z1 stp hQ
  subst l1 y1 z1
  exact via (fun t z => stp.trans z) (k v T' _ ⟨_, X', rfl, Fr.app N hQ.1, hQ.2.1⟩ hQ.2.2)
theorem own_callV (S : St p l e R s m args below meth c n0 T h cells slots) (C : Cx p s Z m meth c bytes own maxL ret nm) {y : MethodName} {yb : ByteArray} {yL : Nat} {yr : Option FieldType} {rm : Room} {idx : Nat} {D : String} (w1 : (Jvm.Cond.methodLink own idx y).before a0 Z = true) (w2 : (Jvm.Cond.declares y).before a0 Z = true) (w3 : (Jvm.Cond.selects D y y).before a0 Z = true) (w4 : (Jvm.Cond.instanceMethod y).before a0 Z = true) (w5 : (Jvm.Cond.initialized y.cls).before a0 Z = true) (w6 : (Jvm.Cond.code y yb yL yr).before a0 Z = true)
    (hy : y.cls ≠ "java/lang/invoke/MethodHandle" ∧ y.cls ≠ "java/lang/invoke/VarHandle") {a : Addr} (E : Exa Z h a D) {as : Array Value} (hM : Mt l Z y yb yL yr [] rm as h n0 Q) (W : Nat) (hf : rm.frames + 1 ≤ R.frames) (hl : W + (yL + 11) + rm.locals ≤ R.locals) {ps : List FieldType} {r : Option FieldType} (pd : parseMethodDescriptor y.desc = some ⟨ps, r⟩) (argsL rest : List Value) (hn : argsL.length = ps.length) (ha : (.ref a :: argsL).toArray = as)
    (hst : st = argsL.reverse ++ .ref a :: rest) (hW : (rest.map fun v => v.category).sum ≤ W) (hsz : Ls.size = maxL) (hd : decode bytes pc = .ok (.invokevirtual idx, 3)) (hc : cells + rm.cells ≤ R.cells) (hs : slots + rm.slots ≤ R.slots)
    (k : ∀ (v : Option Value) (T' : State) (h' : Heap), St p l e R s m args below meth c n0 T' h' (cells + rm.cells) (slots + rm.slots) → Q v h' → Con p e below T' (mkF m (pc + 3) Ls (v.toList ++ rest)) P) : Con p e below T (mkF m pc Ls st) P := by
  obtain ⟨locs, X, e0, N, Z0⟩ := S
  obtain ⟨hx, hZ, hby, hown, hml, -⟩ := C
  obtain ⟨cq, kq, qa, qb, qc⟩ := isOf hZ e0 E
  obtain ⟨v, vm1, ⟨T', L', k', n'⟩, -, X', ⟨Lc, hQ, l1, y1, z1⟩, stp⟩ := X.virtualBack hx (y := y) (z := y) hown (mvT hZ w1) (mvT hZ w2) (notFace_of_selects (args := #[]) (mvT hZ w3)) (mvT hZ w3) (mvT hZ w4) hy (backOf (W := W) (Q := fun v h L => Fr n0 L ∧ n0 ≤ h.size ∧ Q v h) hM hZ w6 w5 hf hl) qa qc (g := mkF m pc Ls st) rfl (by rw [hml]; exact hsz) (Steps.refl _) (argsL := argsL) (rest := rest) (lenOf pd hn) hst (by show 2 * 0 + _ ≤ _; omega) (hb hby hd) (fun _ _ => ⟨ha, e0, hc, hs⟩)
  dsimp only [Pt.U, Pt.locs, Pt.cells, Pt.slots] at X' l1 y1 z1 stp hQ
  subst l1 y1 z1
  exact via (fun t z => stp.trans z) (k v T' _ ⟨_, X', rfl, Fr.app N hQ.1, hQ.2.1⟩ hQ.2.2)
theorem own_callU (S : St p l e R s m args below meth c n0 T h cells slots) (C : Cx p s Z m meth c bytes own maxL ret nm) {y z : MethodName} {yb : ByteArray} {yL : Nat} {yr : Option FieldType} {rm : Room} {idx : Nat} {D O : String} (w1 : (Jvm.Cond.methodLink own idx y).before a0 Z = true) (ws : (Jvm.Cond.sameMethod y.cls O y.name y.desc).before a0 Z = true) (w2 : (Jvm.Cond.declares ⟨O, y.name, y.desc⟩).before a0 Z = true) (w3 : (Jvm.Cond.selects D y z).before a0 Z = true) (w4 : (Jvm.Cond.instanceMethod z).before a0 Z = true) (w5 : (Jvm.Cond.initialized z.cls).before a0 Z = true) (w6 : (Jvm.Cond.code z yb yL yr).before a0 Z = true)
    (hy : O ≠ "java/lang/invoke/MethodHandle" ∧ O ≠ "java/lang/invoke/VarHandle") {a : Addr} (E : Exa Z h a D) {as : Array Value} (hM : Mt l Z z yb yL yr [] rm as h n0 Q) (W : Nat) (hf : rm.frames + 1 ≤ R.frames) (hl : W + (yL + 11) + rm.locals ≤ R.locals) {ps : List FieldType} {r : Option FieldType} (pd : parseMethodDescriptor y.desc = some ⟨ps, r⟩) (argsL rest : List Value) (hn : argsL.length = ps.length) (ha : (.ref a :: argsL).toArray = as)
    (hst : st = argsL.reverse ++ .ref a :: rest) (hW : (rest.map fun v => v.category).sum ≤ W) (hsz : Ls.size = maxL) (hd : decode bytes pc = .ok (.invokevirtual idx, 3)) (hc : cells + rm.cells ≤ R.cells) (hs : slots + rm.slots ≤ R.slots)
    (k : ∀ (v : Option Value) (T' : State) (h' : Heap), St p l e R s m args below meth c n0 T' h' (cells + rm.cells) (slots + rm.slots) → Q v h' → Con p e below T' (mkF m (pc + 3) Ls (v.toList ++ rest)) P) : Con p e below T (mkF m pc Ls st) P := by
  obtain ⟨locs, X, e0, N, Z0⟩ := S
  obtain ⟨hx, hZ, hby, hown, hml, -⟩ := C
  obtain ⟨cq, kq, qa, qb, qc⟩ := isOf hZ e0 E
  obtain ⟨v, vm1, ⟨T', L', k', n'⟩, -, X', ⟨Lc, hQ, l1, y1, z1⟩, stp⟩ := X.virtualBackUp hx (x := y) (y := z) (owner := O) hown (mvT hZ w1) (mvT hZ ws) (mvT hZ w2) hy (mvT hZ w3) (mvT hZ w4) (backOf (W := W) (Q := fun v h L => Fr n0 L ∧ n0 ≤ h.size ∧ Q v h) hM hZ w6 w5 hf hl) qa qc (g := mkF m pc Ls st) rfl (by rw [hml]; exact hsz) (Steps.refl _) (argsL := argsL) (rest := rest) (lenOf pd hn) hst (by show 2 * 0 + _ ≤ _; omega) (hb hby hd) (fun _ _ => ⟨ha, e0, hc, hs⟩)
  dsimp only [Pt.U, Pt.locs, Pt.cells, Pt.slots] at X' l1 y1 z1 stp hQ
  subst l1 y1 z1
  exact via (fun t z => stp.trans z) (k v T' _ ⟨_, X', rfl, Fr.app N hQ.1, hQ.2.1⟩ hQ.2.2)
/-! objects -/
theorem own_new (S : St p l e R s m args below meth c n0 T h cells slots) (C : Cx p s Z m meth c bytes own maxL ret nm) {D : String} {idx n : Nat} (w1 : (Jvm.Cond.classLink own idx D).before a0 Z = true) (w2 : (Jvm.Cond.instantiable D n).before a0 Z = true) (w3 : (Jvm.Cond.initialized D).before a0 Z = true) (hd : decode bytes pc = .ok (.new idx, 3)) (hc : cells + 1 ≤ R.cells) (hs : slots + n ≤ R.slots)
    (k : ∀ (T' : State) (h' : Heap) (a : Addr), a = h.size → St p l e R s m args below meth c n0 T' h' (cells + 1) (slots + n) → Ext h h' → n0 ≤ a → Exa Z h' a D → (∀ {O nm d : String} {ty : FieldType}, Laid Z a0 D O nm d → parseFieldDescriptor d = some ty → Fld Z h' a O nm d (defaultValue ty)) → Con p e below T' (mkF m (pc + 3) Ls (.ref a :: st)) P) : Con p e below T (mkF m pc Ls st) P := by
  obtain ⟨locs, X, e0, N, Z0⟩ := S
  obtain ⟨hx, hZ, hby, hown, -⟩ := C
  obtain ⟨T', h', X', e', E, A, D', -, stp⟩ := newO X hx hZ hown w1 w2 w3 e0 (g := mkF m pc Ls st) rfl (hb hby hd) hc hs
  exact via stp (k T' h' h.size rfl ⟨locs, X', e', N, Nat.le_trans Z0 E.1⟩ E Z0 A D')
theorem own_getf (S : St p l e R s m args below meth c n0 T h cells slots) (C : Cx p s Z m meth c bytes own maxL ret nm) {O f d : String} {idx : Nat} (w : (Jvm.Cond.fieldLink own idx O f d).before a0 Z = true) {a : Addr} {v : Value} (F : Fld Z h a O f d v) (hd : decode bytes pc = .ok (.getfield idx, 3))
    (k : ∀ T' : State, St p l e R s m args below meth c n0 T' h cells slots → Con p e below T' (mkF m (pc + 3) Ls (v :: st)) P) : Con p e below T (mkF m pc Ls (.ref a :: st)) P := by
  obtain ⟨locs, X, e0, N, Z0⟩ := S
  obtain ⟨hx, hZ, hby, hown, -⟩ := C
  obtain ⟨T', X', e', stp⟩ := getF X hx hZ hown (host := "") (Or.inl w) Via.refl e0 F (g := mkF m pc Ls (.ref a :: st)) rfl rfl (hb hby hd)
  exact via stp (k T' ⟨locs, X', e', N, Z0⟩)
theorem own_putf (S : St p l e R s m args below meth c n0 T h cells slots) (C : Cx p s Z m meth c bytes own maxL ret nm) {O f d D : String} {idx kk : Nat} {ty : FieldType} (w : (Jvm.Cond.fieldLink own idx O f d).before a0 Z = true) {a : Addr} {v old : Value} (F : Fld Z h a O f d old) (E : Exa Z h a D) (L : (Jvm.Cond.lays D O f d).before a0 Z = true ∨ ((Jvm.Cond.laysFinal D O f d).before a0 Z = true ∧ own = O ∧ nm = "<init>")) (wi : (Jvm.Cond.instantiable D kk).before a0 Z = true) (hty : parseFieldDescriptor d = some ty) (hn : narrow ty v = v) (hf : fits ty v = true) (ge : n0 ≤ a) (hd : decode bytes pc = .ok (.putfield idx, 3))
    (k : ∀ (T' : State) (h' : Heap), St p l e R s m args below meth c n0 T' h' cells slots → Wr h h' a (Jvm.RoadKit.slotOf Z O f d) v → Con p e below T' (mkF m (pc + 3) Ls st) P) : Con p e below T (mkF m pc Ls (v :: .ref a :: st)) P := by
  obtain ⟨locs, X, e0, N, Z0⟩ := S
  obtain ⟨hx, hZ, hby, hown, -, -, -, hnm⟩ := C
  obtain ⟨T', h', X', e', W, stp⟩ := putF X hx hZ hown (host := "") (Or.inl w) Via.refl e0 F E (L.imp id fun q => ⟨q.1, q.2.1, hnm.trans q.2.2⟩) wi hty hn hf (g := mkF m pc Ls (v :: .ref a :: st)) rfl rfl (hb hby hd)
  exact via stp (k T' h' ⟨_, X', e', Fr.snoc X' N ge, Nat.le_trans Z0 (Keep.of_wr W).1⟩ W)
end OwnKit2
section OwnKit3
variable {p : Program} {l : Launch} {e : Env} {R : Room} {s : State} {m : MethodId} {args : Array Value} {below : List Frame} {meth : Method} {c : Code} {T : State} {h h' : Heap} {cells slots n0 : Nat} {Z : State} {a0 : Array Value} {bytes : ByteArray} {own : String} {maxL : Nat} {ret : Option FieldType} {nm : String} {P : State → Outcome → Prop} {pc pc' : Nat} {Ls Ls' : Array Slot} {st : List Value}
/-- a slot that holds nothing or one word -/
def Sl (o : Slot) : Prop := o = .unset ∨ ∃ w : Value, o = .val w ∧ w.category = 1
theorem Sl.i (x : Int32) : Sl (.val (.int x)) := Or.inr ⟨_, rfl, rfl⟩
theorem Sl.u : Sl .unset := Or.inl rfl
theorem own_istoreG (S : St p l e R s m args below meth c n0 T h cells slots) (C : Cx p s Z m meth c bytes own maxL ret nm) {k : Nat} {x : Int32} {o : Slot} (ho : Sl o) (hd : decode bytes pc = .ok (.istore k, 2)) (hold : Ls[k]? = some o) (hL : Ls.setIfInBounds k (.val (.int x)) = Ls')
    (q : Con p e below T (mkF m (pc + 2) Ls' st) P) : Con p e below T (mkF m pc Ls (.int x :: st)) P := by
  obtain ⟨locs, X, -⟩ := S
  obtain ⟨hx, -, hby, -⟩ := C
  subst hL
  exact via (fun t z => XS.istoreS X.here hx rfl (hb hby hd) rfl hold ho z) q
theorem own_istoreGN (S : St p l e R s m args below meth c n0 T h cells slots) (C : Cx p s Z m meth c bytes own maxL ret nm) {k : Fin 4} {x : Int32} {o : Slot} (ho : Sl o) (hd : decode bytes pc = .ok (.istore_n k, 1)) (hold : Ls[k.val]? = some o) (hL : Ls.setIfInBounds k.val (.val (.int x)) = Ls')
    (q : Con p e below T (mkF m (pc + 1) Ls' st) P) : Con p e below T (mkF m pc Ls (.int x :: st)) P := by
  obtain ⟨locs, X, -⟩ := S
  obtain ⟨hx, -, hby, -⟩ := C
  subst hL
  exact via (fun t z => XS.istoreNS X.here hx rfl (hb hby hd) rfl hold ho z) q
theorem own_ne {a b : Addr} (l : a < h.size) (e : b = h.size) : a ≠ b := by rw [e]; exact Nat.ne_of_lt l
theorem own_nl {a b : Addr} (l : a < h.size) (e : b = h.size) : @LT.lt Nat _ a b := by rw [e]; exact l
theorem St.size (S : St p l e R s m args below meth c n0 T h cells slots) : n0 ≤ h.size := by obtain ⟨_, _, _, _, q⟩ := S; exact q
end OwnKit3
/-! numbers -/
theorem own_toInt (x : Int32) : x.toInt = x.toBitVec.toInt := rfl
theorem own_and_le (x m : Int32) (hm : 0 ≤ m.toInt) : 0 ≤ (x &&& m).toInt ∧ (x &&& m).toInt ≤ m.toInt := by
  have h1 : (x &&& m).toBitVec.toNat ≤ m.toBitVec.toNat := by rw [Int32.toBitVec_and, BitVec.toNat_and]; exact Nat.and_le_right
  have h2 := (x &&& m).toBitVec.isLt
  have h3 := m.toBitVec.isLt
  rw [own_toInt, BitVec.toInt_eq_toNat_cond] at hm ⊢
  rw [own_toInt m, BitVec.toInt_eq_toNat_cond]
  split at hm
  · rw [if_pos (by omega), if_pos (by omega)]; omega
  · omega
theorem own_add {x y : Int32} (h1 : -2147483648 ≤ x.toInt + y.toInt) (h2 : x.toInt + y.toInt < 2147483648) : (x + y).toInt = x.toInt + y.toInt := by
  rw [Int32.toInt_add]; exact Int.bmod_eq_of_le (by omega) (by omega)
theorem own_sub {x y : Int32} (h1 : -2147483648 ≤ x.toInt - y.toInt) (h2 : x.toInt - y.toInt < 2147483648) : (x - y).toInt = x.toInt - y.toInt := by
  rw [Int32.toInt_sub]; exact Int.bmod_eq_of_le (by omega) (by omega)
theorem own_div {x y : Int32} (hx : 0 ≤ x.toInt) (hy : 0 < y.toInt) : (x / y).toInt = x.toInt / y.toInt := by
  have h1 := x.toInt_lt
  have h2 : x.toInt / y.toInt ≤ x.toInt := Int.ediv_le_self _ hx
  have h3 : 0 ≤ x.toInt / y.toInt := Int.ediv_nonneg hx (by omega)
  rw [Int32.toInt_div, Int.tdiv_eq_ediv_of_nonneg hx]
  exact Int.bmod_eq_of_le (by omega) (by omega)
theorem own_rem {x y : Int32} (hx : 0 ≤ x.toInt) (hy : 0 < y.toInt) : (x - x / y * y).toInt = x.toInt % y.toInt := by
  have h1 := x.toInt_lt
  have hd := own_div hx hy
  have e1 : x.toInt / y.toInt * y.toInt + x.toInt % y.toInt = x.toInt := Int.ediv_mul_add_emod _ _
  have h3 : 0 ≤ x.toInt % y.toInt := Int.emod_nonneg _ (by omega)
  have h4 : 0 ≤ x.toInt / y.toInt := Int.ediv_nonneg hx (by omega)
  have h5 : 0 ≤ x.toInt / y.toInt * y.toInt := Int.mul_nonneg h4 (by omega)
  have hm : (x / y * y).toInt = x.toInt / y.toInt * y.toInt := by
    rw [Int32.toInt_mul, hd]; exact Int.bmod_eq_of_le (by omega) (by omega)
  rw [own_sub (by rw [hm]; omega) (by rw [hm]; omega), hm]; omega
theorem own_ofNat {x : Int32} (h : 0 ≤ x.toInt) : x = Int32.ofNat x.toInt.toNat := by
  apply Int32.toInt_inj.mp
  have := x.toInt_lt
  rw [Int32.toInt_ofNat_of_lt (by omega)]; omega
theorem own_n2 {n : Nat} (h : n < 2147483648) : (Int32.ofNat n).toInt = (n : Int) := Int32.toInt_ofNat_of_lt h
theorem own_n3 {n : Nat} (h : n < 2147483648) : (Int32.ofNat n).toNatClampNeg = n := by
  rw [show (Int32.ofNat n).toNatClampNeg = (Int32.ofNat n).toInt.toNat from rfl, own_n2 h]; rfl
theorem own_succ (n : Nat) : Int32.ofNat n + (1 : Int32) = Int32.ofNat (n + 1) := (Int32.ofNat_add n 1).symm
theorem own_ushr (x k : Int32) (n : Nat) (hk : (k &&& 31).toUInt32.toNat = n) (h1 : 1 ≤ n) (h2 : n < 32) : 0 ≤ (XT.ushr x k).toInt ∧ (XT.ushr x k).toInt < 2 ^ (32 - n) := by
  have e : (XT.ushr x k).toBitVec.toNat = x.toUInt32.toNat >>> n := by
    show (x.toUInt32 >>> (k &&& 31).toUInt32).toNat = _
    rw [UInt32.toNat_shiftRight, hk, Nat.mod_eq_of_lt h2]
  have hx := x.toUInt32.toNat_lt
  have hb : x.toUInt32.toNat >>> n < 2 ^ (32 - n) := by
    rw [Nat.shiftRight_eq_div_pow]
    apply Nat.div_lt_of_lt_mul
    rw [← Nat.pow_add, show n + (32 - n) = 32 by omega]; exact hx
  have hp : 2 ^ (32 - n) ≤ 2 ^ 31 := Nat.pow_le_pow_right (by decide) (by omega)
  rw [own_toInt, BitVec.toInt_eq_toNat_cond, e, if_pos (by omega)]
  exact ⟨Int.natCast_nonneg _, by exact_mod_cast hb⟩
def own_ns_149 (b : Int32) : Int32 := (if if_icmp.holds .lt b (65536 : Int32) = true then (0 : Int32) else (if if_icmp.holds .gt b (983039 : Int32) = true then (0 : Int32) else (1 : Int32)))
def own_ns_137 (b : Int32) : Int32 := (if if_icmp.holds .lt b (65008 : Int32) = true then (own_ns_149 b) else (if if_icmp.holds .le b (65533 : Int32) = true then (1 : Int32) else (own_ns_149 b)))
def own_ns_125 (b : Int32) : Int32 := (if if_icmp.holds .lt b (63744 : Int32) = true then (own_ns_137 b) else (if if_icmp.holds .le b (64975 : Int32) = true then (1 : Int32) else (own_ns_137 b)))
def own_ns_112 (b : Int32) : Int32 := (if if_icmp.holds .lt b (12289 : Int32) = true then (own_ns_125 b) else (if if_icmp.holds .le b (55295 : Int32) = true then (1 : Int32) else (own_ns_125 b)))
def own_ns_98 (b : Int32) : Int32 := (if if_icmp.holds .lt b (11264 : Int32) = true then (own_ns_112 b) else (if if_icmp.holds .le b (12271 : Int32) = true then (1 : Int32) else (own_ns_112 b)))
def own_ns_84 (b : Int32) : Int32 := (if if_icmp.holds .lt b (8304 : Int32) = true then (own_ns_98 b) else (if if_icmp.holds .le b (8591 : Int32) = true then (1 : Int32) else (own_ns_98 b)))
def own_ns_70 (b : Int32) : Int32 := (if if_icmp.holds .lt b (8204 : Int32) = true then (own_ns_84 b) else (if if_icmp.holds .le b (8205 : Int32) = true then (1 : Int32) else (own_ns_84 b)))
def own_ns_56 (b : Int32) : Int32 := (if if_icmp.holds .lt b (895 : Int32) = true then (own_ns_70 b) else (if if_icmp.holds .le b (8191 : Int32) = true then (1 : Int32) else (own_ns_70 b)))
def own_ns_42 (b : Int32) : Int32 := (if if_icmp.holds .lt b (880 : Int32) = true then (own_ns_56 b) else (if if_icmp.holds .le b (893 : Int32) = true then (1 : Int32) else (own_ns_56 b)))
def own_ns_28 (b : Int32) : Int32 := (if if_icmp.holds .lt b (248 : Int32) = true then (own_ns_42 b) else (if if_icmp.holds .le b (767 : Int32) = true then (1 : Int32) else (own_ns_42 b)))
def own_ns_14 (b : Int32) : Int32 := (if if_icmp.holds .lt b (216 : Int32) = true then (own_ns_28 b) else (if if_icmp.holds .le b (246 : Int32) = true then (1 : Int32) else (own_ns_28 b)))
def own_ns (b : Int32) : Int32 := (if if_icmp.holds .lt b (192 : Int32) = true then (own_ns_14 b) else (if if_icmp.holds .le b (214 : Int32) = true then (1 : Int32) else (own_ns_14 b)))
theorem ef_own_ns (m : MethodId) (b : Int32) : entryFrame m #[(.int b)] 1 = mkF m 0 #[.val (.int b)] [] := by first | (simp [entryFrame, mkF, argsToLocals, Value.category]; done) | rfl
theorem pn_own_ns : plainFor (⟨"com/example/klarbrief/klarbrief/core/XmlCharacters", "isNameStart", "(I)Z"⟩ : MethodName) = true := by first | (exact plainFor_of_name (by first | (simp [plainName, overriddenIn]; done) | decide +kernel)) | decide +kernel
set_option maxRecDepth 65536 in
set_option maxHeartbeats 40000000 in
theorem rm_own_ns (l : Launch) (Z : State) (a0 : Array Value) (hw : ∀ d ∈ tables_1, d.before a0 Z = true) (ws : List Jvm.Cond) (b : Int32) (h : Heap) (n0 : Nat) (Z0 : n0 ≤ h.size) :
    Mt l Z (⟨"com/example/klarbrief/klarbrief/core/XmlCharacters", "isNameStart", "(I)Z"⟩ : MethodName) prog_107_method_2_code 1 (some .boolean) ws ({ frames := 0, cells := 0, slots := 0, locals := 0 } : Room) #[(.int b)] h n0 (fun v h' => v = some (.int (own_ns b)) ∧ h' = h) := by
  refine Mt.of (own := "com/example/klarbrief/klarbrief/core/XmlCharacters") (nm := "isNameStart") pn_own_ns Z0 (Ls := #[.val (.int b)]) (fun m => ef_own_ns m b) rfl rfl (fun p e s m below meth c T C S => ?_)
  have j_149 : ∀ r : Int32, own_ns_149 b = r → Con p e below T (mkF m 149 #[.val (.int b)] []) (Pq s ({ frames := 0, cells := 0, slots := 0, locals := 0 } : Room) n0 (fun v h' => v = some (.int r) ∧ h' = h)) := by
    intro r hr
    unfold own_ns_149 at hr
    refine own_run S C [.iload_n 0] (pc' := 150) (Ls' := #[.val (.int b)]) (st' := [(.int b)]) (by decide +kernel) rfl ?_
    refine own_ldc S C (hw _ (List.mem_of_getElem? (i := 15) rfl)) (by decide +kernel) ?_
    show Con p e below _ (mkF m 152 #[.val (.int b)] [(.int (65536 : Int32)), (.int b)]) _
    refine own_icmp S C (cd := .lt) (o := 13) (by decide +kernel) (pc' := 165) ⟨by decide, by decide⟩ (fun hc152_0 => ?_) (fun hc152_0 => ?_)
    · skip
      rw [if_pos hc152_0] at hr
      refine own_run S C [.iconst 0] (pc' := 166) (Ls' := #[.val (.int b)]) (st' := [(.int (0 : Int32))]) (by decide +kernel) rfl ?_
      subst hr
      exact own_retz S C (z' := (0 : Int32)) (by decide) (by decide +kernel) (Nat.zero_le _) (Nat.zero_le _) ⟨rfl, rfl⟩
    · skip
      rw [if_neg (Bool.eq_false_iff.mp hc152_0)] at hr
      refine own_run S C [.iload_n 0] (pc' := 156) (Ls' := #[.val (.int b)]) (st' := [(.int b)]) (by decide +kernel) rfl ?_
      refine own_ldc S C (hw _ (List.mem_of_getElem? (i := 19) rfl)) (by decide +kernel) ?_
      show Con p e below _ (mkF m 158 #[.val (.int b)] [(.int (983039 : Int32)), (.int b)]) _
      refine own_icmp S C (cd := .gt) (o := 7) (by decide +kernel) (pc' := 165) ⟨by decide, by decide⟩ (fun hc158_1 => ?_) (fun hc158_1 => ?_)
      · skip
        rw [if_pos hc158_1] at hr
        refine own_run S C [.iconst 0] (pc' := 166) (Ls' := #[.val (.int b)]) (st' := [(.int (0 : Int32))]) (by decide +kernel) rfl ?_
        subst hr
        exact own_retz S C (z' := (0 : Int32)) (by decide) (by decide +kernel) (Nat.zero_le _) (Nat.zero_le _) ⟨rfl, rfl⟩
      · skip
        rw [if_neg (Bool.eq_false_iff.mp hc158_1)] at hr
        refine own_run S C [.iconst 1, .goto 4] (pc' := 166) (Ls' := #[.val (.int b)]) (st' := [(.int (1 : Int32))]) (by decide +kernel) rfl ?_
        subst hr
        exact own_retz S C (z' := (1 : Int32)) (by decide) (by decide +kernel) (Nat.zero_le _) (Nat.zero_le _) ⟨rfl, rfl⟩
  have j_137 : ∀ r : Int32, own_ns_137 b = r → Con p e below T (mkF m 137 #[.val (.int b)] []) (Pq s ({ frames := 0, cells := 0, slots := 0, locals := 0 } : Room) n0 (fun v h' => v = some (.int r) ∧ h' = h)) := by
    intro r hr
    unfold own_ns_137 at hr
    refine own_run S C [.iload_n 0] (pc' := 138) (Ls' := #[.val (.int b)]) (st' := [(.int b)]) (by decide +kernel) rfl ?_
    refine own_ldc S C (hw _ (List.mem_of_getElem? (i := 14) rfl)) (by decide +kernel) ?_
    show Con p e below _ (mkF m 140 #[.val (.int b)] [(.int (65008 : Int32)), (.int b)]) _
    refine own_icmp S C (cd := .lt) (o := 9) (by decide +kernel) (pc' := 149) ⟨by decide, by decide⟩ (fun hc140_0 => ?_) (fun hc140_0 => ?_)
    · skip
      rw [if_pos hc140_0] at hr
      exact j_149 r hr
    · skip
      rw [if_neg (Bool.eq_false_iff.mp hc140_0)] at hr
      refine own_run S C [.iload_n 0] (pc' := 144) (Ls' := #[.val (.int b)]) (st' := [(.int b)]) (by decide +kernel) rfl ?_
      refine own_ldc S C (hw _ (List.mem_of_getElem? (i := 18) rfl)) (by decide +kernel) ?_
      show Con p e below _ (mkF m 146 #[.val (.int b)] [(.int (65533 : Int32)), (.int b)]) _
      refine own_icmp S C (cd := .le) (o := 15) (by decide +kernel) (pc' := 161) ⟨by decide, by decide⟩ (fun hc146_1 => ?_) (fun hc146_1 => ?_)
      · skip
        rw [if_pos hc146_1] at hr
        refine own_run S C [.iconst 1, .goto 4] (pc' := 166) (Ls' := #[.val (.int b)]) (st' := [(.int (1 : Int32))]) (by decide +kernel) rfl ?_
        subst hr
        exact own_retz S C (z' := (1 : Int32)) (by decide) (by decide +kernel) (Nat.zero_le _) (Nat.zero_le _) ⟨rfl, rfl⟩
      · skip
        rw [if_neg (Bool.eq_false_iff.mp hc146_1)] at hr
        exact j_149 r hr
  have j_125 : ∀ r : Int32, own_ns_125 b = r → Con p e below T (mkF m 125 #[.val (.int b)] []) (Pq s ({ frames := 0, cells := 0, slots := 0, locals := 0 } : Room) n0 (fun v h' => v = some (.int r) ∧ h' = h)) := by
    intro r hr
    unfold own_ns_125 at hr
    refine own_run S C [.iload_n 0] (pc' := 126) (Ls' := #[.val (.int b)]) (st' := [(.int b)]) (by decide +kernel) rfl ?_
    refine own_ldc S C (hw _ (List.mem_of_getElem? (i := 13) rfl)) (by decide +kernel) ?_
    show Con p e below _ (mkF m 128 #[.val (.int b)] [(.int (63744 : Int32)), (.int b)]) _
    refine own_icmp S C (cd := .lt) (o := 9) (by decide +kernel) (pc' := 137) ⟨by decide, by decide⟩ (fun hc128_0 => ?_) (fun hc128_0 => ?_)
    · skip
      rw [if_pos hc128_0] at hr
      exact j_137 r hr
    · skip
      rw [if_neg (Bool.eq_false_iff.mp hc128_0)] at hr
      refine own_run S C [.iload_n 0] (pc' := 132) (Ls' := #[.val (.int b)]) (st' := [(.int b)]) (by decide +kernel) rfl ?_
      refine own_ldc S C (hw _ (List.mem_of_getElem? (i := 17) rfl)) (by decide +kernel) ?_
      show Con p e below _ (mkF m 134 #[.val (.int b)] [(.int (64975 : Int32)), (.int b)]) _
      refine own_icmp S C (cd := .le) (o := 27) (by decide +kernel) (pc' := 161) ⟨by decide, by decide⟩ (fun hc134_1 => ?_) (fun hc134_1 => ?_)
      · skip
        rw [if_pos hc134_1] at hr
        refine own_run S C [.iconst 1, .goto 4] (pc' := 166) (Ls' := #[.val (.int b)]) (st' := [(.int (1 : Int32))]) (by decide +kernel) rfl ?_
        subst hr
        exact own_retz S C (z' := (1 : Int32)) (by decide) (by decide +kernel) (Nat.zero_le _) (Nat.zero_le _) ⟨rfl, rfl⟩
      · skip
        rw [if_neg (Bool.eq_false_iff.mp hc134_1)] at hr
        exact j_137 r hr
  have j_112 : ∀ r : Int32, own_ns_112 b = r → Con p e below T (mkF m 112 #[.val (.int b)] []) (Pq s ({ frames := 0, cells := 0, slots := 0, locals := 0 } : Room) n0 (fun v h' => v = some (.int r) ∧ h' = h)) := by
    intro r hr
    unfold own_ns_112 at hr
    refine own_run S C [.iload_n 0, .sipush 12289] (pc' := 116) (Ls' := #[.val (.int b)]) (st' := [(.int (12289 : Int32)), (.int b)]) (by decide +kernel) rfl ?_
    refine own_icmp S C (cd := .lt) (o := 9) (by decide +kernel) (pc' := 125) ⟨by decide, by decide⟩ (fun hc116_0 => ?_) (fun hc116_0 => ?_)
    · skip
      rw [if_pos hc116_0] at hr
      exact j_125 r hr
    · skip
      rw [if_neg (Bool.eq_false_iff.mp hc116_0)] at hr
      refine own_run S C [.iload_n 0] (pc' := 120) (Ls' := #[.val (.int b)]) (st' := [(.int b)]) (by decide +kernel) rfl ?_
      refine own_ldc S C (hw _ (List.mem_of_getElem? (i := 16) rfl)) (by decide +kernel) ?_
      show Con p e below _ (mkF m 122 #[.val (.int b)] [(.int (55295 : Int32)), (.int b)]) _
      refine own_icmp S C (cd := .le) (o := 39) (by decide +kernel) (pc' := 161) ⟨by decide, by decide⟩ (fun hc122_1 => ?_) (fun hc122_1 => ?_)
      · skip
        rw [if_pos hc122_1] at hr
        refine own_run S C [.iconst 1, .goto 4] (pc' := 166) (Ls' := #[.val (.int b)]) (st' := [(.int (1 : Int32))]) (by decide +kernel) rfl ?_
        subst hr
        exact own_retz S C (z' := (1 : Int32)) (by decide) (by decide +kernel) (Nat.zero_le _) (Nat.zero_le _) ⟨rfl, rfl⟩
      · skip
        rw [if_neg (Bool.eq_false_iff.mp hc122_1)] at hr
        exact j_125 r hr
  have j_98 : ∀ r : Int32, own_ns_98 b = r → Con p e below T (mkF m 98 #[.val (.int b)] []) (Pq s ({ frames := 0, cells := 0, slots := 0, locals := 0 } : Room) n0 (fun v h' => v = some (.int r) ∧ h' = h)) := by
    intro r hr
    unfold own_ns_98 at hr
    refine own_run S C [.iload_n 0, .sipush 11264] (pc' := 102) (Ls' := #[.val (.int b)]) (st' := [(.int (11264 : Int32)), (.int b)]) (by decide +kernel) rfl ?_
    refine own_icmp S C (cd := .lt) (o := 10) (by decide +kernel) (pc' := 112) ⟨by decide, by decide⟩ (fun hc102_0 => ?_) (fun hc102_0 => ?_)
    · skip
      rw [if_pos hc102_0] at hr
      exact j_112 r hr
    · skip
      rw [if_neg (Bool.eq_false_iff.mp hc102_0)] at hr
      refine own_run S C [.iload_n 0, .sipush 12271] (pc' := 109) (Ls' := #[.val (.int b)]) (st' := [(.int (12271 : Int32)), (.int b)]) (by decide +kernel) rfl ?_
      refine own_icmp S C (cd := .le) (o := 52) (by decide +kernel) (pc' := 161) ⟨by decide, by decide⟩ (fun hc109_1 => ?_) (fun hc109_1 => ?_)
      · skip
        rw [if_pos hc109_1] at hr
        refine own_run S C [.iconst 1, .goto 4] (pc' := 166) (Ls' := #[.val (.int b)]) (st' := [(.int (1 : Int32))]) (by decide +kernel) rfl ?_
        subst hr
        exact own_retz S C (z' := (1 : Int32)) (by decide) (by decide +kernel) (Nat.zero_le _) (Nat.zero_le _) ⟨rfl, rfl⟩
      · skip
        rw [if_neg (Bool.eq_false_iff.mp hc109_1)] at hr
        exact j_112 r hr
  have j_84 : ∀ r : Int32, own_ns_84 b = r → Con p e below T (mkF m 84 #[.val (.int b)] []) (Pq s ({ frames := 0, cells := 0, slots := 0, locals := 0 } : Room) n0 (fun v h' => v = some (.int r) ∧ h' = h)) := by
    intro r hr
    unfold own_ns_84 at hr
    refine own_run S C [.iload_n 0, .sipush 8304] (pc' := 88) (Ls' := #[.val (.int b)]) (st' := [(.int (8304 : Int32)), (.int b)]) (by decide +kernel) rfl ?_
    refine own_icmp S C (cd := .lt) (o := 10) (by decide +kernel) (pc' := 98) ⟨by decide, by decide⟩ (fun hc88_0 => ?_) (fun hc88_0 => ?_)
    · skip
      rw [if_pos hc88_0] at hr
      exact j_98 r hr
    · skip
      rw [if_neg (Bool.eq_false_iff.mp hc88_0)] at hr
      refine own_run S C [.iload_n 0, .sipush 8591] (pc' := 95) (Ls' := #[.val (.int b)]) (st' := [(.int (8591 : Int32)), (.int b)]) (by decide +kernel) rfl ?_
      refine own_icmp S C (cd := .le) (o := 66) (by decide +kernel) (pc' := 161) ⟨by decide, by decide⟩ (fun hc95_1 => ?_) (fun hc95_1 => ?_)
      · skip
        rw [if_pos hc95_1] at hr
        refine own_run S C [.iconst 1, .goto 4] (pc' := 166) (Ls' := #[.val (.int b)]) (st' := [(.int (1 : Int32))]) (by decide +kernel) rfl ?_
        subst hr
        exact own_retz S C (z' := (1 : Int32)) (by decide) (by decide +kernel) (Nat.zero_le _) (Nat.zero_le _) ⟨rfl, rfl⟩
      · skip
        rw [if_neg (Bool.eq_false_iff.mp hc95_1)] at hr
        exact j_98 r hr
  have j_70 : ∀ r : Int32, own_ns_70 b = r → Con p e below T (mkF m 70 #[.val (.int b)] []) (Pq s ({ frames := 0, cells := 0, slots := 0, locals := 0 } : Room) n0 (fun v h' => v = some (.int r) ∧ h' = h)) := by
    intro r hr
    unfold own_ns_70 at hr
    refine own_run S C [.iload_n 0, .sipush 8204] (pc' := 74) (Ls' := #[.val (.int b)]) (st' := [(.int (8204 : Int32)), (.int b)]) (by decide +kernel) rfl ?_
    refine own_icmp S C (cd := .lt) (o := 10) (by decide +kernel) (pc' := 84) ⟨by decide, by decide⟩ (fun hc74_0 => ?_) (fun hc74_0 => ?_)
    · skip
      rw [if_pos hc74_0] at hr
      exact j_84 r hr
    · skip
      rw [if_neg (Bool.eq_false_iff.mp hc74_0)] at hr
      refine own_run S C [.iload_n 0, .sipush 8205] (pc' := 81) (Ls' := #[.val (.int b)]) (st' := [(.int (8205 : Int32)), (.int b)]) (by decide +kernel) rfl ?_
      refine own_icmp S C (cd := .le) (o := 80) (by decide +kernel) (pc' := 161) ⟨by decide, by decide⟩ (fun hc81_1 => ?_) (fun hc81_1 => ?_)
      · skip
        rw [if_pos hc81_1] at hr
        refine own_run S C [.iconst 1, .goto 4] (pc' := 166) (Ls' := #[.val (.int b)]) (st' := [(.int (1 : Int32))]) (by decide +kernel) rfl ?_
        subst hr
        exact own_retz S C (z' := (1 : Int32)) (by decide) (by decide +kernel) (Nat.zero_le _) (Nat.zero_le _) ⟨rfl, rfl⟩
      · skip
        rw [if_neg (Bool.eq_false_iff.mp hc81_1)] at hr
        exact j_84 r hr
  have j_56 : ∀ r : Int32, own_ns_56 b = r → Con p e below T (mkF m 56 #[.val (.int b)] []) (Pq s ({ frames := 0, cells := 0, slots := 0, locals := 0 } : Room) n0 (fun v h' => v = some (.int r) ∧ h' = h)) := by
    intro r hr
    unfold own_ns_56 at hr
    refine own_run S C [.iload_n 0, .sipush 895] (pc' := 60) (Ls' := #[.val (.int b)]) (st' := [(.int (895 : Int32)), (.int b)]) (by decide +kernel) rfl ?_
    refine own_icmp S C (cd := .lt) (o := 10) (by decide +kernel) (pc' := 70) ⟨by decide, by decide⟩ (fun hc60_0 => ?_) (fun hc60_0 => ?_)
    · skip
      rw [if_pos hc60_0] at hr
      exact j_70 r hr
    · skip
      rw [if_neg (Bool.eq_false_iff.mp hc60_0)] at hr
      refine own_run S C [.iload_n 0, .sipush 8191] (pc' := 67) (Ls' := #[.val (.int b)]) (st' := [(.int (8191 : Int32)), (.int b)]) (by decide +kernel) rfl ?_
      refine own_icmp S C (cd := .le) (o := 94) (by decide +kernel) (pc' := 161) ⟨by decide, by decide⟩ (fun hc67_1 => ?_) (fun hc67_1 => ?_)
      · skip
        rw [if_pos hc67_1] at hr
        refine own_run S C [.iconst 1, .goto 4] (pc' := 166) (Ls' := #[.val (.int b)]) (st' := [(.int (1 : Int32))]) (by decide +kernel) rfl ?_
        subst hr
        exact own_retz S C (z' := (1 : Int32)) (by decide) (by decide +kernel) (Nat.zero_le _) (Nat.zero_le _) ⟨rfl, rfl⟩
      · skip
        rw [if_neg (Bool.eq_false_iff.mp hc67_1)] at hr
        exact j_70 r hr
  have j_42 : ∀ r : Int32, own_ns_42 b = r → Con p e below T (mkF m 42 #[.val (.int b)] []) (Pq s ({ frames := 0, cells := 0, slots := 0, locals := 0 } : Room) n0 (fun v h' => v = some (.int r) ∧ h' = h)) := by
    intro r hr
    unfold own_ns_42 at hr
    refine own_run S C [.iload_n 0, .sipush 880] (pc' := 46) (Ls' := #[.val (.int b)]) (st' := [(.int (880 : Int32)), (.int b)]) (by decide +kernel) rfl ?_
    refine own_icmp S C (cd := .lt) (o := 10) (by decide +kernel) (pc' := 56) ⟨by decide, by decide⟩ (fun hc46_0 => ?_) (fun hc46_0 => ?_)
    · skip
      rw [if_pos hc46_0] at hr
      exact j_56 r hr
    · skip
      rw [if_neg (Bool.eq_false_iff.mp hc46_0)] at hr
      refine own_run S C [.iload_n 0, .sipush 893] (pc' := 53) (Ls' := #[.val (.int b)]) (st' := [(.int (893 : Int32)), (.int b)]) (by decide +kernel) rfl ?_
      refine own_icmp S C (cd := .le) (o := 108) (by decide +kernel) (pc' := 161) ⟨by decide, by decide⟩ (fun hc53_1 => ?_) (fun hc53_1 => ?_)
      · skip
        rw [if_pos hc53_1] at hr
        refine own_run S C [.iconst 1, .goto 4] (pc' := 166) (Ls' := #[.val (.int b)]) (st' := [(.int (1 : Int32))]) (by decide +kernel) rfl ?_
        subst hr
        exact own_retz S C (z' := (1 : Int32)) (by decide) (by decide +kernel) (Nat.zero_le _) (Nat.zero_le _) ⟨rfl, rfl⟩
      · skip
        rw [if_neg (Bool.eq_false_iff.mp hc53_1)] at hr
        exact j_56 r hr
  have j_28 : ∀ r : Int32, own_ns_28 b = r → Con p e below T (mkF m 28 #[.val (.int b)] []) (Pq s ({ frames := 0, cells := 0, slots := 0, locals := 0 } : Room) n0 (fun v h' => v = some (.int r) ∧ h' = h)) := by
    intro r hr
    unfold own_ns_28 at hr
    refine own_run S C [.iload_n 0, .sipush 248] (pc' := 32) (Ls' := #[.val (.int b)]) (st' := [(.int (248 : Int32)), (.int b)]) (by decide +kernel) rfl ?_
    refine own_icmp S C (cd := .lt) (o := 10) (by decide +kernel) (pc' := 42) ⟨by decide, by decide⟩ (fun hc32_0 => ?_) (fun hc32_0 => ?_)
    · skip
      rw [if_pos hc32_0] at hr
      exact j_42 r hr
    · skip
      rw [if_neg (Bool.eq_false_iff.mp hc32_0)] at hr
      refine own_run S C [.iload_n 0, .sipush 767] (pc' := 39) (Ls' := #[.val (.int b)]) (st' := [(.int (767 : Int32)), (.int b)]) (by decide +kernel) rfl ?_
      refine own_icmp S C (cd := .le) (o := 122) (by decide +kernel) (pc' := 161) ⟨by decide, by decide⟩ (fun hc39_1 => ?_) (fun hc39_1 => ?_)
      · skip
        rw [if_pos hc39_1] at hr
        refine own_run S C [.iconst 1, .goto 4] (pc' := 166) (Ls' := #[.val (.int b)]) (st' := [(.int (1 : Int32))]) (by decide +kernel) rfl ?_
        subst hr
        exact own_retz S C (z' := (1 : Int32)) (by decide) (by decide +kernel) (Nat.zero_le _) (Nat.zero_le _) ⟨rfl, rfl⟩
      · skip
        rw [if_neg (Bool.eq_false_iff.mp hc39_1)] at hr
        exact j_42 r hr
  have j_14 : ∀ r : Int32, own_ns_14 b = r → Con p e below T (mkF m 14 #[.val (.int b)] []) (Pq s ({ frames := 0, cells := 0, slots := 0, locals := 0 } : Room) n0 (fun v h' => v = some (.int r) ∧ h' = h)) := by
    intro r hr
    unfold own_ns_14 at hr
    refine own_run S C [.iload_n 0, .sipush 216] (pc' := 18) (Ls' := #[.val (.int b)]) (st' := [(.int (216 : Int32)), (.int b)]) (by decide +kernel) rfl ?_
    refine own_icmp S C (cd := .lt) (o := 10) (by decide +kernel) (pc' := 28) ⟨by decide, by decide⟩ (fun hc18_0 => ?_) (fun hc18_0 => ?_)
    · skip
      rw [if_pos hc18_0] at hr
      exact j_28 r hr
    · skip
      rw [if_neg (Bool.eq_false_iff.mp hc18_0)] at hr
      refine own_run S C [.iload_n 0, .sipush 246] (pc' := 25) (Ls' := #[.val (.int b)]) (st' := [(.int (246 : Int32)), (.int b)]) (by decide +kernel) rfl ?_
      refine own_icmp S C (cd := .le) (o := 136) (by decide +kernel) (pc' := 161) ⟨by decide, by decide⟩ (fun hc25_1 => ?_) (fun hc25_1 => ?_)
      · skip
        rw [if_pos hc25_1] at hr
        refine own_run S C [.iconst 1, .goto 4] (pc' := 166) (Ls' := #[.val (.int b)]) (st' := [(.int (1 : Int32))]) (by decide +kernel) rfl ?_
        subst hr
        exact own_retz S C (z' := (1 : Int32)) (by decide) (by decide +kernel) (Nat.zero_le _) (Nat.zero_le _) ⟨rfl, rfl⟩
      · skip
        rw [if_neg (Bool.eq_false_iff.mp hc25_1)] at hr
        exact j_28 r hr
  obtain ⟨r, hr⟩ : ∃ r, own_ns b = r := ⟨_, rfl⟩
  rw [hr]
  unfold own_ns at hr
  refine own_run S C [.iload_n 0, .sipush 192] (pc' := 4) (Ls' := #[.val (.int b)]) (st' := [(.int (192 : Int32)), (.int b)]) (by decide +kernel) rfl ?_
  refine own_icmp S C (cd := .lt) (o := 10) (by decide +kernel) (pc' := 14) ⟨by decide, by decide⟩ (fun hc4_0 => ?_) (fun hc4_0 => ?_)
  · skip
    rw [if_pos hc4_0] at hr
    exact j_14 r hr
  · skip
    rw [if_neg (Bool.eq_false_iff.mp hc4_0)] at hr
    refine own_run S C [.iload_n 0, .sipush 214] (pc' := 11) (Ls' := #[.val (.int b)]) (st' := [(.int (214 : Int32)), (.int b)]) (by decide +kernel) rfl ?_
    refine own_icmp S C (cd := .le) (o := 150) (by decide +kernel) (pc' := 161) ⟨by decide, by decide⟩ (fun hc11_1 => ?_) (fun hc11_1 => ?_)
    · skip
      rw [if_pos hc11_1] at hr
      refine own_run S C [.iconst 1, .goto 4] (pc' := 166) (Ls' := #[.val (.int b)]) (st' := [(.int (1 : Int32))]) (by decide +kernel) rfl ?_
      subst hr
      exact own_retz S C (z' := (1 : Int32)) (by decide) (by decide +kernel) (Nat.zero_le _) (Nat.zero_le _) ⟨rfl, rfl⟩
    · skip
      rw [if_neg (Bool.eq_false_iff.mp hc11_1)] at hr
      exact j_14 r hr
def own_loL : List Int32 := [(192 : Int32), (216 : Int32), (248 : Int32), (880 : Int32), (895 : Int32), (8204 : Int32), (8304 : Int32), (11264 : Int32), (12289 : Int32), (63744 : Int32), (65008 : Int32), (65536 : Int32)]
def own_hiL : List Int32 := [(214 : Int32), (246 : Int32), (767 : Int32), (893 : Int32), (8191 : Int32), (8205 : Int32), (8591 : Int32), (12271 : Int32), (55295 : Int32), (64975 : Int32), (65533 : Int32), (983039 : Int32)]
def own_lo (j : Int32) : Int32 := own_loL.getD j.toNatClampNeg 0
def own_hi (j : Int32) : Int32 := own_hiL.getD j.toNatClampNeg 0
theorem own_sp11 (c : Int32) : (own_ns_149 c = 1 ∧ ((65536 ≤ c.toInt ∧ c.toInt ≤ 983039))) ∨ (own_ns_149 c = 0 ∧ ¬ ((65536 ≤ c.toInt ∧ c.toInt ≤ 983039))) := by
  have l1 : (65536 : Int32).toInt = 65536 := rfl
  have l2 : (983039 : Int32).toInt = 983039 := rfl
  unfold own_ns_149
  simp only [(hh_lt).1, (hh_gt).1, (hh_le).1, l1, l2]
  repeat' split
  all_goals first | exact Or.inl ⟨rfl, by omega⟩ | exact Or.inr ⟨rfl, by omega⟩
theorem own_sp10 (c : Int32) : (own_ns_137 c = 1 ∧ ((65008 ≤ c.toInt ∧ c.toInt ≤ 65533) ∨ (65536 ≤ c.toInt ∧ c.toInt ≤ 983039))) ∨ (own_ns_137 c = 0 ∧ ¬ ((65008 ≤ c.toInt ∧ c.toInt ≤ 65533) ∨ (65536 ≤ c.toInt ∧ c.toInt ≤ 983039))) := by
  have l1 : (65008 : Int32).toInt = 65008 := rfl
  have l2 : (65533 : Int32).toInt = 65533 := rfl
  have hp := own_sp11 c
  unfold own_ns_137
  simp only [(hh_lt).1, (hh_gt).1, (hh_le).1, l1, l2]
  repeat' split
  · rcases hp with ⟨h1, h2⟩ | ⟨h1, h2⟩
    · exact Or.inl ⟨h1, by omega⟩
    · exact Or.inr ⟨h1, by omega⟩
  · exact Or.inl ⟨rfl, by omega⟩
  · rcases hp with ⟨h1, h2⟩ | ⟨h1, h2⟩
    · exact Or.inl ⟨h1, by omega⟩
    · exact Or.inr ⟨h1, by omega⟩
theorem own_sp9 (c : Int32) : (own_ns_125 c = 1 ∧ ((63744 ≤ c.toInt ∧ c.toInt ≤ 64975) ∨ (65008 ≤ c.toInt ∧ c.toInt ≤ 65533) ∨ (65536 ≤ c.toInt ∧ c.toInt ≤ 983039))) ∨ (own_ns_125 c = 0 ∧ ¬ ((63744 ≤ c.toInt ∧ c.toInt ≤ 64975) ∨ (65008 ≤ c.toInt ∧ c.toInt ≤ 65533) ∨ (65536 ≤ c.toInt ∧ c.toInt ≤ 983039))) := by
  have l1 : (63744 : Int32).toInt = 63744 := rfl
  have l2 : (64975 : Int32).toInt = 64975 := rfl
  have hp := own_sp10 c
  unfold own_ns_125
  simp only [(hh_lt).1, (hh_gt).1, (hh_le).1, l1, l2]
  repeat' split
  · rcases hp with ⟨h1, h2⟩ | ⟨h1, h2⟩
    · exact Or.inl ⟨h1, by omega⟩
    · exact Or.inr ⟨h1, by omega⟩
  · exact Or.inl ⟨rfl, by omega⟩
  · rcases hp with ⟨h1, h2⟩ | ⟨h1, h2⟩
    · exact Or.inl ⟨h1, by omega⟩
    · exact Or.inr ⟨h1, by omega⟩
theorem own_sp8 (c : Int32) : (own_ns_112 c = 1 ∧ ((12289 ≤ c.toInt ∧ c.toInt ≤ 55295) ∨ (63744 ≤ c.toInt ∧ c.toInt ≤ 64975) ∨ (65008 ≤ c.toInt ∧ c.toInt ≤ 65533) ∨ (65536 ≤ c.toInt ∧ c.toInt ≤ 983039))) ∨ (own_ns_112 c = 0 ∧ ¬ ((12289 ≤ c.toInt ∧ c.toInt ≤ 55295) ∨ (63744 ≤ c.toInt ∧ c.toInt ≤ 64975) ∨ (65008 ≤ c.toInt ∧ c.toInt ≤ 65533) ∨ (65536 ≤ c.toInt ∧ c.toInt ≤ 983039))) := by
  have l1 : (12289 : Int32).toInt = 12289 := rfl
  have l2 : (55295 : Int32).toInt = 55295 := rfl
  have hp := own_sp9 c
  unfold own_ns_112
  simp only [(hh_lt).1, (hh_gt).1, (hh_le).1, l1, l2]
  repeat' split
  · rcases hp with ⟨h1, h2⟩ | ⟨h1, h2⟩
    · exact Or.inl ⟨h1, by omega⟩
    · exact Or.inr ⟨h1, by omega⟩
  · exact Or.inl ⟨rfl, by omega⟩
  · rcases hp with ⟨h1, h2⟩ | ⟨h1, h2⟩
    · exact Or.inl ⟨h1, by omega⟩
    · exact Or.inr ⟨h1, by omega⟩
theorem own_sp7 (c : Int32) : (own_ns_98 c = 1 ∧ ((11264 ≤ c.toInt ∧ c.toInt ≤ 12271) ∨ (12289 ≤ c.toInt ∧ c.toInt ≤ 55295) ∨ (63744 ≤ c.toInt ∧ c.toInt ≤ 64975) ∨ (65008 ≤ c.toInt ∧ c.toInt ≤ 65533) ∨ (65536 ≤ c.toInt ∧ c.toInt ≤ 983039))) ∨ (own_ns_98 c = 0 ∧ ¬ ((11264 ≤ c.toInt ∧ c.toInt ≤ 12271) ∨ (12289 ≤ c.toInt ∧ c.toInt ≤ 55295) ∨ (63744 ≤ c.toInt ∧ c.toInt ≤ 64975) ∨ (65008 ≤ c.toInt ∧ c.toInt ≤ 65533) ∨ (65536 ≤ c.toInt ∧ c.toInt ≤ 983039))) := by
  have l1 : (11264 : Int32).toInt = 11264 := rfl
  have l2 : (12271 : Int32).toInt = 12271 := rfl
  have hp := own_sp8 c
  unfold own_ns_98
  simp only [(hh_lt).1, (hh_gt).1, (hh_le).1, l1, l2]
  repeat' split
  · rcases hp with ⟨h1, h2⟩ | ⟨h1, h2⟩
    · exact Or.inl ⟨h1, by omega⟩
    · exact Or.inr ⟨h1, by omega⟩
  · exact Or.inl ⟨rfl, by omega⟩
  · rcases hp with ⟨h1, h2⟩ | ⟨h1, h2⟩
    · exact Or.inl ⟨h1, by omega⟩
    · exact Or.inr ⟨h1, by omega⟩
theorem own_sp6 (c : Int32) : (own_ns_84 c = 1 ∧ ((8304 ≤ c.toInt ∧ c.toInt ≤ 8591) ∨ (11264 ≤ c.toInt ∧ c.toInt ≤ 12271) ∨ (12289 ≤ c.toInt ∧ c.toInt ≤ 55295) ∨ (63744 ≤ c.toInt ∧ c.toInt ≤ 64975) ∨ (65008 ≤ c.toInt ∧ c.toInt ≤ 65533) ∨ (65536 ≤ c.toInt ∧ c.toInt ≤ 983039))) ∨ (own_ns_84 c = 0 ∧ ¬ ((8304 ≤ c.toInt ∧ c.toInt ≤ 8591) ∨ (11264 ≤ c.toInt ∧ c.toInt ≤ 12271) ∨ (12289 ≤ c.toInt ∧ c.toInt ≤ 55295) ∨ (63744 ≤ c.toInt ∧ c.toInt ≤ 64975) ∨ (65008 ≤ c.toInt ∧ c.toInt ≤ 65533) ∨ (65536 ≤ c.toInt ∧ c.toInt ≤ 983039))) := by
  have l1 : (8304 : Int32).toInt = 8304 := rfl
  have l2 : (8591 : Int32).toInt = 8591 := rfl
  have hp := own_sp7 c
  unfold own_ns_84
  simp only [(hh_lt).1, (hh_gt).1, (hh_le).1, l1, l2]
  repeat' split
  · rcases hp with ⟨h1, h2⟩ | ⟨h1, h2⟩
    · exact Or.inl ⟨h1, by omega⟩
    · exact Or.inr ⟨h1, by omega⟩
  · exact Or.inl ⟨rfl, by omega⟩
  · rcases hp with ⟨h1, h2⟩ | ⟨h1, h2⟩
    · exact Or.inl ⟨h1, by omega⟩
    · exact Or.inr ⟨h1, by omega⟩
theorem own_sp5 (c : Int32) : (own_ns_70 c = 1 ∧ ((8204 ≤ c.toInt ∧ c.toInt ≤ 8205) ∨ (8304 ≤ c.toInt ∧ c.toInt ≤ 8591) ∨ (11264 ≤ c.toInt ∧ c.toInt ≤ 12271) ∨ (12289 ≤ c.toInt ∧ c.toInt ≤ 55295) ∨ (63744 ≤ c.toInt ∧ c.toInt ≤ 64975) ∨ (65008 ≤ c.toInt ∧ c.toInt ≤ 65533) ∨ (65536 ≤ c.toInt ∧ c.toInt ≤ 983039))) ∨ (own_ns_70 c = 0 ∧ ¬ ((8204 ≤ c.toInt ∧ c.toInt ≤ 8205) ∨ (8304 ≤ c.toInt ∧ c.toInt ≤ 8591) ∨ (11264 ≤ c.toInt ∧ c.toInt ≤ 12271) ∨ (12289 ≤ c.toInt ∧ c.toInt ≤ 55295) ∨ (63744 ≤ c.toInt ∧ c.toInt ≤ 64975) ∨ (65008 ≤ c.toInt ∧ c.toInt ≤ 65533) ∨ (65536 ≤ c.toInt ∧ c.toInt ≤ 983039))) := by
  have l1 : (8204 : Int32).toInt = 8204 := rfl
  have l2 : (8205 : Int32).toInt = 8205 := rfl
  have hp := own_sp6 c
  unfold own_ns_70
  simp only [(hh_lt).1, (hh_gt).1, (hh_le).1, l1, l2]
  repeat' split
  · rcases hp with ⟨h1, h2⟩ | ⟨h1, h2⟩
    · exact Or.inl ⟨h1, by omega⟩
    · exact Or.inr ⟨h1, by omega⟩
  · exact Or.inl ⟨rfl, by omega⟩
  · rcases hp with ⟨h1, h2⟩ | ⟨h1, h2⟩
    · exact Or.inl ⟨h1, by omega⟩
    · exact Or.inr ⟨h1, by omega⟩
theorem own_sp4 (c : Int32) : (own_ns_56 c = 1 ∧ ((895 ≤ c.toInt ∧ c.toInt ≤ 8191) ∨ (8204 ≤ c.toInt ∧ c.toInt ≤ 8205) ∨ (8304 ≤ c.toInt ∧ c.toInt ≤ 8591) ∨ (11264 ≤ c.toInt ∧ c.toInt ≤ 12271) ∨ (12289 ≤ c.toInt ∧ c.toInt ≤ 55295) ∨ (63744 ≤ c.toInt ∧ c.toInt ≤ 64975) ∨ (65008 ≤ c.toInt ∧ c.toInt ≤ 65533) ∨ (65536 ≤ c.toInt ∧ c.toInt ≤ 983039))) ∨ (own_ns_56 c = 0 ∧ ¬ ((895 ≤ c.toInt ∧ c.toInt ≤ 8191) ∨ (8204 ≤ c.toInt ∧ c.toInt ≤ 8205) ∨ (8304 ≤ c.toInt ∧ c.toInt ≤ 8591) ∨ (11264 ≤ c.toInt ∧ c.toInt ≤ 12271) ∨ (12289 ≤ c.toInt ∧ c.toInt ≤ 55295) ∨ (63744 ≤ c.toInt ∧ c.toInt ≤ 64975) ∨ (65008 ≤ c.toInt ∧ c.toInt ≤ 65533) ∨ (65536 ≤ c.toInt ∧ c.toInt ≤ 983039))) := by
  have l1 : (895 : Int32).toInt = 895 := rfl
  have l2 : (8191 : Int32).toInt = 8191 := rfl
  have hp := own_sp5 c
  unfold own_ns_56
  simp only [(hh_lt).1, (hh_gt).1, (hh_le).1, l1, l2]
  repeat' split
  · rcases hp with ⟨h1, h2⟩ | ⟨h1, h2⟩
    · exact Or.inl ⟨h1, by omega⟩
    · exact Or.inr ⟨h1, by omega⟩
  · exact Or.inl ⟨rfl, by omega⟩
  · rcases hp with ⟨h1, h2⟩ | ⟨h1, h2⟩
    · exact Or.inl ⟨h1, by omega⟩
    · exact Or.inr ⟨h1, by omega⟩
theorem own_sp3 (c : Int32) : (own_ns_42 c = 1 ∧ ((880 ≤ c.toInt ∧ c.toInt ≤ 893) ∨ (895 ≤ c.toInt ∧ c.toInt ≤ 8191) ∨ (8204 ≤ c.toInt ∧ c.toInt ≤ 8205) ∨ (8304 ≤ c.toInt ∧ c.toInt ≤ 8591) ∨ (11264 ≤ c.toInt ∧ c.toInt ≤ 12271) ∨ (12289 ≤ c.toInt ∧ c.toInt ≤ 55295) ∨ (63744 ≤ c.toInt ∧ c.toInt ≤ 64975) ∨ (65008 ≤ c.toInt ∧ c.toInt ≤ 65533) ∨ (65536 ≤ c.toInt ∧ c.toInt ≤ 983039))) ∨ (own_ns_42 c = 0 ∧ ¬ ((880 ≤ c.toInt ∧ c.toInt ≤ 893) ∨ (895 ≤ c.toInt ∧ c.toInt ≤ 8191) ∨ (8204 ≤ c.toInt ∧ c.toInt ≤ 8205) ∨ (8304 ≤ c.toInt ∧ c.toInt ≤ 8591) ∨ (11264 ≤ c.toInt ∧ c.toInt ≤ 12271) ∨ (12289 ≤ c.toInt ∧ c.toInt ≤ 55295) ∨ (63744 ≤ c.toInt ∧ c.toInt ≤ 64975) ∨ (65008 ≤ c.toInt ∧ c.toInt ≤ 65533) ∨ (65536 ≤ c.toInt ∧ c.toInt ≤ 983039))) := by
  have l1 : (880 : Int32).toInt = 880 := rfl
  have l2 : (893 : Int32).toInt = 893 := rfl
  have hp := own_sp4 c
  unfold own_ns_42
  simp only [(hh_lt).1, (hh_gt).1, (hh_le).1, l1, l2]
  repeat' split
  · rcases hp with ⟨h1, h2⟩ | ⟨h1, h2⟩
    · exact Or.inl ⟨h1, by omega⟩
    · exact Or.inr ⟨h1, by omega⟩
  · exact Or.inl ⟨rfl, by omega⟩
  · rcases hp with ⟨h1, h2⟩ | ⟨h1, h2⟩
    · exact Or.inl ⟨h1, by omega⟩
    · exact Or.inr ⟨h1, by omega⟩
theorem own_sp2 (c : Int32) : (own_ns_28 c = 1 ∧ ((248 ≤ c.toInt ∧ c.toInt ≤ 767) ∨ (880 ≤ c.toInt ∧ c.toInt ≤ 893) ∨ (895 ≤ c.toInt ∧ c.toInt ≤ 8191) ∨ (8204 ≤ c.toInt ∧ c.toInt ≤ 8205) ∨ (8304 ≤ c.toInt ∧ c.toInt ≤ 8591) ∨ (11264 ≤ c.toInt ∧ c.toInt ≤ 12271) ∨ (12289 ≤ c.toInt ∧ c.toInt ≤ 55295) ∨ (63744 ≤ c.toInt ∧ c.toInt ≤ 64975) ∨ (65008 ≤ c.toInt ∧ c.toInt ≤ 65533) ∨ (65536 ≤ c.toInt ∧ c.toInt ≤ 983039))) ∨ (own_ns_28 c = 0 ∧ ¬ ((248 ≤ c.toInt ∧ c.toInt ≤ 767) ∨ (880 ≤ c.toInt ∧ c.toInt ≤ 893) ∨ (895 ≤ c.toInt ∧ c.toInt ≤ 8191) ∨ (8204 ≤ c.toInt ∧ c.toInt ≤ 8205) ∨ (8304 ≤ c.toInt ∧ c.toInt ≤ 8591) ∨ (11264 ≤ c.toInt ∧ c.toInt ≤ 12271) ∨ (12289 ≤ c.toInt ∧ c.toInt ≤ 55295) ∨ (63744 ≤ c.toInt ∧ c.toInt ≤ 64975) ∨ (65008 ≤ c.toInt ∧ c.toInt ≤ 65533) ∨ (65536 ≤ c.toInt ∧ c.toInt ≤ 983039))) := by
  have l1 : (248 : Int32).toInt = 248 := rfl
  have l2 : (767 : Int32).toInt = 767 := rfl
  have hp := own_sp3 c
  unfold own_ns_28
  simp only [(hh_lt).1, (hh_gt).1, (hh_le).1, l1, l2]
  repeat' split
  · rcases hp with ⟨h1, h2⟩ | ⟨h1, h2⟩
    · exact Or.inl ⟨h1, by omega⟩
    · exact Or.inr ⟨h1, by omega⟩
  · exact Or.inl ⟨rfl, by omega⟩
  · rcases hp with ⟨h1, h2⟩ | ⟨h1, h2⟩
    · exact Or.inl ⟨h1, by omega⟩
    · exact Or.inr ⟨h1, by omega⟩
theorem own_sp1 (c : Int32) : (own_ns_14 c = 1 ∧ ((216 ≤ c.toInt ∧ c.toInt ≤ 246) ∨ (248 ≤ c.toInt ∧ c.toInt ≤ 767) ∨ (880 ≤ c.toInt ∧ c.toInt ≤ 893) ∨ (895 ≤ c.toInt ∧ c.toInt ≤ 8191) ∨ (8204 ≤ c.toInt ∧ c.toInt ≤ 8205) ∨ (8304 ≤ c.toInt ∧ c.toInt ≤ 8591) ∨ (11264 ≤ c.toInt ∧ c.toInt ≤ 12271) ∨ (12289 ≤ c.toInt ∧ c.toInt ≤ 55295) ∨ (63744 ≤ c.toInt ∧ c.toInt ≤ 64975) ∨ (65008 ≤ c.toInt ∧ c.toInt ≤ 65533) ∨ (65536 ≤ c.toInt ∧ c.toInt ≤ 983039))) ∨ (own_ns_14 c = 0 ∧ ¬ ((216 ≤ c.toInt ∧ c.toInt ≤ 246) ∨ (248 ≤ c.toInt ∧ c.toInt ≤ 767) ∨ (880 ≤ c.toInt ∧ c.toInt ≤ 893) ∨ (895 ≤ c.toInt ∧ c.toInt ≤ 8191) ∨ (8204 ≤ c.toInt ∧ c.toInt ≤ 8205) ∨ (8304 ≤ c.toInt ∧ c.toInt ≤ 8591) ∨ (11264 ≤ c.toInt ∧ c.toInt ≤ 12271) ∨ (12289 ≤ c.toInt ∧ c.toInt ≤ 55295) ∨ (63744 ≤ c.toInt ∧ c.toInt ≤ 64975) ∨ (65008 ≤ c.toInt ∧ c.toInt ≤ 65533) ∨ (65536 ≤ c.toInt ∧ c.toInt ≤ 983039))) := by
  have l1 : (216 : Int32).toInt = 216 := rfl
  have l2 : (246 : Int32).toInt = 246 := rfl
  have hp := own_sp2 c
  unfold own_ns_14
  simp only [(hh_lt).1, (hh_gt).1, (hh_le).1, l1, l2]
  repeat' split
  · rcases hp with ⟨h1, h2⟩ | ⟨h1, h2⟩
    · exact Or.inl ⟨h1, by omega⟩
    · exact Or.inr ⟨h1, by omega⟩
  · exact Or.inl ⟨rfl, by omega⟩
  · rcases hp with ⟨h1, h2⟩ | ⟨h1, h2⟩
    · exact Or.inl ⟨h1, by omega⟩
    · exact Or.inr ⟨h1, by omega⟩
theorem own_sp0 (c : Int32) : (own_ns c = 1 ∧ ((192 ≤ c.toInt ∧ c.toInt ≤ 214) ∨ (216 ≤ c.toInt ∧ c.toInt ≤ 246) ∨ (248 ≤ c.toInt ∧ c.toInt ≤ 767) ∨ (880 ≤ c.toInt ∧ c.toInt ≤ 893) ∨ (895 ≤ c.toInt ∧ c.toInt ≤ 8191) ∨ (8204 ≤ c.toInt ∧ c.toInt ≤ 8205) ∨ (8304 ≤ c.toInt ∧ c.toInt ≤ 8591) ∨ (11264 ≤ c.toInt ∧ c.toInt ≤ 12271) ∨ (12289 ≤ c.toInt ∧ c.toInt ≤ 55295) ∨ (63744 ≤ c.toInt ∧ c.toInt ≤ 64975) ∨ (65008 ≤ c.toInt ∧ c.toInt ≤ 65533) ∨ (65536 ≤ c.toInt ∧ c.toInt ≤ 983039))) ∨ (own_ns c = 0 ∧ ¬ ((192 ≤ c.toInt ∧ c.toInt ≤ 214) ∨ (216 ≤ c.toInt ∧ c.toInt ≤ 246) ∨ (248 ≤ c.toInt ∧ c.toInt ≤ 767) ∨ (880 ≤ c.toInt ∧ c.toInt ≤ 893) ∨ (895 ≤ c.toInt ∧ c.toInt ≤ 8191) ∨ (8204 ≤ c.toInt ∧ c.toInt ≤ 8205) ∨ (8304 ≤ c.toInt ∧ c.toInt ≤ 8591) ∨ (11264 ≤ c.toInt ∧ c.toInt ≤ 12271) ∨ (12289 ≤ c.toInt ∧ c.toInt ≤ 55295) ∨ (63744 ≤ c.toInt ∧ c.toInt ≤ 64975) ∨ (65008 ≤ c.toInt ∧ c.toInt ≤ 65533) ∨ (65536 ≤ c.toInt ∧ c.toInt ≤ 983039))) := by
  have l1 : (192 : Int32).toInt = 192 := rfl
  have l2 : (214 : Int32).toInt = 214 := rfl
  have hp := own_sp1 c
  unfold own_ns
  simp only [(hh_lt).1, (hh_gt).1, (hh_le).1, l1, l2]
  repeat' split
  · rcases hp with ⟨h1, h2⟩ | ⟨h1, h2⟩
    · exact Or.inl ⟨h1, by omega⟩
    · exact Or.inr ⟨h1, by omega⟩
  · exact Or.inl ⟨rfl, by omega⟩
  · rcases hp with ⟨h1, h2⟩ | ⟨h1, h2⟩
    · exact Or.inl ⟨h1, by omega⟩
    · exact Or.inr ⟨h1, by omega⟩
theorem own_one {c : Int32} (h : (192 ≤ c.toInt ∧ c.toInt ≤ 214) ∨ (216 ≤ c.toInt ∧ c.toInt ≤ 246) ∨ (248 ≤ c.toInt ∧ c.toInt ≤ 767) ∨ (880 ≤ c.toInt ∧ c.toInt ≤ 893) ∨ (895 ≤ c.toInt ∧ c.toInt ≤ 8191) ∨ (8204 ≤ c.toInt ∧ c.toInt ≤ 8205) ∨ (8304 ≤ c.toInt ∧ c.toInt ≤ 8591) ∨ (11264 ≤ c.toInt ∧ c.toInt ≤ 12271) ∨ (12289 ≤ c.toInt ∧ c.toInt ≤ 55295) ∨ (63744 ≤ c.toInt ∧ c.toInt ≤ 64975) ∨ (65008 ≤ c.toInt ∧ c.toInt ≤ 65533) ∨ (65536 ≤ c.toInt ∧ c.toInt ≤ 983039)) : own_ns c = 1 := by
  rcases own_sp0 c with ⟨h1, -⟩ | ⟨-, h2⟩
  · exact h1
  · exact absurd h h2
theorem own_zero {c : Int32} (h : ¬ ((192 ≤ c.toInt ∧ c.toInt ≤ 214) ∨ (216 ≤ c.toInt ∧ c.toInt ≤ 246) ∨ (248 ≤ c.toInt ∧ c.toInt ≤ 767) ∨ (880 ≤ c.toInt ∧ c.toInt ≤ 893) ∨ (895 ≤ c.toInt ∧ c.toInt ≤ 8191) ∨ (8204 ≤ c.toInt ∧ c.toInt ≤ 8205) ∨ (8304 ≤ c.toInt ∧ c.toInt ≤ 8591) ∨ (11264 ≤ c.toInt ∧ c.toInt ≤ 12271) ∨ (12289 ≤ c.toInt ∧ c.toInt ≤ 55295) ∨ (63744 ≤ c.toInt ∧ c.toInt ≤ 64975) ∨ (65008 ≤ c.toInt ∧ c.toInt ≤ 65533) ∨ (65536 ≤ c.toInt ∧ c.toInt ≤ 983039))) : own_ns c = 0 := by
  rcases own_sp0 c with ⟨-, h2⟩ | ⟨h1, -⟩
  · exact absurd h2 h
  · exact h1
theorem own_mod {g n : Int32} {G N : Int} {pos : Int32} (hp : 0 ≤ pos.toInt) (hg : g.toInt = G) (hn : n.toInt = N) (h0 : 0 ≤ G) (h1 : 0 < N) (h2 : G + N ≤ 2147483648) : n ≠ 0 ∧ G ≤ (g + (pos - pos / n * n)).toInt ∧ (g + (pos - pos / n * n)).toInt < G + N := by
  subst hg hn
  have hr := own_rem hp h1
  have h3 : 0 ≤ pos.toInt % n.toInt := Int.emod_nonneg _ (by omega)
  have h4 : pos.toInt % n.toInt < n.toInt := Int.emod_lt_of_pos _ h1
  refine ⟨fun z => by rw [z] at h1; exact absurd h1 (by decide), ?_⟩
  rw [own_add (by rw [hr]; omega) (by rw [hr]; omega), hr]; omega
theorem own_in {j pos : Int32} (h0 : 0 ≤ j.toInt) (h1 : j.toInt < 12) (hp : 0 ≤ pos.toInt) : own_hi j - own_lo j + (1 : Int32) ≠ 0 ∧ own_ns (own_lo j + (pos - pos / (own_hi j - own_lo j + (1 : Int32)) * (own_hi j - own_lo j + (1 : Int32)))) = 1 := by
  rw [own_ofNat h0]
  obtain ⟨k, hk⟩ : ∃ k, k = j.toInt.toNat := ⟨_, rfl⟩
  rw [← hk]
  have hk2 : k < 12 := by omega
  clear hk h0 h1
  match k, hk2 with
  | 0, _ =>
    have q := own_mod (g := own_lo (Int32.ofNat 0)) (n := own_hi (Int32.ofNat 0) - own_lo (Int32.ofNat 0) + (1 : Int32)) (G := 192) (N := 23) hp (by decide) (by decide) (by decide) (by decide) (by decide)
    exact ⟨q.1, own_one (by omega)⟩
  | 1, _ =>
    have q := own_mod (g := own_lo (Int32.ofNat 1)) (n := own_hi (Int32.ofNat 1) - own_lo (Int32.ofNat 1) + (1 : Int32)) (G := 216) (N := 31) hp (by decide) (by decide) (by decide) (by decide) (by decide)
    exact ⟨q.1, own_one (by omega)⟩
  | 2, _ =>
    have q := own_mod (g := own_lo (Int32.ofNat 2)) (n := own_hi (Int32.ofNat 2) - own_lo (Int32.ofNat 2) + (1 : Int32)) (G := 248) (N := 520) hp (by decide) (by decide) (by decide) (by decide) (by decide)
    exact ⟨q.1, own_one (by omega)⟩
  | 3, _ =>
    have q := own_mod (g := own_lo (Int32.ofNat 3)) (n := own_hi (Int32.ofNat 3) - own_lo (Int32.ofNat 3) + (1 : Int32)) (G := 880) (N := 14) hp (by decide) (by decide) (by decide) (by decide) (by decide)
    exact ⟨q.1, own_one (by omega)⟩
  | 4, _ =>
    have q := own_mod (g := own_lo (Int32.ofNat 4)) (n := own_hi (Int32.ofNat 4) - own_lo (Int32.ofNat 4) + (1 : Int32)) (G := 895) (N := 7297) hp (by decide) (by decide) (by decide) (by decide) (by decide)
    exact ⟨q.1, own_one (by omega)⟩
  | 5, _ =>
    have q := own_mod (g := own_lo (Int32.ofNat 5)) (n := own_hi (Int32.ofNat 5) - own_lo (Int32.ofNat 5) + (1 : Int32)) (G := 8204) (N := 2) hp (by decide) (by decide) (by decide) (by decide) (by decide)
    exact ⟨q.1, own_one (by omega)⟩
  | 6, _ =>
    have q := own_mod (g := own_lo (Int32.ofNat 6)) (n := own_hi (Int32.ofNat 6) - own_lo (Int32.ofNat 6) + (1 : Int32)) (G := 8304) (N := 288) hp (by decide) (by decide) (by decide) (by decide) (by decide)
    exact ⟨q.1, own_one (by omega)⟩
  | 7, _ =>
    have q := own_mod (g := own_lo (Int32.ofNat 7)) (n := own_hi (Int32.ofNat 7) - own_lo (Int32.ofNat 7) + (1 : Int32)) (G := 11264) (N := 1008) hp (by decide) (by decide) (by decide) (by decide) (by decide)
    exact ⟨q.1, own_one (by omega)⟩
  | 8, _ =>
    have q := own_mod (g := own_lo (Int32.ofNat 8)) (n := own_hi (Int32.ofNat 8) - own_lo (Int32.ofNat 8) + (1 : Int32)) (G := 12289) (N := 43007) hp (by decide) (by decide) (by decide) (by decide) (by decide)
    exact ⟨q.1, own_one (by omega)⟩
  | 9, _ =>
    have q := own_mod (g := own_lo (Int32.ofNat 9)) (n := own_hi (Int32.ofNat 9) - own_lo (Int32.ofNat 9) + (1 : Int32)) (G := 63744) (N := 1232) hp (by decide) (by decide) (by decide) (by decide) (by decide)
    exact ⟨q.1, own_one (by omega)⟩
  | 10, _ =>
    have q := own_mod (g := own_lo (Int32.ofNat 10)) (n := own_hi (Int32.ofNat 10) - own_lo (Int32.ofNat 10) + (1 : Int32)) (G := 65008) (N := 526) hp (by decide) (by decide) (by decide) (by decide) (by decide)
    exact ⟨q.1, own_one (by omega)⟩
  | 11, _ =>
    have q := own_mod (g := own_lo (Int32.ofNat 11)) (n := own_hi (Int32.ofNat 11) - own_lo (Int32.ofNat 11) + (1 : Int32)) (G := 65536) (N := 917504) hp (by decide) (by decide) (by decide) (by decide) (by decide)
    exact ⟨q.1, own_one (by omega)⟩
def own_glo (k : Int32) : Int32 := if k.toInt = 0 then 128 else own_hi (k - 1) + 1
def own_ghi (k : Int32) : Int32 := if k.toInt = 12 then 2147483647 else own_lo k - 1
theorem own_out {j pos : Int32} (h0 : 0 ≤ j.toInt) (h1 : j.toInt < 13) (hp : 0 ≤ pos.toInt) : own_ghi j - own_glo j + (1 : Int32) ≠ 0 ∧ own_ns (own_glo j + (pos - pos / (own_ghi j - own_glo j + (1 : Int32)) * (own_ghi j - own_glo j + (1 : Int32)))) = 0 := by
  rw [own_ofNat h0]
  obtain ⟨k, hk⟩ : ∃ k, k = j.toInt.toNat := ⟨_, rfl⟩
  rw [← hk]
  have hk2 : k < 13 := by omega
  clear hk h0 h1
  match k, hk2 with
  | 0, _ =>
    have q := own_mod (g := own_glo (Int32.ofNat 0)) (n := own_ghi (Int32.ofNat 0) - own_glo (Int32.ofNat 0) + (1 : Int32)) (G := 128) (N := 64) hp (by decide) (by decide) (by decide) (by decide) (by decide)
    exact ⟨q.1, own_zero (by omega)⟩
  | 1, _ =>
    have q := own_mod (g := own_glo (Int32.ofNat 1)) (n := own_ghi (Int32.ofNat 1) - own_glo (Int32.ofNat 1) + (1 : Int32)) (G := 215) (N := 1) hp (by decide) (by decide) (by decide) (by decide) (by decide)
    exact ⟨q.1, own_zero (by omega)⟩
  | 2, _ =>
    have q := own_mod (g := own_glo (Int32.ofNat 2)) (n := own_ghi (Int32.ofNat 2) - own_glo (Int32.ofNat 2) + (1 : Int32)) (G := 247) (N := 1) hp (by decide) (by decide) (by decide) (by decide) (by decide)
    exact ⟨q.1, own_zero (by omega)⟩
  | 3, _ =>
    have q := own_mod (g := own_glo (Int32.ofNat 3)) (n := own_ghi (Int32.ofNat 3) - own_glo (Int32.ofNat 3) + (1 : Int32)) (G := 768) (N := 112) hp (by decide) (by decide) (by decide) (by decide) (by decide)
    exact ⟨q.1, own_zero (by omega)⟩
  | 4, _ =>
    have q := own_mod (g := own_glo (Int32.ofNat 4)) (n := own_ghi (Int32.ofNat 4) - own_glo (Int32.ofNat 4) + (1 : Int32)) (G := 894) (N := 1) hp (by decide) (by decide) (by decide) (by decide) (by decide)
    exact ⟨q.1, own_zero (by omega)⟩
  | 5, _ =>
    have q := own_mod (g := own_glo (Int32.ofNat 5)) (n := own_ghi (Int32.ofNat 5) - own_glo (Int32.ofNat 5) + (1 : Int32)) (G := 8192) (N := 12) hp (by decide) (by decide) (by decide) (by decide) (by decide)
    exact ⟨q.1, own_zero (by omega)⟩
  | 6, _ =>
    have q := own_mod (g := own_glo (Int32.ofNat 6)) (n := own_ghi (Int32.ofNat 6) - own_glo (Int32.ofNat 6) + (1 : Int32)) (G := 8206) (N := 98) hp (by decide) (by decide) (by decide) (by decide) (by decide)
    exact ⟨q.1, own_zero (by omega)⟩
  | 7, _ =>
    have q := own_mod (g := own_glo (Int32.ofNat 7)) (n := own_ghi (Int32.ofNat 7) - own_glo (Int32.ofNat 7) + (1 : Int32)) (G := 8592) (N := 2672) hp (by decide) (by decide) (by decide) (by decide) (by decide)
    exact ⟨q.1, own_zero (by omega)⟩
  | 8, _ =>
    have q := own_mod (g := own_glo (Int32.ofNat 8)) (n := own_ghi (Int32.ofNat 8) - own_glo (Int32.ofNat 8) + (1 : Int32)) (G := 12272) (N := 17) hp (by decide) (by decide) (by decide) (by decide) (by decide)
    exact ⟨q.1, own_zero (by omega)⟩
  | 9, _ =>
    have q := own_mod (g := own_glo (Int32.ofNat 9)) (n := own_ghi (Int32.ofNat 9) - own_glo (Int32.ofNat 9) + (1 : Int32)) (G := 55296) (N := 8448) hp (by decide) (by decide) (by decide) (by decide) (by decide)
    exact ⟨q.1, own_zero (by omega)⟩
  | 10, _ =>
    have q := own_mod (g := own_glo (Int32.ofNat 10)) (n := own_ghi (Int32.ofNat 10) - own_glo (Int32.ofNat 10) + (1 : Int32)) (G := 64976) (N := 32) hp (by decide) (by decide) (by decide) (by decide) (by decide)
    exact ⟨q.1, own_zero (by omega)⟩
  | 11, _ =>
    have q := own_mod (g := own_glo (Int32.ofNat 11)) (n := own_ghi (Int32.ofNat 11) - own_glo (Int32.ofNat 11) + (1 : Int32)) (G := 65534) (N := 2) hp (by decide) (by decide) (by decide) (by decide) (by decide)
    exact ⟨q.1, own_zero (by omega)⟩
  | 12, _ =>
    have q := own_mod (g := own_glo (Int32.ofNat 12)) (n := own_ghi (Int32.ofNat 12) - own_glo (Int32.ofNat 12) + (1 : Int32)) (G := 983040) (N := 2146500608) hp (by decide) (by decide) (by decide) (by decide) (by decide)
    exact ⟨q.1, own_zero (by omega)⟩
theorem ef_law (m : MethodId) (x0 : Int32) (x1 : Int32) : entryFrame m #[(.int x0), (.int x1)] maxLocals = mkF m 0 #[.val (.int x0), .val (.int x1), .unset, .unset, .unset, .unset, .unset, .unset, .unset, .unset, .unset] [] := by first | (simp [entryFrame, mkF, argsToLocals, Value.category, maxLocals]; done) | rfl
theorem pn_law : plainFor (⟨"com/example/klarbrief/klarbrief/core/XmlCharactersIsNameStartPinLaw", "law", "(II)Z"⟩ : MethodName) = true := by first | (exact plainFor_of_name (by first | (simp [plainName, overriddenIn]; done) | decide +kernel)) | decide +kernel
set_option maxRecDepth 65536 in
set_option maxHeartbeats 40000000 in
theorem rm_law (l : Launch) (Z : State) (a0 : Array Value) (hw : ∀ d ∈ tables_1, d.before a0 Z = true) (ws : List Jvm.Cond) (x0 : Int32) (x1 : Int32) (h : Heap) (n0 : Nat) (Z0 : n0 ≤ h.size) :
    Mt l Z x code maxLocals ret ws room_1 #[(.int x0), (.int x1)] h n0 (fun v _ => v = some (.int 1)) := by
  refine Mt.of (own := "com/example/klarbrief/klarbrief/core/XmlCharactersIsNameStartPinLaw") (nm := "law") pn_law Z0 (Ls := #[.val (.int x0), .val (.int x1), .unset, .unset, .unset, .unset, .unset, .unset, .unset, .unset, .unset]) (fun m => ef_law m x0 x1) rfl rfl (fun p e s m below meth c T C S => ?_)
  refine own_run S C [.bipush 12] (pc' := 2) (Ls' := #[.val (.int x0), .val (.int x1), .unset, .unset, .unset, .unset, .unset, .unset, .unset, .unset, .unset]) (st' := [(.int (12 : Int32))]) (by decide +kernel) rfl ?_
  refine own_newarray S C (hw _ (List.mem_of_getElem? (i := 0) rfl)) (by decide +kernel) (n := (12 : Int32)) (by decide) 12 (by decide) (by decide) (by decide) (by decide) (vs := [(0 : Int32), (0 : Int32), (0 : Int32), (0 : Int32), (0 : Int32), (0 : Int32), (0 : Int32), (0 : Int32), (0 : Int32), (0 : Int32), (0 : Int32), (0 : Int32)]) rfl (fun T1 h1 b1 e1 S1 E1 g1 A1 => ?_)
  refine own_run S1 C [.dup, .iconst 0, .sipush 192] (pc' := 9) (Ls' := #[.val (.int x0), .val (.int x1), .unset, .unset, .unset, .unset, .unset, .unset, .unset, .unset, .unset]) (st' := [(.int (192 : Int32)), (.int (0 : Int32)), (.ref b1), (.ref b1)]) (by decide +kernel) rfl ?_
  refine own_iastore S1 C A1 (by decide +kernel) (j := (0 : Int32)) (x := (192 : Int32)) ⟨by decide, (by decide : (0 : Int32).toInt < ((12 : Nat) : Int))⟩ g1 (vs' := [(192 : Int32), (0 : Int32), (0 : Int32), (0 : Int32), (0 : Int32), (0 : Int32), (0 : Int32), (0 : Int32), (0 : Int32), (0 : Int32), (0 : Int32), (0 : Int32)]) rfl (fun T2 h2 S2 K2 A2 => ?_)
  refine own_run S2 C [.dup, .iconst 1, .sipush 216] (pc' := 15) (Ls' := #[.val (.int x0), .val (.int x1), .unset, .unset, .unset, .unset, .unset, .unset, .unset, .unset, .unset]) (st' := [(.int (216 : Int32)), (.int (1 : Int32)), (.ref b1), (.ref b1)]) (by decide +kernel) rfl ?_
  refine own_iastore S2 C A2 (by decide +kernel) (j := (1 : Int32)) (x := (216 : Int32)) ⟨by decide, (by decide : (1 : Int32).toInt < ((12 : Nat) : Int))⟩ g1 (vs' := [(192 : Int32), (216 : Int32), (0 : Int32), (0 : Int32), (0 : Int32), (0 : Int32), (0 : Int32), (0 : Int32), (0 : Int32), (0 : Int32), (0 : Int32), (0 : Int32)]) rfl (fun T3 h3 S3 K3 A3 => ?_)
  refine own_run S3 C [.dup, .iconst 2, .sipush 248] (pc' := 21) (Ls' := #[.val (.int x0), .val (.int x1), .unset, .unset, .unset, .unset, .unset, .unset, .unset, .unset, .unset]) (st' := [(.int (248 : Int32)), (.int (2 : Int32)), (.ref b1), (.ref b1)]) (by decide +kernel) rfl ?_
  refine own_iastore S3 C A3 (by decide +kernel) (j := (2 : Int32)) (x := (248 : Int32)) ⟨by decide, (by decide : (2 : Int32).toInt < ((12 : Nat) : Int))⟩ g1 (vs' := [(192 : Int32), (216 : Int32), (248 : Int32), (0 : Int32), (0 : Int32), (0 : Int32), (0 : Int32), (0 : Int32), (0 : Int32), (0 : Int32), (0 : Int32), (0 : Int32)]) rfl (fun T4 h4 S4 K4 A4 => ?_)
  refine own_run S4 C [.dup, .iconst 3, .sipush 880] (pc' := 27) (Ls' := #[.val (.int x0), .val (.int x1), .unset, .unset, .unset, .unset, .unset, .unset, .unset, .unset, .unset]) (st' := [(.int (880 : Int32)), (.int (3 : Int32)), (.ref b1), (.ref b1)]) (by decide +kernel) rfl ?_
  refine own_iastore S4 C A4 (by decide +kernel) (j := (3 : Int32)) (x := (880 : Int32)) ⟨by decide, (by decide : (3 : Int32).toInt < ((12 : Nat) : Int))⟩ g1 (vs' := [(192 : Int32), (216 : Int32), (248 : Int32), (880 : Int32), (0 : Int32), (0 : Int32), (0 : Int32), (0 : Int32), (0 : Int32), (0 : Int32), (0 : Int32), (0 : Int32)]) rfl (fun T5 h5 S5 K5 A5 => ?_)
  refine own_run S5 C [.dup, .iconst 4, .sipush 895] (pc' := 33) (Ls' := #[.val (.int x0), .val (.int x1), .unset, .unset, .unset, .unset, .unset, .unset, .unset, .unset, .unset]) (st' := [(.int (895 : Int32)), (.int (4 : Int32)), (.ref b1), (.ref b1)]) (by decide +kernel) rfl ?_
  refine own_iastore S5 C A5 (by decide +kernel) (j := (4 : Int32)) (x := (895 : Int32)) ⟨by decide, (by decide : (4 : Int32).toInt < ((12 : Nat) : Int))⟩ g1 (vs' := [(192 : Int32), (216 : Int32), (248 : Int32), (880 : Int32), (895 : Int32), (0 : Int32), (0 : Int32), (0 : Int32), (0 : Int32), (0 : Int32), (0 : Int32), (0 : Int32)]) rfl (fun T6 h6 S6 K6 A6 => ?_)
  refine own_run S6 C [.dup, .iconst 5, .sipush 8204] (pc' := 39) (Ls' := #[.val (.int x0), .val (.int x1), .unset, .unset, .unset, .unset, .unset, .unset, .unset, .unset, .unset]) (st' := [(.int (8204 : Int32)), (.int (5 : Int32)), (.ref b1), (.ref b1)]) (by decide +kernel) rfl ?_
  refine own_iastore S6 C A6 (by decide +kernel) (j := (5 : Int32)) (x := (8204 : Int32)) ⟨by decide, (by decide : (5 : Int32).toInt < ((12 : Nat) : Int))⟩ g1 (vs' := [(192 : Int32), (216 : Int32), (248 : Int32), (880 : Int32), (895 : Int32), (8204 : Int32), (0 : Int32), (0 : Int32), (0 : Int32), (0 : Int32), (0 : Int32), (0 : Int32)]) rfl (fun T7 h7 S7 K7 A7 => ?_)
  refine own_run S7 C [.dup, .bipush 6, .sipush 8304] (pc' := 46) (Ls' := #[.val (.int x0), .val (.int x1), .unset, .unset, .unset, .unset, .unset, .unset, .unset, .unset, .unset]) (st' := [(.int (8304 : Int32)), (.int (6 : Int32)), (.ref b1), (.ref b1)]) (by decide +kernel) rfl ?_
  refine own_iastore S7 C A7 (by decide +kernel) (j := (6 : Int32)) (x := (8304 : Int32)) ⟨by decide, (by decide : (6 : Int32).toInt < ((12 : Nat) : Int))⟩ g1 (vs' := [(192 : Int32), (216 : Int32), (248 : Int32), (880 : Int32), (895 : Int32), (8204 : Int32), (8304 : Int32), (0 : Int32), (0 : Int32), (0 : Int32), (0 : Int32), (0 : Int32)]) rfl (fun T8 h8 S8 K8 A8 => ?_)
  refine own_run S8 C [.dup, .bipush 7, .sipush 11264] (pc' := 53) (Ls' := #[.val (.int x0), .val (.int x1), .unset, .unset, .unset, .unset, .unset, .unset, .unset, .unset, .unset]) (st' := [(.int (11264 : Int32)), (.int (7 : Int32)), (.ref b1), (.ref b1)]) (by decide +kernel) rfl ?_
  refine own_iastore S8 C A8 (by decide +kernel) (j := (7 : Int32)) (x := (11264 : Int32)) ⟨by decide, (by decide : (7 : Int32).toInt < ((12 : Nat) : Int))⟩ g1 (vs' := [(192 : Int32), (216 : Int32), (248 : Int32), (880 : Int32), (895 : Int32), (8204 : Int32), (8304 : Int32), (11264 : Int32), (0 : Int32), (0 : Int32), (0 : Int32), (0 : Int32)]) rfl (fun T9 h9 S9 K9 A9 => ?_)
  refine own_run S9 C [.dup, .bipush 8, .sipush 12289] (pc' := 60) (Ls' := #[.val (.int x0), .val (.int x1), .unset, .unset, .unset, .unset, .unset, .unset, .unset, .unset, .unset]) (st' := [(.int (12289 : Int32)), (.int (8 : Int32)), (.ref b1), (.ref b1)]) (by decide +kernel) rfl ?_
  refine own_iastore S9 C A9 (by decide +kernel) (j := (8 : Int32)) (x := (12289 : Int32)) ⟨by decide, (by decide : (8 : Int32).toInt < ((12 : Nat) : Int))⟩ g1 (vs' := [(192 : Int32), (216 : Int32), (248 : Int32), (880 : Int32), (895 : Int32), (8204 : Int32), (8304 : Int32), (11264 : Int32), (12289 : Int32), (0 : Int32), (0 : Int32), (0 : Int32)]) rfl (fun T10 h10 S10 K10 A10 => ?_)
  refine own_run S10 C [.dup, .bipush 9] (pc' := 64) (Ls' := #[.val (.int x0), .val (.int x1), .unset, .unset, .unset, .unset, .unset, .unset, .unset, .unset, .unset]) (st' := [(.int (9 : Int32)), (.ref b1), (.ref b1)]) (by decide +kernel) rfl ?_
  refine own_ldc S10 C (hw _ (List.mem_of_getElem? (i := 1) rfl)) (by decide +kernel) ?_
  show Con p e below _ (mkF m 66 #[.val (.int x0), .val (.int x1), .unset, .unset, .unset, .unset, .unset, .unset, .unset, .unset, .unset] [(.int (63744 : Int32)), (.int (9 : Int32)), (.ref b1), (.ref b1)]) _
  refine own_iastore S10 C A10 (by decide +kernel) (j := (9 : Int32)) (x := (63744 : Int32)) ⟨by decide, (by decide : (9 : Int32).toInt < ((12 : Nat) : Int))⟩ g1 (vs' := [(192 : Int32), (216 : Int32), (248 : Int32), (880 : Int32), (895 : Int32), (8204 : Int32), (8304 : Int32), (11264 : Int32), (12289 : Int32), (63744 : Int32), (0 : Int32), (0 : Int32)]) rfl (fun T11 h11 S11 K11 A11 => ?_)
  refine own_run S11 C [.dup, .bipush 10] (pc' := 70) (Ls' := #[.val (.int x0), .val (.int x1), .unset, .unset, .unset, .unset, .unset, .unset, .unset, .unset, .unset]) (st' := [(.int (10 : Int32)), (.ref b1), (.ref b1)]) (by decide +kernel) rfl ?_
  refine own_ldc S11 C (hw _ (List.mem_of_getElem? (i := 2) rfl)) (by decide +kernel) ?_
  show Con p e below _ (mkF m 72 #[.val (.int x0), .val (.int x1), .unset, .unset, .unset, .unset, .unset, .unset, .unset, .unset, .unset] [(.int (65008 : Int32)), (.int (10 : Int32)), (.ref b1), (.ref b1)]) _
  refine own_iastore S11 C A11 (by decide +kernel) (j := (10 : Int32)) (x := (65008 : Int32)) ⟨by decide, (by decide : (10 : Int32).toInt < ((12 : Nat) : Int))⟩ g1 (vs' := [(192 : Int32), (216 : Int32), (248 : Int32), (880 : Int32), (895 : Int32), (8204 : Int32), (8304 : Int32), (11264 : Int32), (12289 : Int32), (63744 : Int32), (65008 : Int32), (0 : Int32)]) rfl (fun T12 h12 S12 K12 A12 => ?_)
  refine own_run S12 C [.dup, .bipush 11] (pc' := 76) (Ls' := #[.val (.int x0), .val (.int x1), .unset, .unset, .unset, .unset, .unset, .unset, .unset, .unset, .unset]) (st' := [(.int (11 : Int32)), (.ref b1), (.ref b1)]) (by decide +kernel) rfl ?_
  refine own_ldc S12 C (hw _ (List.mem_of_getElem? (i := 3) rfl)) (by decide +kernel) ?_
  show Con p e below _ (mkF m 78 #[.val (.int x0), .val (.int x1), .unset, .unset, .unset, .unset, .unset, .unset, .unset, .unset, .unset] [(.int (65536 : Int32)), (.int (11 : Int32)), (.ref b1), (.ref b1)]) _
  refine own_iastore S12 C A12 (by decide +kernel) (j := (11 : Int32)) (x := (65536 : Int32)) ⟨by decide, (by decide : (11 : Int32).toInt < ((12 : Nat) : Int))⟩ g1 (vs' := [(192 : Int32), (216 : Int32), (248 : Int32), (880 : Int32), (895 : Int32), (8204 : Int32), (8304 : Int32), (11264 : Int32), (12289 : Int32), (63744 : Int32), (65008 : Int32), (65536 : Int32)]) rfl (fun T13 h13 S13 K13 A13 => ?_)
  refine own_run S13 C [.astore_n 2, .bipush 12] (pc' := 82) (Ls' := #[.val (.int x0), .val (.int x1), .val (.ref b1), .unset, .unset, .unset, .unset, .unset, .unset, .unset, .unset]) (st' := [(.int (12 : Int32))]) (by decide +kernel) rfl ?_
  refine own_newarray S13 C (hw _ (List.mem_of_getElem? (i := 0) rfl)) (by decide +kernel) (n := (12 : Int32)) (by decide) 12 (by decide) (by decide) (by decide) (by decide) (vs := [(0 : Int32), (0 : Int32), (0 : Int32), (0 : Int32), (0 : Int32), (0 : Int32), (0 : Int32), (0 : Int32), (0 : Int32), (0 : Int32), (0 : Int32), (0 : Int32)]) rfl (fun T14 h14 b14 e14 S14 E14 g14 A14 => ?_)
  have n_b1_b14 : b1 ≠ b14 := own_ne A13.lt e14
  have A15 := A13.ext E14
  refine own_run S14 C [.dup, .iconst 0, .sipush 214] (pc' := 89) (Ls' := #[.val (.int x0), .val (.int x1), .val (.ref b1), .unset, .unset, .unset, .unset, .unset, .unset, .unset, .unset]) (st' := [(.int (214 : Int32)), (.int (0 : Int32)), (.ref b14), (.ref b14)]) (by decide +kernel) rfl ?_
  refine own_iastore S14 C A14 (by decide +kernel) (j := (0 : Int32)) (x := (214 : Int32)) ⟨by decide, (by decide : (0 : Int32).toInt < ((12 : Nat) : Int))⟩ g14 (vs' := [(214 : Int32), (0 : Int32), (0 : Int32), (0 : Int32), (0 : Int32), (0 : Int32), (0 : Int32), (0 : Int32), (0 : Int32), (0 : Int32), (0 : Int32), (0 : Int32)]) rfl (fun T16 h16 S16 K16 A16 => ?_)
  have A17 := A15.keep K16 (ninS n_b1_b14 nin0)
  refine own_run S16 C [.dup, .iconst 1, .sipush 246] (pc' := 95) (Ls' := #[.val (.int x0), .val (.int x1), .val (.ref b1), .unset, .unset, .unset, .unset, .unset, .unset, .unset, .unset]) (st' := [(.int (246 : Int32)), (.int (1 : Int32)), (.ref b14), (.ref b14)]) (by decide +kernel) rfl ?_
  refine own_iastore S16 C A16 (by decide +kernel) (j := (1 : Int32)) (x := (246 : Int32)) ⟨by decide, (by decide : (1 : Int32).toInt < ((12 : Nat) : Int))⟩ g14 (vs' := [(214 : Int32), (246 : Int32), (0 : Int32), (0 : Int32), (0 : Int32), (0 : Int32), (0 : Int32), (0 : Int32), (0 : Int32), (0 : Int32), (0 : Int32), (0 : Int32)]) rfl (fun T18 h18 S18 K18 A18 => ?_)
  have A19 := A17.keep K18 (ninS n_b1_b14 nin0)
  refine own_run S18 C [.dup, .iconst 2, .sipush 767] (pc' := 101) (Ls' := #[.val (.int x0), .val (.int x1), .val (.ref b1), .unset, .unset, .unset, .unset, .unset, .unset, .unset, .unset]) (st' := [(.int (767 : Int32)), (.int (2 : Int32)), (.ref b14), (.ref b14)]) (by decide +kernel) rfl ?_
  refine own_iastore S18 C A18 (by decide +kernel) (j := (2 : Int32)) (x := (767 : Int32)) ⟨by decide, (by decide : (2 : Int32).toInt < ((12 : Nat) : Int))⟩ g14 (vs' := [(214 : Int32), (246 : Int32), (767 : Int32), (0 : Int32), (0 : Int32), (0 : Int32), (0 : Int32), (0 : Int32), (0 : Int32), (0 : Int32), (0 : Int32), (0 : Int32)]) rfl (fun T20 h20 S20 K20 A20 => ?_)
  have A21 := A19.keep K20 (ninS n_b1_b14 nin0)
  refine own_run S20 C [.dup, .iconst 3, .sipush 893] (pc' := 107) (Ls' := #[.val (.int x0), .val (.int x1), .val (.ref b1), .unset, .unset, .unset, .unset, .unset, .unset, .unset, .unset]) (st' := [(.int (893 : Int32)), (.int (3 : Int32)), (.ref b14), (.ref b14)]) (by decide +kernel) rfl ?_
  refine own_iastore S20 C A20 (by decide +kernel) (j := (3 : Int32)) (x := (893 : Int32)) ⟨by decide, (by decide : (3 : Int32).toInt < ((12 : Nat) : Int))⟩ g14 (vs' := [(214 : Int32), (246 : Int32), (767 : Int32), (893 : Int32), (0 : Int32), (0 : Int32), (0 : Int32), (0 : Int32), (0 : Int32), (0 : Int32), (0 : Int32), (0 : Int32)]) rfl (fun T22 h22 S22 K22 A22 => ?_)
  have A23 := A21.keep K22 (ninS n_b1_b14 nin0)
  refine own_run S22 C [.dup, .iconst 4, .sipush 8191] (pc' := 113) (Ls' := #[.val (.int x0), .val (.int x1), .val (.ref b1), .unset, .unset, .unset, .unset, .unset, .unset, .unset, .unset]) (st' := [(.int (8191 : Int32)), (.int (4 : Int32)), (.ref b14), (.ref b14)]) (by decide +kernel) rfl ?_
  refine own_iastore S22 C A22 (by decide +kernel) (j := (4 : Int32)) (x := (8191 : Int32)) ⟨by decide, (by decide : (4 : Int32).toInt < ((12 : Nat) : Int))⟩ g14 (vs' := [(214 : Int32), (246 : Int32), (767 : Int32), (893 : Int32), (8191 : Int32), (0 : Int32), (0 : Int32), (0 : Int32), (0 : Int32), (0 : Int32), (0 : Int32), (0 : Int32)]) rfl (fun T24 h24 S24 K24 A24 => ?_)
  have A25 := A23.keep K24 (ninS n_b1_b14 nin0)
  refine own_run S24 C [.dup, .iconst 5, .sipush 8205] (pc' := 119) (Ls' := #[.val (.int x0), .val (.int x1), .val (.ref b1), .unset, .unset, .unset, .unset, .unset, .unset, .unset, .unset]) (st' := [(.int (8205 : Int32)), (.int (5 : Int32)), (.ref b14), (.ref b14)]) (by decide +kernel) rfl ?_
  refine own_iastore S24 C A24 (by decide +kernel) (j := (5 : Int32)) (x := (8205 : Int32)) ⟨by decide, (by decide : (5 : Int32).toInt < ((12 : Nat) : Int))⟩ g14 (vs' := [(214 : Int32), (246 : Int32), (767 : Int32), (893 : Int32), (8191 : Int32), (8205 : Int32), (0 : Int32), (0 : Int32), (0 : Int32), (0 : Int32), (0 : Int32), (0 : Int32)]) rfl (fun T26 h26 S26 K26 A26 => ?_)
  have A27 := A25.keep K26 (ninS n_b1_b14 nin0)
  refine own_run S26 C [.dup, .bipush 6, .sipush 8591] (pc' := 126) (Ls' := #[.val (.int x0), .val (.int x1), .val (.ref b1), .unset, .unset, .unset, .unset, .unset, .unset, .unset, .unset]) (st' := [(.int (8591 : Int32)), (.int (6 : Int32)), (.ref b14), (.ref b14)]) (by decide +kernel) rfl ?_
  refine own_iastore S26 C A26 (by decide +kernel) (j := (6 : Int32)) (x := (8591 : Int32)) ⟨by decide, (by decide : (6 : Int32).toInt < ((12 : Nat) : Int))⟩ g14 (vs' := [(214 : Int32), (246 : Int32), (767 : Int32), (893 : Int32), (8191 : Int32), (8205 : Int32), (8591 : Int32), (0 : Int32), (0 : Int32), (0 : Int32), (0 : Int32), (0 : Int32)]) rfl (fun T28 h28 S28 K28 A28 => ?_)
  have A29 := A27.keep K28 (ninS n_b1_b14 nin0)
  refine own_run S28 C [.dup, .bipush 7, .sipush 12271] (pc' := 133) (Ls' := #[.val (.int x0), .val (.int x1), .val (.ref b1), .unset, .unset, .unset, .unset, .unset, .unset, .unset, .unset]) (st' := [(.int (12271 : Int32)), (.int (7 : Int32)), (.ref b14), (.ref b14)]) (by decide +kernel) rfl ?_
  refine own_iastore S28 C A28 (by decide +kernel) (j := (7 : Int32)) (x := (12271 : Int32)) ⟨by decide, (by decide : (7 : Int32).toInt < ((12 : Nat) : Int))⟩ g14 (vs' := [(214 : Int32), (246 : Int32), (767 : Int32), (893 : Int32), (8191 : Int32), (8205 : Int32), (8591 : Int32), (12271 : Int32), (0 : Int32), (0 : Int32), (0 : Int32), (0 : Int32)]) rfl (fun T30 h30 S30 K30 A30 => ?_)
  have A31 := A29.keep K30 (ninS n_b1_b14 nin0)
  refine own_run S30 C [.dup, .bipush 8] (pc' := 137) (Ls' := #[.val (.int x0), .val (.int x1), .val (.ref b1), .unset, .unset, .unset, .unset, .unset, .unset, .unset, .unset]) (st' := [(.int (8 : Int32)), (.ref b14), (.ref b14)]) (by decide +kernel) rfl ?_
  refine own_ldc S30 C (hw _ (List.mem_of_getElem? (i := 4) rfl)) (by decide +kernel) ?_
  show Con p e below _ (mkF m 139 #[.val (.int x0), .val (.int x1), .val (.ref b1), .unset, .unset, .unset, .unset, .unset, .unset, .unset, .unset] [(.int (55295 : Int32)), (.int (8 : Int32)), (.ref b14), (.ref b14)]) _
  refine own_iastore S30 C A30 (by decide +kernel) (j := (8 : Int32)) (x := (55295 : Int32)) ⟨by decide, (by decide : (8 : Int32).toInt < ((12 : Nat) : Int))⟩ g14 (vs' := [(214 : Int32), (246 : Int32), (767 : Int32), (893 : Int32), (8191 : Int32), (8205 : Int32), (8591 : Int32), (12271 : Int32), (55295 : Int32), (0 : Int32), (0 : Int32), (0 : Int32)]) rfl (fun T32 h32 S32 K32 A32 => ?_)
  have A33 := A31.keep K32 (ninS n_b1_b14 nin0)
  refine own_run S32 C [.dup, .bipush 9] (pc' := 143) (Ls' := #[.val (.int x0), .val (.int x1), .val (.ref b1), .unset, .unset, .unset, .unset, .unset, .unset, .unset, .unset]) (st' := [(.int (9 : Int32)), (.ref b14), (.ref b14)]) (by decide +kernel) rfl ?_
  refine own_ldc S32 C (hw _ (List.mem_of_getElem? (i := 5) rfl)) (by decide +kernel) ?_
  show Con p e below _ (mkF m 145 #[.val (.int x0), .val (.int x1), .val (.ref b1), .unset, .unset, .unset, .unset, .unset, .unset, .unset, .unset] [(.int (64975 : Int32)), (.int (9 : Int32)), (.ref b14), (.ref b14)]) _
  refine own_iastore S32 C A32 (by decide +kernel) (j := (9 : Int32)) (x := (64975 : Int32)) ⟨by decide, (by decide : (9 : Int32).toInt < ((12 : Nat) : Int))⟩ g14 (vs' := [(214 : Int32), (246 : Int32), (767 : Int32), (893 : Int32), (8191 : Int32), (8205 : Int32), (8591 : Int32), (12271 : Int32), (55295 : Int32), (64975 : Int32), (0 : Int32), (0 : Int32)]) rfl (fun T34 h34 S34 K34 A34 => ?_)
  have A35 := A33.keep K34 (ninS n_b1_b14 nin0)
  refine own_run S34 C [.dup, .bipush 10] (pc' := 149) (Ls' := #[.val (.int x0), .val (.int x1), .val (.ref b1), .unset, .unset, .unset, .unset, .unset, .unset, .unset, .unset]) (st' := [(.int (10 : Int32)), (.ref b14), (.ref b14)]) (by decide +kernel) rfl ?_
  refine own_ldc S34 C (hw _ (List.mem_of_getElem? (i := 6) rfl)) (by decide +kernel) ?_
  show Con p e below _ (mkF m 151 #[.val (.int x0), .val (.int x1), .val (.ref b1), .unset, .unset, .unset, .unset, .unset, .unset, .unset, .unset] [(.int (65533 : Int32)), (.int (10 : Int32)), (.ref b14), (.ref b14)]) _
  refine own_iastore S34 C A34 (by decide +kernel) (j := (10 : Int32)) (x := (65533 : Int32)) ⟨by decide, (by decide : (10 : Int32).toInt < ((12 : Nat) : Int))⟩ g14 (vs' := [(214 : Int32), (246 : Int32), (767 : Int32), (893 : Int32), (8191 : Int32), (8205 : Int32), (8591 : Int32), (12271 : Int32), (55295 : Int32), (64975 : Int32), (65533 : Int32), (0 : Int32)]) rfl (fun T36 h36 S36 K36 A36 => ?_)
  have A37 := A35.keep K36 (ninS n_b1_b14 nin0)
  refine own_run S36 C [.dup, .bipush 11] (pc' := 155) (Ls' := #[.val (.int x0), .val (.int x1), .val (.ref b1), .unset, .unset, .unset, .unset, .unset, .unset, .unset, .unset]) (st' := [(.int (11 : Int32)), (.ref b14), (.ref b14)]) (by decide +kernel) rfl ?_
  refine own_ldc S36 C (hw _ (List.mem_of_getElem? (i := 7) rfl)) (by decide +kernel) ?_
  show Con p e below _ (mkF m 157 #[.val (.int x0), .val (.int x1), .val (.ref b1), .unset, .unset, .unset, .unset, .unset, .unset, .unset, .unset] [(.int (983039 : Int32)), (.int (11 : Int32)), (.ref b14), (.ref b14)]) _
  refine own_iastore S36 C A36 (by decide +kernel) (j := (11 : Int32)) (x := (983039 : Int32)) ⟨by decide, (by decide : (11 : Int32).toInt < ((12 : Nat) : Int))⟩ g14 (vs' := [(214 : Int32), (246 : Int32), (767 : Int32), (893 : Int32), (8191 : Int32), (8205 : Int32), (8591 : Int32), (12271 : Int32), (55295 : Int32), (64975 : Int32), (65533 : Int32), (983039 : Int32)]) rfl (fun T38 h38 S38 K38 A38 => ?_)
  have A39 := A37.keep K38 (ninS n_b1_b14 nin0)
  refine own_run S38 C [.astore_n 3, .iload_n 0] (pc' := 160) (Ls' := #[.val (.int x0), .val (.int x1), .val (.ref b1), .val (.ref b14), .unset, .unset, .unset, .unset, .unset, .unset, .unset]) (st' := [(.int x0)]) (by decide +kernel) rfl ?_
  refine own_ldc S38 C (hw _ (List.mem_of_getElem? (i := 8) rfl)) (by decide +kernel) ?_
  show Con p e below _ (mkF m 162 #[.val (.int x0), .val (.int x1), .val (.ref b1), .val (.ref b14), .unset, .unset, .unset, .unset, .unset, .unset, .unset] [(.int (2147483647 : Int32)), (.int x0)]) _
  refine own_run S38 C [.iand, .bipush 25, .irem, .istore 4, .iload_n 1] (pc' := 169) (Ls' := #[.val (.int x0), .val (.int x1), .val (.ref b1), .val (.ref b14), .val (.int ((x0 &&& (2147483647 : Int32)) - (x0 &&& (2147483647 : Int32)) / (25 : Int32) * (25 : Int32))), .unset, .unset, .unset, .unset, .unset, .unset]) (st' := [(.int x1)]) (by decide +kernel) rfl ?_
  refine own_ldc S38 C (hw _ (List.mem_of_getElem? (i := 8) rfl)) (by decide +kernel) ?_
  show Con p e below _ (mkF m 171 #[.val (.int x0), .val (.int x1), .val (.ref b1), .val (.ref b14), .val (.int ((x0 &&& (2147483647 : Int32)) - (x0 &&& (2147483647 : Int32)) / (25 : Int32) * (25 : Int32))), .unset, .unset, .unset, .unset, .unset, .unset] [(.int (2147483647 : Int32)), (.int x1)]) _
  refine own_run S38 C [.iand, .istore 5] (pc' := 174) (Ls' := #[.val (.int x0), .val (.int x1), .val (.ref b1), .val (.ref b14), .val (.int ((x0 &&& (2147483647 : Int32)) - (x0 &&& (2147483647 : Int32)) / (25 : Int32) * (25 : Int32))), .val (.int (x1 &&& (2147483647 : Int32))), .unset, .unset, .unset, .unset, .unset]) (st' := []) (by decide +kernel) rfl ?_
  have hsel : 0 ≤ (((x0 &&& (2147483647 : Int32)) - (x0 &&& (2147483647 : Int32)) / (25 : Int32) * (25 : Int32))).toInt ∧ (((x0 &&& (2147483647 : Int32)) - (x0 &&& (2147483647 : Int32)) / (25 : Int32) * (25 : Int32))).toInt < 25 := by
    have q1 := own_and_le x0 (2147483647 : Int32) (by decide)
    rw [own_rem q1.1 (by decide)]
    have e25 : (25 : Int32).toInt = 25 := rfl
    rw [e25]; omega
  have hpos : 0 ≤ ((x1 &&& (2147483647 : Int32))).toInt := (own_and_le x1 (2147483647 : Int32) (by decide)).1
  generalize ((x0 &&& (2147483647 : Int32)) - (x0 &&& (2147483647 : Int32)) / (25 : Int32) * (25 : Int32)) = j at hsel ⊢
  generalize (x1 &&& (2147483647 : Int32)) = pos at hpos ⊢
  have hlo : Ai Z h38 b1 own_loL := A39
  have hhi : Ai Z h38 b14 own_hiL := A38
  have Z1 : n0 ≤ h38.size := by obtain ⟨_, _, _, _, q⟩ := S38; exact q
  refine own_run S38 C [.iload 4, .bipush 12] (pc' := 178) (Ls' := #[.val (.int x0), .val (.int x1), .val (.ref b1), .val (.ref b14), .val (.int j), .val (.int pos), .unset, .unset, .unset, .unset, .unset]) (st' := [(.int (12 : Int32)), (.int j)]) (by decide +kernel) rfl ?_
  refine own_icmp S38 C (cd := .ge) (o := 34) (by decide +kernel) (pc' := 212) ⟨by decide, by decide⟩ (fun hc178 => ?_) (fun hc178 => ?_)
  · skip
    have k178 : j.toInt ≥ (12 : Int) := (hh_ge).1.mp hc178
    refine own_run S38 C [.iload 4, .bipush 12, .isub, .istore 6] (pc' := 219) (Ls' := #[.val (.int x0), .val (.int x1), .val (.ref b1), .val (.ref b14), .val (.int j), .val (.int pos), .val (.int (j - (12 : Int32))), .unset, .unset, .unset, .unset]) (st' := []) (by decide +kernel) rfl ?_
    have hk : (j - (12 : Int32)).toInt = j.toInt - 12 := own_sub (by have e12 : (12 : Int32).toInt = 12 := rfl; omega) (by have e12 : (12 : Int32).toInt = 12 := rfl; omega)
    have hk2 : 0 ≤ (j - (12 : Int32)).toInt ∧ (j - (12 : Int32)).toInt < 13 := by omega
    generalize j - (12 : Int32) = k at hk2 ⊢
    clear hk
    have c2 : Con p e below T38 (mkF m 258 #[.val (.int x0), .val (.int x1), .val (.ref b1), .val (.ref b14), .val (.int j), .val (.int pos), .val (.int k), .val (.int (own_glo k)), .unset, .unset, .unset] [(.int (own_ghi k))]) (Pq s room_1 n0 (fun v _ => v = some (.int 1))) := by
      have hin := own_out hk2.1 hk2.2 hpos
      refine own_run S38 C [.istore 8, .iload 8, .iload 7, .isub, .iconst 1, .iadd, .istore 9, .iload 7, .iload 5, .iload 9] (pc' := 275) (Ls' := #[.val (.int x0), .val (.int x1), .val (.ref b1), .val (.ref b14), .val (.int j), .val (.int pos), .val (.int k), .val (.int (own_glo k)), .val (.int (own_ghi k)), .val (.int (((own_ghi k) - (own_glo k)) + (1 : Int32))), .unset]) (st' := [(.int (((own_ghi k) - (own_glo k)) + (1 : Int32))), (.int pos), (.int (own_glo k))]) (by decide +kernel) rfl ?_
      refine own_irem S38 C (x := pos) (y := (((own_ghi k) - (own_glo k)) + (1 : Int32))) hin.1 (by decide +kernel) ?_
      show Con p e below _ (mkF m 276 #[.val (.int x0), .val (.int x1), .val (.ref b1), .val (.ref b14), .val (.int j), .val (.int pos), .val (.int k), .val (.int (own_glo k)), .val (.int (own_ghi k)), .val (.int (((own_ghi k) - (own_glo k)) + (1 : Int32))), .unset] [(.int (pos - pos / (((own_ghi k) - (own_glo k)) + (1 : Int32)) * (((own_ghi k) - (own_glo k)) + (1 : Int32)))), (.int (own_glo k))]) _
      refine own_run S38 C [.iadd, .istore 10, .iload 10] (pc' := 281) (Ls' := #[.val (.int x0), .val (.int x1), .val (.ref b1), .val (.ref b14), .val (.int j), .val (.int pos), .val (.int k), .val (.int (own_glo k)), .val (.int (own_ghi k)), .val (.int (((own_ghi k) - (own_glo k)) + (1 : Int32))), .val (.int ((own_glo k) + (pos - pos / (((own_ghi k) - (own_glo k)) + (1 : Int32)) * (((own_ghi k) - (own_glo k)) + (1 : Int32)))))]) (st' := [(.int ((own_glo k) + (pos - pos / (((own_ghi k) - (own_glo k)) + (1 : Int32)) * (((own_ghi k) - (own_glo k)) + (1 : Int32)))))]) (by decide +kernel) rfl ?_
      refine own_callS S38 C (y := (⟨"com/example/klarbrief/klarbrief/core/XmlCharacters", "isNameStart", "(I)Z"⟩ : MethodName)) (hw _ (List.mem_of_getElem? (i := 9) rfl)) (hw _ (List.mem_of_getElem? (i := 10) rfl)) (hw _ (List.mem_of_getElem? (i := 11) rfl)) (hw _ (List.mem_of_getElem? (i := 12) rfl)) (by decide) (rm_own_ns l Z a0 hw [] ((own_glo k) + (pos - pos / (((own_ghi k) - (own_glo k)) + (1 : Int32)) * (((own_ghi k) - (own_glo k)) + (1 : Int32)))) h38 n0 Z1) 0 (by decide) (by decide) (ps := [.int]) (r := (some .boolean)) (by decide +kernel) [(.int ((own_glo k) + (pos - pos / (((own_ghi k) - (own_glo k)) + (1 : Int32)) * (((own_ghi k) - (own_glo k)) + (1 : Int32)))))] [] rfl rfl rfl (Nat.le_of_eq rfl) rfl (by decide +kernel) (by decide) (by decide) (fun v TC hC SC q => ?_)
      obtain ⟨rfl, hh⟩ := q
      rw [hh] at SC
      show Con p e below _ (mkF m 284 #[.val (.int x0), .val (.int x1), .val (.ref b1), .val (.ref b14), .val (.int j), .val (.int pos), .val (.int k), .val (.int (own_glo k)), .val (.int (own_ghi k)), .val (.int (((own_ghi k) - (own_glo k)) + (1 : Int32))), .val (.int ((own_glo k) + (pos - pos / (((own_ghi k) - (own_glo k)) + (1 : Int32)) * (((own_ghi k) - (own_glo k)) + (1 : Int32)))))] [(.int (own_ns ((own_glo k) + (pos - pos / (((own_ghi k) - (own_glo k)) + (1 : Int32)) * (((own_ghi k) - (own_glo k)) + (1 : Int32))))))]) _
      rw [hin.2]
      refine own_if SC C (cd := .ne) (o := 7) (by decide +kernel) (pc' := 291) ⟨by decide, by decide⟩ (fun hc284 => absurd ((hh_ne).1.mp hc284) (show ¬ ((0 : Int) ≠ (0 : Int)) by decide)) (fun _ => ?_)
      refine own_run SC C [.iconst 1, .goto 4] (pc' := 292) (Ls' := #[.val (.int x0), .val (.int x1), .val (.ref b1), .val (.ref b14), .val (.int j), .val (.int pos), .val (.int k), .val (.int (own_glo k)), .val (.int (own_ghi k)), .val (.int (((own_ghi k) - (own_glo k)) + (1 : Int32))), .val (.int ((own_glo k) + (pos - pos / (((own_ghi k) - (own_glo k)) + (1 : Int32)) * (((own_ghi k) - (own_glo k)) + (1 : Int32)))))]) (st' := [(.int (1 : Int32))]) (by decide +kernel) rfl ?_
      exact own_retz SC C (z' := (1 : Int32)) (by decide) (by decide +kernel) (by decide) (by decide) rfl
    have c1 : Con p e below T38 (mkF m 238 #[.val (.int x0), .val (.int x1), .val (.ref b1), .val (.ref b14), .val (.int j), .val (.int pos), .val (.int k), .unset, .unset, .unset, .unset] [(.int (own_glo k))]) (Pq s room_1 n0 (fun v _ => v = some (.int 1))) := by
      refine own_run S38 C [.istore 7, .iload 6, .bipush 12] (pc' := 244) (Ls' := #[.val (.int x0), .val (.int x1), .val (.ref b1), .val (.ref b14), .val (.int j), .val (.int pos), .val (.int k), .val (.int (own_glo k)), .unset, .unset, .unset]) (st' := [(.int (12 : Int32)), (.int k)]) (by decide +kernel) rfl ?_
      refine own_icmp S38 C (cd := .ne) (o := 8) (by decide +kernel) (pc' := 252) ⟨by decide, by decide⟩ (fun hc244 => ?_) (fun hc244 => ?_)
      · skip
        have k244 : k.toInt ≠ (12 : Int) := (hh_ne).1.mp hc244
        refine own_run S38 C [.aload_n 2, .iload 6] (pc' := 255) (Ls' := #[.val (.int x0), .val (.int x1), .val (.ref b1), .val (.ref b14), .val (.int j), .val (.int pos), .val (.int k), .val (.int (own_glo k)), .unset, .unset, .unset]) (st' := [(.int k), (.ref b1)]) (by decide +kernel) rfl ?_
        refine own_iaload S38 C hlo (by decide +kernel) (j := k) (v := (own_lo k)) (show 0 ≤ k.toInt ∧ k.toInt < ((12 : Nat) : Int) by omega) rfl ?_
        show Con p e below _ (mkF m 256 #[.val (.int x0), .val (.int x1), .val (.ref b1), .val (.ref b14), .val (.int j), .val (.int pos), .val (.int k), .val (.int (own_glo k)), .unset, .unset, .unset] [(.int (own_lo k))]) _
        refine own_run S38 C [.iconst 1, .isub] (pc' := 258) (Ls' := #[.val (.int x0), .val (.int x1), .val (.ref b1), .val (.ref b14), .val (.int j), .val (.int pos), .val (.int k), .val (.int (own_glo k)), .unset, .unset, .unset]) (st' := [(.int ((own_lo k) - (1 : Int32)))]) (by decide +kernel) rfl ?_
        have e : own_ghi k = own_lo k - (1 : Int32) := if_neg k244
        rw [e] at c2
        exact c2
      · skip
        have k244 : k.toInt = (12 : Int) := (hh_ne).2.mp hc244
        refine own_ldc S38 C (hw _ (List.mem_of_getElem? (i := 8) rfl)) (by decide +kernel) ?_
        show Con p e below _ (mkF m 249 #[.val (.int x0), .val (.int x1), .val (.ref b1), .val (.ref b14), .val (.int j), .val (.int pos), .val (.int k), .val (.int (own_glo k)), .unset, .unset, .unset] [(.int (2147483647 : Int32))]) _
        refine own_run S38 C [.goto 9] (pc' := 258) (Ls' := #[.val (.int x0), .val (.int x1), .val (.ref b1), .val (.ref b14), .val (.int j), .val (.int pos), .val (.int k), .val (.int (own_glo k)), .unset, .unset, .unset]) (st' := [(.int (2147483647 : Int32))]) (by decide +kernel) rfl ?_
        have e : own_ghi k = (2147483647 : Int32) := if_pos k244
        rw [e] at c2
        exact c2
    refine own_run S38 C [.iload 6] (pc' := 221) (Ls' := #[.val (.int x0), .val (.int x1), .val (.ref b1), .val (.ref b14), .val (.int j), .val (.int pos), .val (.int k), .unset, .unset, .unset, .unset]) (st' := [(.int k)]) (by decide +kernel) rfl ?_
    refine own_if S38 C (cd := .ne) (o := 9) (by decide +kernel) (pc' := 230) ⟨by decide, by decide⟩ (fun hc221 => ?_) (fun hc221 => ?_)
    · skip
      have k221 : k.toInt ≠ (0 : Int) := (hh_ne).1.mp hc221
      refine own_run S38 C [.aload_n 3, .iload 6, .iconst 1, .isub] (pc' := 235) (Ls' := #[.val (.int x0), .val (.int x1), .val (.ref b1), .val (.ref b14), .val (.int j), .val (.int pos), .val (.int k), .unset, .unset, .unset, .unset]) (st' := [(.int (k - (1 : Int32))), (.ref b14)]) (by decide +kernel) rfl ?_
      have hk1 : (k - (1 : Int32)).toInt = k.toInt - 1 := own_sub (by have e1 : (1 : Int32).toInt = 1 := rfl; omega) (by have e1 : (1 : Int32).toInt = 1 := rfl; omega)
      refine own_iaload S38 C hhi (by decide +kernel) (j := (k - (1 : Int32))) (v := (own_hi (k - (1 : Int32)))) (show 0 ≤ (k - (1 : Int32)).toInt ∧ (k - (1 : Int32)).toInt < ((12 : Nat) : Int) by omega) rfl ?_
      show Con p e below _ (mkF m 236 #[.val (.int x0), .val (.int x1), .val (.ref b1), .val (.ref b14), .val (.int j), .val (.int pos), .val (.int k), .unset, .unset, .unset, .unset] [(.int (own_hi (k - (1 : Int32))))]) _
      refine own_run S38 C [.iconst 1, .iadd] (pc' := 238) (Ls' := #[.val (.int x0), .val (.int x1), .val (.ref b1), .val (.ref b14), .val (.int j), .val (.int pos), .val (.int k), .unset, .unset, .unset, .unset]) (st' := [(.int ((own_hi (k - (1 : Int32))) + (1 : Int32)))]) (by decide +kernel) rfl ?_
      have e : own_glo k = own_hi (k - (1 : Int32)) + (1 : Int32) := if_neg k221
      rw [e] at c1
      exact c1
    · skip
      have k221 : k.toInt = (0 : Int) := (hh_ne).2.mp hc221
      refine own_run S38 C [.sipush 128, .goto 11] (pc' := 238) (Ls' := #[.val (.int x0), .val (.int x1), .val (.ref b1), .val (.ref b14), .val (.int j), .val (.int pos), .val (.int k), .unset, .unset, .unset, .unset]) (st' := [(.int (128 : Int32))]) (by decide +kernel) rfl ?_
      have e : own_glo k = (128 : Int32) := if_pos k221
      rw [e] at c1
      exact c1
  · skip
    have k178 : j.toInt < (12 : Int) := (hh_ge).2.mp hc178
    refine own_run S38 C [.aload_n 3, .iload 4] (pc' := 184) (Ls' := #[.val (.int x0), .val (.int x1), .val (.ref b1), .val (.ref b14), .val (.int j), .val (.int pos), .unset, .unset, .unset, .unset, .unset]) (st' := [(.int j), (.ref b14)]) (by decide +kernel) rfl ?_
    refine own_iaload S38 C hhi (by decide +kernel) (j := j) (v := (own_hi j)) (show 0 ≤ j.toInt ∧ j.toInt < ((12 : Nat) : Int) by omega) rfl ?_
    show Con p e below _ (mkF m 185 #[.val (.int x0), .val (.int x1), .val (.ref b1), .val (.ref b14), .val (.int j), .val (.int pos), .unset, .unset, .unset, .unset, .unset] [(.int (own_hi j))]) _
    refine own_run S38 C [.aload_n 2, .iload 4] (pc' := 188) (Ls' := #[.val (.int x0), .val (.int x1), .val (.ref b1), .val (.ref b14), .val (.int j), .val (.int pos), .unset, .unset, .unset, .unset, .unset]) (st' := [(.int j), (.ref b1), (.int (own_hi j))]) (by decide +kernel) rfl ?_
    refine own_iaload S38 C hlo (by decide +kernel) (j := j) (v := (own_lo j)) (show 0 ≤ j.toInt ∧ j.toInt < ((12 : Nat) : Int) by omega) rfl ?_
    show Con p e below _ (mkF m 189 #[.val (.int x0), .val (.int x1), .val (.ref b1), .val (.ref b14), .val (.int j), .val (.int pos), .unset, .unset, .unset, .unset, .unset] [(.int (own_lo j)), (.int (own_hi j))]) _
    refine own_run S38 C [.isub, .iconst 1, .iadd, .istore 6, .aload_n 2, .iload 4] (pc' := 197) (Ls' := #[.val (.int x0), .val (.int x1), .val (.ref b1), .val (.ref b14), .val (.int j), .val (.int pos), .val (.int (((own_hi j) - (own_lo j)) + (1 : Int32))), .unset, .unset, .unset, .unset]) (st' := [(.int j), (.ref b1)]) (by decide +kernel) rfl ?_
    refine own_iaload S38 C hlo (by decide +kernel) (j := j) (v := (own_lo j)) (show 0 ≤ j.toInt ∧ j.toInt < ((12 : Nat) : Int) by omega) rfl ?_
    show Con p e below _ (mkF m 198 #[.val (.int x0), .val (.int x1), .val (.ref b1), .val (.ref b14), .val (.int j), .val (.int pos), .val (.int (((own_hi j) - (own_lo j)) + (1 : Int32))), .unset, .unset, .unset, .unset] [(.int (own_lo j))]) _
    refine own_run S38 C [.iload 5, .iload 6] (pc' := 202) (Ls' := #[.val (.int x0), .val (.int x1), .val (.ref b1), .val (.ref b14), .val (.int j), .val (.int pos), .val (.int (((own_hi j) - (own_lo j)) + (1 : Int32))), .unset, .unset, .unset, .unset]) (st' := [(.int (((own_hi j) - (own_lo j)) + (1 : Int32))), (.int pos), (.int (own_lo j))]) (by decide +kernel) rfl ?_
    have hin := own_in hsel.1 k178 hpos
    refine own_irem S38 C (x := pos) (y := (((own_hi j) - (own_lo j)) + (1 : Int32))) hin.1 (by decide +kernel) ?_
    show Con p e below _ (mkF m 203 #[.val (.int x0), .val (.int x1), .val (.ref b1), .val (.ref b14), .val (.int j), .val (.int pos), .val (.int (((own_hi j) - (own_lo j)) + (1 : Int32))), .unset, .unset, .unset, .unset] [(.int (pos - pos / (((own_hi j) - (own_lo j)) + (1 : Int32)) * (((own_hi j) - (own_lo j)) + (1 : Int32)))), (.int (own_lo j))]) _
    refine own_run S38 C [.iadd, .istore 7, .iload 7] (pc' := 208) (Ls' := #[.val (.int x0), .val (.int x1), .val (.ref b1), .val (.ref b14), .val (.int j), .val (.int pos), .val (.int (((own_hi j) - (own_lo j)) + (1 : Int32))), .val (.int ((own_lo j) + (pos - pos / (((own_hi j) - (own_lo j)) + (1 : Int32)) * (((own_hi j) - (own_lo j)) + (1 : Int32))))), .unset, .unset, .unset]) (st' := [(.int ((own_lo j) + (pos - pos / (((own_hi j) - (own_lo j)) + (1 : Int32)) * (((own_hi j) - (own_lo j)) + (1 : Int32)))))]) (by decide +kernel) rfl ?_
    refine own_callS S38 C (y := (⟨"com/example/klarbrief/klarbrief/core/XmlCharacters", "isNameStart", "(I)Z"⟩ : MethodName)) (hw _ (List.mem_of_getElem? (i := 9) rfl)) (hw _ (List.mem_of_getElem? (i := 10) rfl)) (hw _ (List.mem_of_getElem? (i := 11) rfl)) (hw _ (List.mem_of_getElem? (i := 12) rfl)) (by decide) (rm_own_ns l Z a0 hw [] ((own_lo j) + (pos - pos / (((own_hi j) - (own_lo j)) + (1 : Int32)) * (((own_hi j) - (own_lo j)) + (1 : Int32)))) h38 n0 Z1) 0 (by decide) (by decide) (ps := [.int]) (r := (some .boolean)) (by decide +kernel) [(.int ((own_lo j) + (pos - pos / (((own_hi j) - (own_lo j)) + (1 : Int32)) * (((own_hi j) - (own_lo j)) + (1 : Int32)))))] [] rfl rfl rfl (Nat.le_of_eq rfl) rfl (by decide +kernel) (by decide) (by decide) (fun v TC hC SC q => ?_)
    obtain ⟨rfl, hh⟩ := q
    rw [hh] at SC
    show Con p e below _ (mkF m 211 #[.val (.int x0), .val (.int x1), .val (.ref b1), .val (.ref b14), .val (.int j), .val (.int pos), .val (.int (((own_hi j) - (own_lo j)) + (1 : Int32))), .val (.int ((own_lo j) + (pos - pos / (((own_hi j) - (own_lo j)) + (1 : Int32)) * (((own_hi j) - (own_lo j)) + (1 : Int32))))), .unset, .unset, .unset] [(.int (own_ns ((own_lo j) + (pos - pos / (((own_hi j) - (own_lo j)) + (1 : Int32)) * (((own_hi j) - (own_lo j)) + (1 : Int32))))))]) _
    rw [hin.2]
    exact own_retz SC C (z' := (1 : Int32)) (by decide) (by decide +kernel) (by decide) (by decide) rfl
set_option maxRecDepth 65536 in
set_option maxHeartbeats 40000000 in
theorem comes_1 {Post : Tables → Env → Array Value → State → Outcome → State → Prop} (hpost : ∀ tb e args s v u, (limb_1_1.after args s (.returned v) u = true ∧ limb_1_2.after args s (.returned v) u = true ∧ True) → FrameEnd s (.returned v) u (Jvm.fieldLocs frame_1_writes args s ++ Jvm.arrayLocs frame_1_arrays args s ++ Jvm.staticLocs frame_1_statics s) 16 128 → Post tb e args s (.returned v) u) :
    ArmFor flags0 classFile x code maxLocals ret World_1 tables_1 room_1 Calls_1 rest_1 Pre_1 Post := by
  intro l hfl _ _ p e ha hc hk s m args below hf hA hF happ hP
  obtain ⟨hcalls, hrest, hpre⟩ := hP
  obtain ⟨-, -, -, hnamed, -, -, -, hat⟩ := (Spec.applies_iff hf).mp happ
  obtain ⟨hg, hn⟩ := and_e (Cond.before_iff.mp (show (Jvm.Cond.and given_1 narrow_1).before args s = true from hpre))
  obtain ⟨hcount, g0⟩ := and_e hg
  obtain ⟨k0, g1⟩ := and_e g0
  obtain ⟨w0, w1, rfl⟩ : ∃ w0 w1 : Value, args = #[w0, w1] := by
    have hs : args.size = 2 := by simpa [Cond.value, given_1] using hcount
    obtain ⟨L⟩ := args
    match L, hs with
    | [w0, w1], _ => exact ⟨w0, w1, rfl⟩
  have hw := fun d (hd : d ∈ tables_1) => atoms_spec (ws := Jvm.Cond.code x code maxLocals ret :: tables_1) hat d (List.mem_cons_of_mem _ hd)
  obtain ⟨i0, ei0⟩ := is_v k0
  obtain rfl : w0 = (.int i0) := Option.some.inj ei0
  obtain ⟨i1, ei1⟩ := is_v g1
  obtain rfl : w1 = (.int i1) := Option.some.inj ei1
  obtain ⟨n, o, h1, h2, h3, v, L, rfl, ⟨N, -, hv⟩, hq⟩ := rm_law l s _ hw tables_1 i0 i1 s.heap s.heap.size (Nat.le_refl _) p e ha hc hk s m _ below hf ((Spec.applies_iff_loose hf).mp happ).1 ⟨rfl, State.Warmed39.refl s, rfl⟩ trivial
  obtain rfl : v = some (.int 1) := hv
  refine ⟨n, _, h1, h2, h3, hpost _ _ _ _ _ _ ⟨Cond.after_iff.mpr rfl, Cond.after_iff.mpr (eq_i res_at (Term.int_eval (1)) rfl), trivial⟩ ⟨hq.1, hq.2.1, (hq.2.2.sift fun y hy => Or.inr (N y hy)).mono (by decide) (by decide)⟩⟩
theorem main_1_1 : Claimed_1_1 := comes_1 fun _ _ _ _ _ _ h hF => ⟨h.1, hF⟩
theorem main_1_2 : Claimed_1_2 := comes_1 fun _ _ _ _ _ _ h hF => ⟨h.2.1, hF⟩
end Jvm.Pilot.@@N@@
namespace Jvm.Pilot.@@N@@
open Jvm Jvm.ClassFile Sem Op Lib Jvm.Free Jvm.Stand Jvm.Pilot.@@N@@.Jvm.D
/-! MADE BY PROGRAM (witnessworld.py) out of the Statement's table words and the real class files: 9 classes; the members and pool entries that the words name. The judged class is class 1, her method 1. -/
namespace start1
open Jvm.ClassFile
def u (s : String) : CpInfo := .utf8 (stringToUtf16 s)
/-- a pool by its gaps: so many unusable entries, then the entry; so many at the end -/
def gap : Nat → List CpInfo → List CpInfo
  | 0, r => r
  | n + 1, r => .unusable :: gap n r
def poolList (es : List (Nat × CpInfo)) (last : Nat) : List CpInfo := es.foldr (fun e r => gap e.1 (e.2 :: r)) (gap last [])
def pool (es : List (Nat × CpInfo)) (last : Nat) : Array CpInfo := ⟨poolList es last⟩
def fileOf (pool : Array CpInfo) (this : Nat) (attrs : Array Attribute := #[]) (ms : Array MethodInfo := #[]) (fl : Nat := 33) (sup : Nat := 0) (ifs : Array Nat := #[]) (fds : Array FieldInfo := #[]) : ClassFile where
  minorVersion := 0
  majorVersion := 65
  constantPool := pool
  accessFlags := fl
  thisClass := this
  superClass := sup
  interfaces := ifs
  fields := fds
  methods := ms
  attributes := attrs
def plain (name : String) (sup : Option ClassId) : Class where
  name := name
  kind := .ordinary
  loader := none
  accessFlags := 33
  super := sup
  interfaces := #[]
  cf := none
  fields := #[]
  methods := #[]
  instanceTypes := #[]
  staticTypes := #[]
  resolved := #[]
  callSites := []
  init := .initialized
  statics := none
  mirror := none

def pool0 : Array CpInfo := pool [(5, u "<init>"), (0, u "()V"), (1, .class_ 10), (1, u "java/lang/Object")] 113

def k0m0 : Method := { name := "<init>", desc := "()V", sig := { parameters := [], returnType := none }, accessFlags := 1, code := none }
/-- java/lang/Object -/
def k0 : Class := { plain "java/lang/Object" none with
  accessFlags := 33
  interfaces := #[]
  cf := some (fileOf pool0 8 #[] #[{ accessFlags := 1, nameIndex := 5, descriptorIndex := 6, attributes := #[] }] 33 0 #[] #[])
  fields := #[]
  methods := #[k0m0]
  instanceTypes := #[]
  staticTypes := #[]
  resolved := Array.replicate 124 none
  statics := none }

def pool1 : Array CpInfo := pool [(2, .class_ 4), (1, u "java/lang/Object"), (0, u "<init>"), (0, u "()V"), (0, .integer 63744), (0, .integer 65008), (0, .integer 65536), (0, .integer 55295), (0, .integer 64975), (0, .integer 65533), (0, .integer 983039), (0, .integer 2147483647), (0, .methodref 16 17), (0, .class_ 18), (0, .nameAndType 19 20), (0, u "com/example/klarbrief/klarbrief/core/XmlCharacters"), (0, u "isNameStart"), (0, u "(I)Z"), (2, .class_ 24), (0, u "com/example/klarbrief/klarbrief/core/XmlCharactersIsNameStartPinLaw"), (2, u "law"), (0, u "(II)Z")] 5

def k1m0 : Method := { name := "<init>", desc := "()V", sig := { parameters := [], returnType := none }, accessFlags := 2, code := none }
def k1c1 : Code := { maxStack := 4, maxLocals := 11, code := code, exceptionTable := #[], attributes := #[] }
def k1m1 : Method := { name := "law", desc := "(II)Z", sig := { parameters := [.int, .int], returnType := some .boolean }, accessFlags := 9, code := some k1c1 }
/-- com/example/klarbrief/klarbrief/core/XmlCharactersIsNameStartPinLaw -/
def k1 : Class := { plain "com/example/klarbrief/klarbrief/core/XmlCharactersIsNameStartPinLaw" (some 0) with
  accessFlags := 49
  interfaces := #[]
  cf := some (fileOf pool1 23 #[] #[{ accessFlags := 2, nameIndex := 5, descriptorIndex := 6, attributes := #[] }, { accessFlags := 9, nameIndex := 27, descriptorIndex := 28, attributes := #[] }] 49 2 #[] #[])
  fields := #[]
  methods := #[k1m0, k1m1]
  instanceTypes := #[]
  staticTypes := #[]
  resolved := Array.replicate 34 none
  statics := none }

def pool2 : Array CpInfo := pool [(2, .class_ 4), (1, u "java/lang/Object"), (0, u "<init>"), (0, u "()V"), (0, .integer 55295), (0, .integer 63744), (0, .integer 64975), (0, .integer 65008), (0, .integer 65533), (0, .integer 65536), (0, .integer 983039), (1, .class_ 17), (1, u "com/example/klarbrief/klarbrief/core/XmlCharacters"), (0, u "isNameStart"), (0, u "(I)Z"), (8, u "NAME_START"), (0, u "[Z"), (2, u "NAME_CHAR"), (26, u "TEXT"), (0, u "[B"), (2, u "PLAIN_VALUE"), (0, u "TEXT_SPACE"), (0, u "B"), (2, u "TEXT_SHOWN")] 24

def k2m0 : Method := { name := "<init>", desc := "()V", sig := { parameters := [], returnType := none }, accessFlags := 2, code := none }
def k2c1 : Code := { maxStack := 2, maxLocals := 1, code := prog_107_method_2_code, exceptionTable := #[], attributes := #[] }
def k2m1 : Method := { name := "isNameStart", desc := "(I)Z", sig := { parameters := [.int], returnType := some .boolean }, accessFlags := 8, code := some k2c1 }
/-- com/example/klarbrief/klarbrief/core/XmlCharacters -/
def k2 : Class := { plain "com/example/klarbrief/klarbrief/core/XmlCharacters" (some 0) with
  accessFlags := 48
  interfaces := #[]
  cf := some (fileOf pool2 15 #[] #[{ accessFlags := 2, nameIndex := 5, descriptorIndex := 6, attributes := #[] }, { accessFlags := 8, nameIndex := 18, descriptorIndex := 19, attributes := #[] }] 48 2 #[] #[{ accessFlags := 24, nameIndex := 64, descriptorIndex := 65, attributes := #[] }, { accessFlags := 24, nameIndex := 68, descriptorIndex := 65, attributes := #[] }, { accessFlags := 24, nameIndex := 59, descriptorIndex := 60, attributes := #[] }, { accessFlags := 24, nameIndex := 63, descriptorIndex := 29, attributes := #[] }, { accessFlags := 24, nameIndex := 28, descriptorIndex := 29, attributes := #[] }, { accessFlags := 24, nameIndex := 32, descriptorIndex := 29, attributes := #[] }])
  fields := #[{ name := "TEXT_SPACE", type := .byte, accessFlags := 24, slot := 0, constantValue := 0 }, { name := "TEXT_SHOWN", type := .byte, accessFlags := 24, slot := 1, constantValue := 0 }, { name := "TEXT", type := (.array .byte), accessFlags := 24, slot := 2, constantValue := 0 }, { name := "PLAIN_VALUE", type := (.array .boolean), accessFlags := 24, slot := 3, constantValue := 0 }, { name := "NAME_START", type := (.array .boolean), accessFlags := 24, slot := 4, constantValue := 0 }, { name := "NAME_CHAR", type := (.array .boolean), accessFlags := 24, slot := 5, constantValue := 0 }]
  methods := #[k2m0, k2m1]
  instanceTypes := #[]
  staticTypes := #[.byte, .byte, (.array .byte), (.array .boolean), (.array .boolean), (.array .boolean)]
  resolved := Array.replicate 93 none
  statics := none }

def pool3 : Array CpInfo := pool [(1, u "java/lang/Cloneable"), (0, .class_ 1), (0, u "java/lang/Object"), (0, .class_ 3)] 3

/-- java/lang/Cloneable -/
def k3 : Class := { plain "java/lang/Cloneable" (some 0) with
  accessFlags := 1537
  interfaces := #[]
  cf := some (fileOf pool3 2 #[] #[] 1537 4 #[] #[])
  fields := #[]
  methods := #[]
  instanceTypes := #[]
  staticTypes := #[]
  resolved := Array.replicate 8 none
  statics := none }

def pool4 : Array CpInfo := pool [(1, u "java/io/Serializable"), (0, .class_ 1), (0, u "java/lang/Object"), (0, .class_ 3)] 3

/-- java/io/Serializable -/
def k4 : Class := { plain "java/io/Serializable" (some 0) with
  accessFlags := 1537
  interfaces := #[]
  cf := some (fileOf pool4 2 #[] #[] 1537 4 #[] #[])
  fields := #[]
  methods := #[]
  instanceTypes := #[]
  staticTypes := #[]
  resolved := Array.replicate 8 none
  statics := none }

/-- the primitive byte -/
def k5 : Class := { plain "byte" none with kind := .primitive 'B', accessFlags := 0x411 }
/-- [B -/
def k6 : Class := { plain "[B" (some 0) with kind := .array 5 .byte, interfaces := #[3, 4], accessFlags := 1041 }

/-- the primitive int -/
def k7 : Class := { plain "int" none with kind := .primitive 'I', accessFlags := 0x411 }
/-- [I -/
def k8 : Class := { plain "[I" (some 0) with kind := .array 7 .int, interfaces := #[3, 4], accessFlags := 1041 }

def heap : Heap := #[]
def classes : Array Class := #[k0, k1, k2, k3, k4, k5, k6, k7, k8]
def interned : List (Array UInt16 × Addr) := []
def slotsUsed : Nat := 0
def theMethod : MethodId := ⟨1, 1⟩
def args0 : Array Value := #[.int 5, .int 7]
def aboutOver (below : List Frame) : State where
  vm := { classes := classes, interned := interned.toArray }
  heap := heap
  slotsUsed := slotsUsed
  threads := #[{ frames := .invoking theMethod args0 :: below }]
def below0 : List Frame := [.native { method := ⟨0, 0⟩, args := #[] }]
def about1 : State := aboutOver below0
def p0 : Program := .bare "" "" ""
def e0 : Env := launch0.env 0 0 0
theorem w_frames : about1.frames = Frame.invoking theMethod args0 :: below0 := rfl
set_option maxRecDepth 65536 in
theorem w_args : argsFit about1.vm theMethod args0 = true := by decide +kernel
set_option maxRecDepth 65536 in
theorem w_heap : heapFits about1 = true := by decide +kernel
set_option maxRecDepth 65536 in
theorem w_runnable : about1.curStatus? = some .runnable := by decide +kernel
set_option maxRecDepth 65536 in
theorem w_alone : about1.alone = true := by decide +kernel
set_option maxRecDepth 65536 in
theorem w_named : about1.methodNamed? x = some theMethod := by decide +kernel
set_option maxRecDepth 65536 in
theorem w_hears : about1.hears theMethod below0 = true := by decide +kernel
set_option maxRecDepth 65536 in
theorem w_ripe : about1.ripe theMethod args0 below0 = true := by decide +kernel
theorem w_running : about1.status = .running := rfl
set_option maxRecDepth 65536 in
theorem w_room : about1.hasRoom e0.platform room_1 = true :=
  launch0.hasRoom_least _ room_1 (by decide +kernel) (by decide +kernel) (by decide +kernel) (by decide +kernel) (by decide +kernel) (by decide +kernel)
theorem allAtoms_all (ts : List Jvm.Cond) (a : Array Jvm.Value) (st : Jvm.State) : (allAtoms ts).before a st = ts.all (fun c => c.before a st) := by
  induction ts with
  | nil => rfl
  | cons c t ih =>
    show (Jvm.Cond.and c (allAtoms t)).before a st = _
    rw [Jvm.Cond.before_and, ih, List.all_cons]
def words1 : List Jvm.Cond := Jvm.Cond.code x code maxLocals ret :: tables_1
/-- a 'code' word, met by the world's own term for the bytes: nothing is compared byte by byte -/
theorem code_word {y : MethodName} {bytes : ByteArray} {mx : Nat} {rt : Option FieldType} {a : Array Value} {s : State} {m : MethodId} {meth : Method} {c : Code} (h1 : s.methodNamed? y = some m) (h2 : s.vm.method? m = some meth) (h3 : meth.code = some c) (h4 : c.code = bytes)
    (h5 : (c.maxLocals == mx && c.exceptionTable.isEmpty && decide (c.maxStack ≤ mostOperands) && decide (meth.sig.returnType = rt) && !meth.locks && decide (parseMethodDescriptor y.desc = some meth.sig)) = true) : (Jvm.Cond.code y bytes mx rt).before a s = true := by
  simp only [Bool.and_eq_true, beq_iff_eq, Bool.not_eq_true', decide_eq_true_eq] at h5
  obtain ⟨⟨⟨⟨⟨g1, g2⟩, g3⟩, g4⟩, g5⟩, g6⟩ := h5
  simp [Cond.before, Cond.holds, Cond.value, h1, h2, h3, h4, g1, g2, g3, g4, g5, g6]
def isCode : Jvm.Cond → Bool
  | .code _ _ _ _ => true
  | _ => false
theorem all_split {L : List Jvm.Cond} {P : Jvm.Cond → Bool} (h1 : L.all (fun c => isCode c || P c) = true) (h2 : ∀ c ∈ L.filter isCode, P c = true) : L.all P = true := by
  refine List.all_eq_true.mpr fun c hc => ?_
  have h := List.all_eq_true.mp h1 c hc
  rcases Bool.eq_false_or_eq_true (isCode c) with hi | hi
  · exact h2 c (List.mem_filter.mpr ⟨hc, hi⟩)
  · simpa [hi] using h
set_option maxRecDepth 65536 in
theorem w_c0 : (Jvm.Cond.code x code maxLocals ret).before args0 about1 = true := code_word (m := ⟨1, 1⟩) (meth := k1m1) (c := k1c1) (by decide +kernel) rfl rfl rfl (by decide +kernel)
set_option maxRecDepth 65536 in
theorem w_c1 : (Jvm.Cond.code ({ cls := "com/example/klarbrief/klarbrief/core/XmlCharacters", name := "isNameStart", desc := "(I)Z" } : Jvm.MethodName) prog_107_method_2_code (1 : Nat) (Option.some Jvm.ClassFile.FieldType.boolean)).before args0 about1 = true := code_word (m := ⟨2, 1⟩) (meth := k2m1) (c := k2c1) (by decide +kernel) rfl rfl rfl (by decide +kernel)
def codes1 : List Jvm.Cond := [Jvm.Cond.code x code maxLocals ret, Jvm.Cond.code ({ cls := "com/example/klarbrief/klarbrief/core/XmlCharacters", name := "isNameStart", desc := "(I)Z" } : Jvm.MethodName) prog_107_method_2_code (1 : Nat) (Option.some Jvm.ClassFile.FieldType.boolean)]
set_option maxRecDepth 65536 in
theorem codes_eq : words1.filter isCode = codes1 := rfl
theorem w_codes : ∀ c ∈ words1.filter isCode, c.before args0 about1 = true := by
  rw [codes_eq]
  intro c hc
  simp only [codes1, List.mem_cons, List.not_mem_nil, or_false] at hc
  rcases hc with rfl | rfl
  · exact w_c0
  · exact w_c1
set_option maxRecDepth 65536 in
theorem w_t1 : words1.all (fun c => isCode c || c.before args0 about1) = true := by decide +kernel
theorem w_tables : (allAtoms (Jvm.Cond.code x code maxLocals ret :: tables_1)).before args0 about1 = true := by
  rw [allAtoms_all]
  show words1.all (fun c => c.before args0 about1) = true
  refine all_split ?_ w_codes
  rw [w_t1]
set_option maxRecDepth 65536 in
theorem w_case : (Jvm.Cond.and given_1 narrow_1).before args0 about1 = true := by decide +kernel
theorem w_applies : (headSpec (Jvm.Cond.code x code maxLocals ret :: tables_1) room_1).applies x e0.platform about1 = true :=
  (Spec.applies_iff w_frames).mpr ⟨w_running, w_runnable, w_alone, w_named, w_hears, w_ripe, w_room, w_tables⟩
theorem atStart : AtStart classFile x code maxLocals ret World_1 tables_1 room_1 Calls_1 rest_1 Pre_1 launch0 p0 e0 about1 theMethod args0 below0 :=
  ⟨lists_1, trivial, launch0.admits_env _ _ _, launch0.least_env, fairChoices_fair.cas, fairChoices_fair.clock, w_frames, w_args, w_heap, w_applies, trivial, trivial, w_case⟩
end start1
theorem witness_1 : WitnessClaimed_1 := ⟨start1.p0, start1.e0, start1.about1, start1.theMethod, start1.args0, start1.below0, start1.atStart⟩
end Jvm.Pilot.@@N@@
