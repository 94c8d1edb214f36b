import JvmDerived
import JvmDerived.Pilot.@@N@@Statement
import JvmDerived.Pilot.@@N@@Code
set_option linter.unusedVariables false
set_option linter.unusedSimpArgs false
namespace Jvm.RoadKit
open Sem ClassFile Op Lib Jvm.Stand Jvm.Free Jvm.LawKit
section New
variable {p : Program} {l : Launch} {e : Env} {R : Room} {s : State} {m : MethodId} {args : Array Value} {below : List Frame} {meth : Method} {c : Code} {T : State} {locs : List Loc} {cells slots : Nat}
theorem retI (X : Stand p l e R s m args below meth c T locs cells slots) (hx : p.tables.exec = Jvm.exec) {pc : Nat} {Ls : Array Slot} {z : Int32} {rest : List Value} (hret : meth.sig.returnType = some .int) (hd : decode c.code pc = .ok (.ireturn, 1)) {fs : List Frame}
    (hl : ∀ (f : JFrame) (acts : List Action), f.method = m → f.locked = none → f.entered = [] → (doReturn e (T.setTop f) acts (some (.int z))).1 = T.setFrames fs) : Steps p.tables e below (T.setTop (mkF m pc Ls (.int z :: rest))) (T.setFrames fs) := by
  have hm' : T.vm.method? m = some meth := X.method'
  have hn : narrow .int (.int z) = .int z := rfl
  show Steps p.tables e below (T.setTop { method := m, pc := pc, locals := Ls, stack := _ :: rest, locked := none }) _
  jvm_step X.here [X.here.top, hx, hd, hm', hret, hn]
  first | (intro acts; rw [hl _ acts rfl rfl rfl]) | rw [hl _ _ rfl rfl rfl]
  exact Steps.refl _
end New
end Jvm.RoadKit
namespace Jvm.Pilot.@@N@@
open Jvm Jvm.ClassFile Sem Op Lib Jvm.Free Jvm.Stand Jvm.LawKit Jvm.RoadKit Bundle Jvm.Pilot.@@N@@.Jvm.D
/-! THE WALK IN SHORT: where a walk stands (St), what is fixed about the body (Cx), that a run from a frame comes to an end that says P (Con); a straight run of plain instructions in one row (own_run). -/
section OwnKit
def St (p : Program) (l : Launch) (e : Env) (R : Room) (s : State) (m : MethodId) (args : Array Value) (below : List Frame) (meth : Method) (c : Code) (n0 : Nat) (T : State) (h : Heap) (cells slots : Nat) : Prop :=
  ∃ locs, Stand p l e R s m args below meth c T locs cells slots ∧ T.heap = h ∧ Fr n0 locs ∧ n0 ≤ h.size
def Cx (p : Program) (s Z : State) (m : MethodId) (meth : Method) (c : Code) (bytes : ByteArray) (own : String) (maxL : Nat) (ret : Option FieldType) (nm : String) : Prop :=
  p.tables.exec = Jvm.exec ∧ Z.Warmed39 s.vm ∧ c.code = bytes ∧ s.vm.findClass own = some m.cls ∧ c.maxLocals = maxL ∧ meth.sig.returnType = ret ∧ meth.locks = false ∧ meth.name = nm
def Con (p : Program) (e : Env) (below : List Frame) (T : State) (g : JFrame) (P : State → Outcome → Prop) : Prop :=
  ∃ t o, Steps p.tables e below (T.setTop g) t ∧ t.status = .running ∧ Ended t below o ∧ P t o
def ilen : Instr → Nat
  | .iload _ => 2 | .aload _ => 2 | .istore _ => 2 | .astore _ => 2 | .bipush _ => 2 | .lload _ => 2 | .lstore _ => 2
  | .sipush _ => 3 | .iinc _ _ => 3 | .goto _ => 3
  | _ => 1
def pstep (i : Instr) (pc : Nat) (Ls : Array Slot) (st : List Value) : Option (Nat × Array Slot × List Value) :=
  match i with
  | .iload_n k => match Ls[k.val]? with | some (.val (.int v)) => some (pc + 1, Ls, .int v :: st) | _ => none
  | .iload k => match Ls[k]? with | some (.val (.int v)) => some (pc + 2, Ls, .int v :: st) | _ => none
  | .aload_n k => match Ls[k.val]? with | some (.val v) => if v.isRef = true then some (pc + 1, Ls, v :: st) else none | _ => none
  | .aload k => match Ls[k]? with | some (.val v) => if v.isRef = true then some (pc + 2, Ls, v :: st) else none | _ => none
  | .lload k => match Ls[k]? with | some (.val (.long v)) => some (pc + 2, Ls, .long v :: st) | _ => none
  | .istore_n k => match st with | .int x :: r => (match storeLocals Ls k.val (.int x) with | some L => some (pc + 1, L, r) | none => none) | _ => none
  | .istore k => match st with | .int x :: r => (match storeLocals Ls k (.int x) with | some L => some (pc + 2, L, r) | none => none) | _ => none
  | .astore_n k => match st with | x :: r => (if x.isRef = true then (match storeLocals Ls k.val x with | some L => some (pc + 1, L, r) | none => none) else none) | _ => none
  | .astore k => match st with | x :: r => (if x.isRef = true then (match storeLocals Ls k x with | some L => some (pc + 2, L, r) | none => none) else none) | _ => none
  | .lstore k => match st with | .long x :: r => (match storeLocals Ls k (.long x) with | some L => some (pc + 2, L, r) | none => none) | _ => none
  | .iconst i => some (pc + 1, Ls, .int (Int32.ofInt i) :: st)
  | .lconst k => some (pc + 1, Ls, .long (Int64.ofNat k) :: st)
  | .bipush i => some (pc + 2, Ls, .int (Int8.ofInt i).toInt32 :: st)
  | .sipush i => some (pc + 3, Ls, .int (Int16.ofInt i).toInt32 :: st)
  | .aconst_null => some (pc + 1, Ls, .null :: st)
  | .iadd => match st with | .int y :: .int x :: r => some (pc + 1, Ls, .int (x + y) :: r) | _ => none
  | .isub => match st with | .int y :: .int x :: r => some (pc + 1, Ls, .int (x - y) :: r) | _ => none
  | .imul => match st with | .int y :: .int x :: r => some (pc + 1, Ls, .int (x * y) :: r) | _ => none
  | .iand => match st with | .int y :: .int x :: r => some (pc + 1, Ls, .int (x &&& y) :: r) | _ => none
  | .ior => match st with | .int y :: .int x :: r => some (pc + 1, Ls, .int (x ||| y) :: r) | _ => none
  | .ishl => match st with | .int y :: .int x :: r => some (pc + 1, Ls, .int (x <<< (y &&& 31)) :: r) | _ => none
  | .ishr => match st with | .int y :: .int x :: r => some (pc + 1, Ls, .int (x >>> (y &&& 31)) :: r) | _ => none
  | .iushr => match st with | .int y :: .int x :: r => some (pc + 1, Ls, .int (XT.ushr x y) :: r) | _ => none
  | .idiv => match st with | .int y :: .int x :: r => (if y = 0 then none else some (pc + 1, Ls, .int (x / y) :: r)) | _ => none
  | .irem => match st with | .int y :: .int x :: r => (if y = 0 then none else some (pc + 1, Ls, .int (x - (x / y) * y) :: r)) | _ => none
  | .i2b => match st with | .int x :: r => some (pc + 1, Ls, .int (x.toInt8.toInt32) :: r) | _ => none
  | .i2l => match st with | .int x :: r => some (pc + 1, Ls, .long (x.toInt64) :: r) | _ => none
  | .lsub => match st with | .long y :: .long x :: r => some (pc + 1, Ls, .long (x - y) :: r) | _ => none
  | .lneg => match st with | .long x :: r => some (pc + 1, Ls, .long (-x) :: r) | _ => none
  | .lcmp => match st with | .long y :: .long x :: r => some (pc + 1, Ls, .int (XT.cmpL x y) :: r) | _ => none
  | .dup => match st with | x :: r => (if x.category = 1 then some (pc + 1, Ls, x :: x :: r) else none) | _ => none
  | .iinc k z => match Ls[k]? with | some (.val (.int x)) => (match storeLocals Ls k (.int (x + Int32.ofInt z)) with | some L => some (pc + 3, L, st) | none => none) | _ => none
  | .goto o => if 0 ≤ (pc : Int) + o then some (((pc : Int) + o).toNat, Ls, st) else none
  | _ => none
/-- where the next instruction of a straight run lies -/
def nextPc (i : Instr) (pc : Nat) : Nat := match i with | .goto o => ((pc : Int) + o).toNat | _ => pc + ilen i
def fetchOk (bytes : ByteArray) : Nat → List Instr → Bool
  | _, [] => true
  | pc, i :: r => decide (decode bytes pc = .ok (i, ilen i)) && fetchOk bytes (nextPc i pc) r
def prun : Nat → Array Slot → List Value → List Instr → Option (Nat × Array Slot × List Value)
  | pc, Ls, st, [] => some (pc, Ls, st)
  | pc, Ls, st, i :: r => match pstep i pc Ls st with | some (pc', Ls', st') => if nextPc i pc = pc' then prun pc' Ls' st' r else none | none => none
variable {p : Program} {l : Launch} {e : Env} {R : Room} {s : State} {m : MethodId} {args : Array Value} {below : List Frame} {meth : Method} {c : Code} {T : State} {h : Heap} {cells slots n0 : Nat} {Z : State} {a0 : Array Value} {bytes : ByteArray} {own : String} {maxL : Nat} {ret : Option FieldType} {nm : String} {P : State → Outcome → Prop}
theorem via {T' : State} {g g' : JFrame} (st : ∀ target, Steps p.tables e below (T'.setTop g') target → Steps p.tables e below (T.setTop g) target) (k : Con p e below T' g' P) : Con p e below T g P := by
  obtain ⟨t, o, h1, r⟩ := k; exact ⟨t, o, st t h1, r⟩
theorem own_run1 (S : St p l e R s m args below meth c n0 T h cells slots) (C : Cx p s Z m meth c bytes own maxL ret nm) {i : Instr} {pc : Nat} {Ls : Array Slot} {st : List Value} {q : Nat × Array Slot × List Value}
    (hd : decode bytes pc = .ok (i, ilen i)) (hp : pstep i pc Ls st = some q) (k : Con p e below T (mkF m q.1 q.2.1 q.2.2) P) : Con p e below T (mkF m pc Ls st) P := by
  obtain ⟨locs, X, -⟩ := S
  obtain ⟨hx, -, hby, -⟩ := C
  have hd' := hb hby hd
  unfold pstep at hp
  split at hp
  · split at hp
    · cases hp; exact via (fun t z => XS.iloadN X.here hx rfl hd' ‹_› z) k
    · cases hp
  · split at hp
    · cases hp; exact via (fun t z => XS.iload X.here hx rfl hd' ‹_› z) k
    · cases hp
  · split at hp
    · split at hp
      · cases hp; exact via (fun t z => XS.aloadN X.here hx rfl hd' ‹_› ‹_› z) k
      · cases hp
    · cases hp
  · split at hp
    · split at hp
      · cases hp; exact via (fun t z => XS.aload X.here hx rfl hd' ‹_› ‹_› z) k
      · cases hp
    · cases hp
  · split at hp
    · cases hp; exact via (fun t z => XT.lload X.here hx rfl hd' ‹_› z) k
    · cases hp
  · split at hp
    · split at hp
      · cases hp; exact via (fun t z => XS.istoreN X.here hx rfl hd' rfl ‹_› z) k
      · cases hp
    · cases hp
  · split at hp
    · split at hp
      · cases hp; exact via (fun t z => XS.istore X.here hx rfl hd' rfl ‹_› z) k
      · cases hp
    · cases hp
  · split at hp
    · split at hp
      · split at hp
        · cases hp; exact via (fun t z => XS.astoreN X.here hx rfl hd' rfl ‹_› ‹_› z) k
        · cases hp
      · cases hp
    · cases hp
  · split at hp
    · split at hp
      · split at hp
        · cases hp; exact via (fun t z => XS.astore X.here hx rfl hd' rfl ‹_› ‹_› z) k
        · cases hp
      · cases hp
    · cases hp
  · split at hp
    · split at hp
      · cases hp; exact via (fun t z => XT.lstore X.here hx rfl hd' rfl ‹_› z) k
      · cases hp
    · cases hp
  · cases hp; exact via (fun t z => XS.iconst X.here hx rfl hd' z) k
  · cases hp; exact via (fun t z => XT.lconst X.here hx rfl hd' z) k
  · cases hp; exact via (fun t z => XS.bipush X.here hx rfl hd' z) k
  · cases hp; exact via (fun t z => XS.sipush X.here hx rfl hd' z) k
  · cases hp; exact via (fun t z => XS.aconstNull X.here hx rfl hd' z) k
  · split at hp
    · cases hp; exact via (fun t z => XS.iadd X.here hx rfl hd' rfl z) k
    · cases hp
  · split at hp
    · cases hp; exact via (fun t z => XS.isub X.here hx rfl hd' rfl z) k
    · cases hp
  · split at hp
    · cases hp; exact via (fun t z => XS.imul X.here hx rfl hd' rfl z) k
    · cases hp
  · split at hp
    · cases hp; exact via (fun t z => XS.iand X.here hx rfl hd' rfl z) k
    · cases hp
  · split at hp
    · cases hp; exact via (fun t z => XT.ior X.here hx rfl hd' rfl z) k
    · cases hp
  · split at hp
    · cases hp; exact via (fun t z => XT.ishl X.here hx rfl hd' rfl z) k
    · cases hp
  · split at hp
    · cases hp; exact via (fun t z => XT.ishr X.here hx rfl hd' rfl z) k
    · cases hp
  · split at hp
    · cases hp; exact via (fun t z => XT.iushr X.here hx rfl hd' rfl z) k
    · cases hp
  · split at hp
    · split at hp
      · cases hp
      · cases hp; exact via (fun t z => XS.idiv X.here hx rfl hd' rfl ‹_› z) k
    · cases hp
  · split at hp
    · split at hp
      · cases hp
      · cases hp; exact via (fun t z => XS.irem X.here hx rfl hd' rfl ‹_› z) k
    · cases hp
  · split at hp
    · cases hp; exact via (fun t z => XT.i2b X.here hx rfl hd' rfl z) k
    · cases hp
  · split at hp
    · cases hp; exact via (fun t z => XT.i2l X.here hx rfl hd' rfl z) k
    · cases hp
  · split at hp
    · cases hp; exact via (fun t z => XT.lsub X.here hx rfl hd' rfl z) k
    · cases hp
  · split at hp
    · cases hp; exact via (fun t z => XT.lneg X.here hx rfl hd' rfl z) k
    · cases hp
  · split at hp
    · cases hp; exact via (fun t z => XT.lcmp X.here hx rfl hd' rfl z) k
    · cases hp
  · split at hp
    · split at hp
      · cases hp; exact via (fun t z => XS.dup X.here hx rfl hd' rfl ‹_› z) k
      · cases hp
    · cases hp
  · split at hp
    · split at hp
      · cases hp; exact via (fun t z => XS.iinc X.here hx rfl hd' ‹_› ‹_› z) k
      · cases hp
    · cases hp
  · split at hp
    · cases hp; exact via (fun t z => XS.goto X.here hx rfl rfl hd' ‹_› rfl z) k
    · cases hp
  · cases hp
/-- a straight run of plain instructions -/
theorem own_run (S : St p l e R s m args below meth c n0 T h cells slots) (C : Cx p s Z m meth c bytes own maxL ret nm) {pc' : Nat} {Ls' : Array Slot} {st' : List Value} :
    ∀ (is : List Instr) {pc : Nat} {Ls : Array Slot} {st : List Value}, fetchOk bytes pc is = true → prun pc Ls st is = some (pc', Ls', st') → Con p e below T (mkF m pc' Ls' st') P → Con p e below T (mkF m pc Ls st) P
  | [], pc, Ls, st, _, hp, k => by cases hp; exact k
  | i :: r, pc, Ls, st, hf, hp, k => by
    simp only [fetchOk, Bool.and_eq_true, decide_eq_true_eq] at hf
    simp only [prun] at hp
    split at hp
    · split at hp
      · rename_i pc1 Ls1 st1 h1 h2
        subst h2
        exact own_run1 S C hf.1 h1 (own_run S C r hf.2 hp k)
      · cases hp
    · cases hp
end OwnKit
section OwnKit2
variable {p : Program} {l : Launch} {e : Env} {R : Room} {s : State} {m : MethodId} {args : Array Value} {below : List Frame} {meth : Method} {c : Code} {T : State} {h h' : Heap} {cells slots n0 : Nat} {Z : State} {a0 : Array Value} {bytes : ByteArray} {own : String} {maxL : Nat} {ret : Option FieldType} {nm : String} {P : State → Outcome → Prop} {pc pc' : Nat} {Ls : Array Slot} {st : List Value}
/-! branches -/
theorem own_icmp (S : St p l e R s m args below meth c n0 T h cells slots) (C : Cx p s Z m meth c bytes own maxL ret nm) {cd : ClassFile.Cond} {o : Int} {x y : Int32} (hd : decode bytes pc = .ok (.if_icmp cd o, 3)) (hp : 0 ≤ (pc : Int) + o ∧ ((pc : Int) + o).toNat = pc')
    (yes : if_icmp.holds cd x y = true → Con p e below T (mkF m pc' Ls st) P) (no : if_icmp.holds cd x y = false → Con p e below T (mkF m (pc + 3) Ls st) P) : Con p e below T (mkF m pc Ls (.int y :: .int x :: st)) P := by
  obtain ⟨locs, X, -⟩ := S
  obtain ⟨hx, -, hby, -⟩ := C
  cases hc : if_icmp.holds cd x y with
  | true => exact via (fun t z => XS.icmpYes X.here hx rfl rfl (hb hby hd) rfl hc hp.1 hp.2 z) (yes hc)
  | false => exact via (fun t z => XS.icmpNo X.here hx rfl (hb hby hd) rfl hc z) (no hc)
theorem own_if (S : St p l e R s m args below meth c n0 T h cells slots) (C : Cx p s Z m meth c bytes own maxL ret nm) {cd : ClassFile.Cond} {o : Int} {x : Int32} (hd : decode bytes pc = .ok (.ifCond cd o, 3)) (hp : 0 ≤ (pc : Int) + o ∧ ((pc : Int) + o).toNat = pc')
    (yes : if_icmp.holds cd x 0 = true → Con p e below T (mkF m pc' Ls st) P) (no : if_icmp.holds cd x 0 = false → Con p e below T (mkF m (pc + 3) Ls st) P) : Con p e below T (mkF m pc Ls (.int x :: st)) P := by
  obtain ⟨locs, X, -⟩ := S
  obtain ⟨hx, -, hby, -⟩ := C
  cases hc : if_icmp.holds cd x 0 with
  | true => exact via (fun t z => XS.ifYes X.here hx rfl rfl (hb hby hd) rfl ((if0 cd x).trans hc) hp.1 hp.2 z) (yes hc)
  | false => exact via (fun t z => XS.ifNo X.here hx rfl (hb hby hd) rfl ((if0 cd x).trans hc) z) (no hc)
theorem own_ifnullNo (S : St p l e R s m args below meth c n0 T h cells slots) (C : Cx p s Z m meth c bytes own maxL ret nm) {o : Int} {b : Addr} (hd : decode bytes pc = .ok (.ifnull o, 3))
    (k : Con p e below T (mkF m (pc + 3) Ls st) P) : Con p e below T (mkF m pc Ls (.ref b :: st)) P := by
  obtain ⟨locs, X, -⟩ := S
  obtain ⟨hx, -, hby, -⟩ := C
  exact via (fun t z => XS.ifnullNo X.here hx rfl (hb hby hd) rfl z) k
theorem hh_lt {x y : Int32} : (if_icmp.holds .lt x y = true ↔ x.toInt < y.toInt) ∧ (if_icmp.holds .lt x y = false ↔ y.toInt ≤ x.toInt) := by
  rw [show if_icmp.holds .lt x y = decide (x < y) from rfl, decide_eq_true_eq, decide_eq_false_iff_not, Int32.lt_iff_toInt_lt]; omega
theorem hh_ge {x y : Int32} : (if_icmp.holds .ge x y = true ↔ y.toInt ≤ x.toInt) ∧ (if_icmp.holds .ge x y = false ↔ x.toInt < y.toInt) := by
  rw [show if_icmp.holds .ge x y = decide (y ≤ x) from rfl, decide_eq_true_eq, decide_eq_false_iff_not, Int32.le_iff_toInt_le]; omega
theorem hh_gt {x y : Int32} : (if_icmp.holds .gt x y = true ↔ y.toInt < x.toInt) ∧ (if_icmp.holds .gt x y = false ↔ x.toInt ≤ y.toInt) := by
  rw [show if_icmp.holds .gt x y = decide (y < x) from rfl, decide_eq_true_eq, decide_eq_false_iff_not, Int32.lt_iff_toInt_lt]; omega
theorem hh_le {x y : Int32} : (if_icmp.holds .le x y = true ↔ x.toInt ≤ y.toInt) ∧ (if_icmp.holds .le x y = false ↔ y.toInt < x.toInt) := by
  rw [show if_icmp.holds .le x y = decide (x ≤ y) from rfl, decide_eq_true_eq, decide_eq_false_iff_not, Int32.le_iff_toInt_le]; omega
theorem hh_eq {x y : Int32} : (if_icmp.holds .eq x y = true ↔ x.toInt = y.toInt) ∧ (if_icmp.holds .eq x y = false ↔ x.toInt ≠ y.toInt) := by
  rw [show if_icmp.holds .eq x y = (x == y) from rfl, beq_iff_eq, beq_eq_false_iff_ne, ne_eq, ← Int32.toInt_inj]; exact ⟨Iff.rfl, Iff.rfl⟩
theorem hh_ne {x y : Int32} : (if_icmp.holds .ne x y = true ↔ x.toInt ≠ y.toInt) ∧ (if_icmp.holds .ne x y = false ↔ x.toInt = y.toInt) := by
  rw [show if_icmp.holds .ne x y = (x != y) from rfl, bne_iff_ne, bne_eq_false_iff_eq, ne_eq, ← Int32.toInt_inj]; exact ⟨Iff.rfl, Iff.rfl⟩
/-! constants -/
theorem own_ldc (S : St p l e R s m args below meth c n0 T h cells slots) (C : Cx p s Z m meth c bytes own maxL ret nm) {idx : Nat} {v : Int32} (w : (Jvm.Cond.constant own idx v).before a0 Z = true) (hd : decode bytes pc = .ok (.ldc idx, 2))
    (k : Con p e below T (mkF m (pc + 2) Ls (.int v :: st)) P) : Con p e below T (mkF m pc Ls st) P := by
  obtain ⟨locs, X, -⟩ := S
  obtain ⟨hx, hZ, hby, hown, -⟩ := C
  exact via (X.ldcInt hx hown (mvT hZ w) (g := mkF m pc Ls st) rfl (hb hby hd)) k
/-- a remainder whose divisor isn't 0 -/
theorem own_irem (S : St p l e R s m args below meth c n0 T h cells slots) (C : Cx p s Z m meth c bytes own maxL ret nm) {x y : Int32} (hy : y ≠ 0) (hd : decode bytes pc = .ok (.irem, 1))
    (k : Con p e below T (mkF m (pc + 1) Ls (.int (x - (x / y) * y) :: st)) P) : Con p e below T (mkF m pc Ls (.int y :: .int x :: st)) P := by
  obtain ⟨locs, X, -⟩ := S
  obtain ⟨hx, hZ, hby, hown, -⟩ := C
  exact via (fun t z => XS.irem X.here hx rfl (hb hby hd) rfl hy z) k
/-! arrays of ints -/
def Ai (Z : State) (h : Heap) (a : Addr) (vs : List Int32) : Prop :=
  ∃ cl : Cell, Arr Z h a cl .int ∧ cl.slots.size = vs.length ∧ vs.length < 2 ^ 31 ∧ ∀ j, j < vs.length → cl.slots[j]? = some (.int (vs.getD j 0))
theorem Ai.lt {a : Addr} {vs : List Int32} (A : Ai Z h a vs) : a < h.size := by obtain ⟨c, A, -⟩ := A; exact A.lt
theorem Ai.ext {a : Addr} {vs : List Int32} (A : Ai Z h a vs) (E : Ext h h') : Ai Z h' a vs := by obtain ⟨c, A, r⟩ := A; exact ⟨c, A.ext E, r⟩
theorem Ai.other {a b : Addr} {vs : List Int32} {sl : Nat} {v : Value} (A : Ai Z h b vs) (W : Wr h h' a sl v) (q : b ≠ a) : Ai Z h' b vs := by obtain ⟨c, A, r⟩ := A; exact ⟨c, A.other W q, r⟩
theorem Ai.keep {a : Addr} {vs : List Int32} {ws : List Addr} (A : Ai Z h a vs) (K : Keep h h' ws) (q : a ∉ ws) : Ai Z h' a vs := by obtain ⟨c, A, r⟩ := A; exact ⟨c, ⟨K.2.1 a c A.1 q, A.2⟩, r⟩
theorem Ai.small {a : Addr} {vs : List Int32} (A : Ai Z h a vs) : vs.length < 2 ^ 31 := by obtain ⟨c, -, -, r, -⟩ := A; exact r
theorem own_idx {j : Int32} {n k : Nat} (hj : 0 ≤ j.toInt ∧ j.toInt < (n : Int)) (e : k = n) : ¬ (j < 0 ∨ k ≤ j.toNatClampNeg) := by
  subst e
  rw [Int32.lt_iff_toInt_lt, show (0 : Int32).toInt = 0 from rfl, show j.toNatClampNeg = j.toInt.toNat from rfl]
  omega
theorem own_newarray (S : St p l e R s m args below meth c n0 T h cells slots) (C : Cx p s Z m meth c bytes own maxL ret nm) (w : (Jvm.Cond.arrayClass .int).before a0 Z = true) (hd : decode bytes pc = .ok (.newarray .int, 2)) {n : Int32} (hn : 0 ≤ n.toInt) (cap : Nat) (hcap : n.toNatClampNeg ≤ cap) (hbig : cap * 8 ≤ 536870912)
    (hc : cells + 1 ≤ R.cells) (hs : slots + cap ≤ R.slots) {vs : List Int32} (hvs : List.replicate n.toNatClampNeg (0 : Int32) = vs)
    (k : ∀ (T' : State) (h' : Heap) (a : Addr), a = h.size → St p l e R s m args below meth c n0 T' h' (cells + 1) (slots + cap) → Ext h h' → n0 ≤ a → Ai Z h' a vs → Con p e below T' (mkF m (pc + 2) Ls (.ref a :: st)) P) : Con p e below T (mkF m pc Ls (.int n :: st)) P := by
  obtain ⟨locs, X, e0, N, Z0⟩ := S
  obtain ⟨hx, hZ, hby, hown, -⟩ := C
  have hneg : ¬ n < 0 := by rw [Int32.lt_iff_toInt_lt, show (0 : Int32).toInt = 0 from rfl]; omega
  obtain ⟨T', h', cA, X', e', E, A, stp⟩ := newP X hx hZ (aty := .int) w e0 (g := mkF m pc Ls (.int n :: st)) rfl (hb hby hd) rfl hneg (cap := cap) hcap hbig hc hs
  refine via stp (k T' h' h.size rfl ⟨locs, X', e', N, Nat.le_trans Z0 E.1⟩ E Z0 ⟨_, A, ?_, ?_, fun j hj => ?_⟩)
  · rw [sz_new, ← hvs, List.length_replicate]
  · rw [← hvs, List.length_replicate, show n.toNatClampNeg = n.toInt.toNat from rfl]
    have := n.toInt_lt
    omega
  · subst hvs
    rw [List.length_replicate] at hj
    have hg : (List.replicate n.toNatClampNeg (0 : Int32)).getD j 0 = 0 := by
      rw [List.getD_eq_getElem?_getD, List.getElem?_replicate]; split <;> rfl
    rw [hg]
    show (Array.replicate n.toNatClampNeg (Value.int 0))[j]? = _
    rw [Array.getElem?_replicate, if_pos hj]
theorem own_alen (S : St p l e R s m args below meth c n0 T h cells slots) (C : Cx p s Z m meth c bytes own maxL ret nm) {a : Addr} {vs : List Int32} (A : Ai Z h a vs) (hd : decode bytes pc = .ok (.arraylength, 1)) {v : Int32} (hv : Int32.ofNat vs.length = v)
    (k : Con p e below T (mkF m (pc + 1) Ls (.int v :: st)) P) : Con p e below T (mkF m pc Ls (.ref a :: st)) P := by
  obtain ⟨locs, X, e0, N, Z0⟩ := S
  obtain ⟨hx, hZ, hby, hown, -⟩ := C
  obtain ⟨cl, A, hsz, hsm, hat⟩ := A
  refine via (fun t z => X.arraylength hx (cell := cl) (by rw [e0]; exact A.1) (State.isArrayOf_alike hZ.alike A.2.1) (g := mkF m pc Ls (.ref a :: st)) rfl (rest := st) rfl (hb hby hd) t z) ?_
  rw [hsz]; subst hv; exact k
theorem own_iaload (S : St p l e R s m args below meth c n0 T h cells slots) (C : Cx p s Z m meth c bytes own maxL ret nm) {a : Addr} {vs : List Int32} (A : Ai Z h a vs) (hd : decode bytes pc = .ok (.iaload, 1)) {j v : Int32} (hj : 0 ≤ j.toInt ∧ j.toInt < (vs.length : Int)) (hv : vs.getD j.toNatClampNeg 0 = v)
    (k : Con p e below T (mkF m (pc + 1) Ls (.int v :: st)) P) : Con p e below T (mkF m pc Ls (.int j :: .ref a :: st)) P := by
  obtain ⟨locs, X, e0, N, Z0⟩ := S
  obtain ⟨hx, hZ, hby, hown, -⟩ := C
  obtain ⟨cl, A, hsz, hsm, hat⟩ := A
  have hlt : j.toNatClampNeg < vs.length := by rw [show j.toNatClampNeg = j.toInt.toNat from rfl]; omega
  subst hv
  exact via (fun t z => X.iaload hx (j := j) (v := .int (vs.getD j.toNatClampNeg 0)) (by rw [e0]; exact A.1) (State.isArrayOf_alike hZ.alike A.2.1) A.2.2 (own_idx hj hsz) (hat _ hlt) (g := mkF m pc Ls (.int j :: .ref a :: st)) rfl rfl (hb hby hd) t z) k
theorem own_iastore (S : St p l e R s m args below meth c n0 T h cells slots) (C : Cx p s Z m meth c bytes own maxL ret nm) {a : Addr} {vs vs' : List Int32} (A : Ai Z h a vs) (hd : decode bytes pc = .ok (.iastore, 1)) {j x : Int32} (hj : 0 ≤ j.toInt ∧ j.toInt < (vs.length : Int)) (ge : n0 ≤ a) (hv : vs.set j.toNatClampNeg x = vs')
    (k : ∀ (T' : State) (h' : Heap), St p l e R s m args below meth c n0 T' h' cells slots → Keep h h' [a] → Ai Z h' a vs' → Con p e below T' (mkF m (pc + 1) Ls st) P) : Con p e below T (mkF m pc Ls (.int x :: .int j :: .ref a :: st)) P := by
  obtain ⟨locs, X, e0, N, Z0⟩ := S
  obtain ⟨hx, hZ, hby, hown, -⟩ := C
  obtain ⟨cl, A, hsz, hsm, hat⟩ := A
  have hlt : j.toNatClampNeg < vs.length := by rw [show j.toNatClampNeg = j.toInt.toNat from rfl]; omega
  obtain ⟨T', h', X', e', W, stp⟩ := stI X hx hZ e0 A (j := j) (x := x) (own_idx hj hsz) (g := mkF m pc Ls (.int x :: .int j :: .ref a :: st)) rfl rfl (hb hby hd)
  subst hv
  refine via stp (k T' h' ⟨_, X', e', Fr.snoc X' N ge, Nat.le_trans Z0 (Keep.of_wr W).1⟩ (Keep.of_wr W) ⟨_, A.same W, ?_, ?_, fun i hi => ?_⟩)
  · rw [sz_set, List.length_set]; exact hsz
  · rw [List.length_set]; exact hsm
  · rw [List.length_set] at hi
    by_cases u : j.toNatClampNeg = i
    · subst u
      rw [List.getD_eq_getElem?_getD, List.getElem?_set_self hi]
      simp only [Cell.setSlot]
      rw [Array.getElem?_setIfInBounds_self_of_lt (by rw [hsz]; exact hi)]
      rfl
    · have := hat i hi
      rw [List.getD_eq_getElem?_getD] at this ⊢
      rw [List.getElem?_set_ne u, ← this]
      simp only [Cell.setSlot]
      rw [Array.getElem?_setIfInBounds_ne u]
/-! what a body leaves -/
def Pq (s : State) (rm : Room) (n0 : Nat) (Q : Option Value → Heap → Prop) : State → Outcome → Prop := fun U' o => ∃ v L, o = .returned v ∧ (Fr n0 L ∧ n0 ≤ U'.heap.size ∧ Q v U'.heap) ∧ FrameEnd s o U' L rm.cells rm.slots
variable {Q : Option Value → Heap → Prop}
theorem own_reti (S : St p l e R s m args below meth c n0 T h cells slots) (C : Cx p s Z m meth c bytes own maxL (some .int) nm) {z : Int32} (hd : decode bytes pc = .ok (.ireturn, 1)) (hc : cells ≤ R.cells) (hs : slots ≤ R.slots) (q : Q (some (.int z)) h) : Con p e below T (mkF m pc Ls (.int z :: st)) (Pq s R n0 Q) := by
  obtain ⟨locs, X, e0, N, Z0⟩ := S
  obtain ⟨hx, hZ, hby, hown, hml, hret, hlk, -⟩ := C
  obtain ⟨fs, hr, hrun, hended, hW, hsame⟩ := X.leave (v := some (.int z)) (fun h => by rw [hret] at h; cases h) hlk
  subst e0
  exact ⟨_, _, retI X hx hret (hb hby hd) hr, hrun, hended, _, locs, rfl, ⟨N, Z0, q⟩, ⟨_, rfl⟩, hW, hsame.mono hc hs⟩
theorem own_retz (S : St p l e R s m args below meth c n0 T h cells slots) (C : Cx p s Z m meth c bytes own maxL (some .boolean) nm) {z z' : Int32} (hz : z &&& 1 = z') (hd : decode bytes pc = .ok (.ireturn, 1)) (hc : cells ≤ R.cells) (hs : slots ≤ R.slots) (q : Q (some (.int z')) h) : Con p e below T (mkF m pc Ls (.int z :: st)) (Pq s R n0 Q) := by
  obtain ⟨locs, X, e0, N, Z0⟩ := S
  obtain ⟨hx, hZ, hby, hown, hml, hret, hlk, -⟩ := C
  obtain ⟨fs, hr, hrun, hended, hW, hsame⟩ := X.leave (v := some (.int (nar .boolean z))) (fun h => by rw [hret] at h; cases h) hlk
  subst e0
  subst hz
  exact ⟨_, _, retN X hx (t := .boolean) hret (Or.inl rfl) (hb hby hd) hr, hrun, hended, _, locs, rfl, ⟨N, Z0, q⟩, ⟨_, rfl⟩, hW, hsame.mono hc hs⟩
theorem own_reta (S : St p l e R s m args below meth c n0 T h cells slots) {ft : FieldType} (C : Cx p s Z m meth c bytes own maxL (some ft) nm) (hft : ft.isReference = true) {a : Addr} (hd : decode bytes pc = .ok (.areturn, 1)) (hc : cells ≤ R.cells) (hs : slots ≤ R.slots) (q : Q (some (.ref a)) h) : Con p e below T (mkF m pc Ls [.ref a]) (Pq s R n0 Q) := by
  obtain ⟨locs, X, e0, N, Z0⟩ := S
  obtain ⟨hx, hZ, hby, hown, hml, hret, hlk, -⟩ := C
  obtain ⟨fs, hr, hrun, hended, hW, hsame⟩ := X.leave (v := some (.ref a)) (fun h => by rw [hret] at h; cases h) hlk
  subst e0
  exact ⟨_, _, X.areturnOut hx rfl hret hft (hb hby hd) hr, hrun, hended, _, locs, rfl, ⟨N, Z0, q⟩, ⟨_, rfl⟩, hW, hsame.mono hc hs⟩
theorem own_retv (S : St p l e R s m args below meth c n0 T h cells slots) (C : Cx p s Z m meth c bytes own maxL none nm) (hd : decode bytes pc = .ok (.return_, 1)) (hc : cells ≤ R.cells) (hs : slots ≤ R.slots) (q : Q none h) : Con p e below T (mkF m pc Ls []) (Pq s R n0 Q) := by
  obtain ⟨locs, X, e0, N, Z0⟩ := S
  obtain ⟨hx, hZ, hby, hown, hml, hret, hlk, -⟩ := C
  obtain ⟨fs, hr, hrun, hended, hW, hsame⟩ := X.leave (v := none) (fun _ => rfl) hlk
  subst e0
  exact ⟨_, _, X.returnOut hx hret (hb hby hd) hr, hrun, hended, _, locs, rfl, ⟨N, Z0, q⟩, ⟨_, rfl⟩, hW, hsame.mono hc hs⟩
/-! a body's contract, and how it is entered -/
def Mt (l : Launch) (Z : State) (y : MethodName) (bytes : ByteArray) (maxL : Nat) (ret : Option FieldType) (ws : List Jvm.Cond) (rm : Room) (as : Array Value) (h0 : Heap) (n0 : Nat) (Q : Option Value → Heap → Prop) : Prop :=
  MetFree l y (head1 (Jvm.Cond.code y bytes maxL ret :: ws) rm) (fun a U => a = as ∧ Z.Warmed39 U.vm ∧ U.heap = h0) (fun _ _ _ _ _ => True) (fun _ U o U' => ∃ v L, o = .returned v ∧ (Fr n0 L ∧ n0 ≤ U'.heap.size ∧ Q v U'.heap) ∧ FrameEnd U o U' L rm.cells rm.slots)
theorem Mt.of {y : MethodName} {ws : List Jvm.Cond} {rm : Room} {as : Array Value} (pn : plainFor y = true) (Z0 : n0 ≤ h.size) (ef : ∀ m, entryFrame m as maxL = mkF m 0 Ls []) (ho : y.cls = own) (hn : y.name = nm)
    (body : ∀ (p : Program) (e : Env) (s : State) (m : MethodId) (below : List Frame) (meth : Method) (c : Code) (T : State), Cx p s Z m meth c bytes own maxL ret nm → St p l e rm s m as below meth c n0 T h 0 0 → Con p e below T (mkF m 0 Ls []) (Pq s rm n0 Q)) :
    Mt l Z y bytes maxL ret ws rm as h n0 Q := by
  refine MetFree.of_bodySF pn hisR ?_
  intro p e s m args below meth c s₁ Bd hml0 hP hK
  obtain ⟨rfl, hZ, hh⟩ := hP
  have X0 : Stand p l e rm s m args below meth c s₁ [] 0 0 := Stand.of_body Bd
  have e0 : s₁.heap = h := by rw [← hh, Bd.state]; rfl
  subst ho hn
  obtain ⟨t, o, h1, h2, h3, h4⟩ := body p e s m below meth c s₁ ⟨Bd.exec, hZ, Bd.bytes, findClass_of_methodNamed Bd.named, hml0, Bd.returns, Bd.notSynchronized, (name_of_methodNamed Bd.named Bd.method).1⟩ ⟨[], X0, e0, Fr.nil n0, Z0⟩
  exact ⟨t, o, castTop (ef m) h1, h2, h3, h4⟩
/-! calls by contract -/
theorem own_callS (S : St p l e R s m args below meth c n0 T h cells slots) (C : Cx p s Z m meth c bytes own maxL ret nm) {y : MethodName} {yb : ByteArray} {yL : Nat} {yr : Option FieldType} {rm : Room} {idx : Nat} (w1 : (Jvm.Cond.methodLink own idx y).before a0 Z = true) (w2 : (Jvm.Cond.static y).before a0 Z = true) (w3 : (Jvm.Cond.initialized y.cls).before a0 Z = true) (w4 : (Jvm.Cond.code y yb yL yr).before a0 Z = true)
    (hy : y.cls ≠ "java/lang/invoke/MethodHandle" ∧ y.cls ≠ "java/lang/invoke/VarHandle") {as : Array Value} (hM : Mt l Z y yb yL yr [] rm as h n0 Q) (W : Nat) (hf : rm.frames + 1 ≤ R.frames) (hl : W + (yL + 11) + rm.locals ≤ R.locals) {ps : List FieldType} {r : Option FieldType} (pd : parseMethodDescriptor y.desc = some ⟨ps, r⟩) (argsL rest : List Value) (hn : argsL.length = ps.length) (ha : argsL.toArray = as)
    (hst : st = argsL.reverse ++ rest) (hW : (rest.map fun v => v.category).sum ≤ W) (hsz : Ls.size = maxL) (hd : decode bytes pc = .ok (.invokestatic idx, 3)) (hc : cells + rm.cells ≤ R.cells) (hs : slots + rm.slots ≤ R.slots)
    (k : ∀ (v : Option Value) (T' : State) (h' : Heap), St p l e R s m args below meth c n0 T' h' (cells + rm.cells) (slots + rm.slots) → Q v h' → Con p e below T' (mkF m (pc + 3) Ls (v.toList ++ rest)) P) : Con p e below T (mkF m pc Ls st) P := by
  obtain ⟨locs, X, e0, N, Z0⟩ := S
  obtain ⟨hx, hZ, hby, hown, hml, -⟩ := C
  obtain ⟨v, vm1, ⟨T', L', k', n'⟩, -, X', ⟨Lc, hQ, l1, y1, z1⟩, stp⟩ := Jvm.LawKit.callS X hx (y := y) hown (mvT hZ w1) (mvT hZ w2) (mvT hZ w3) (mvT hZ w4) hy (backOf (W := W) (Q := fun v h L => Fr n0 L ∧ n0 ≤ h.size ∧ Q v h) hM hZ w4 w3 hf hl) (g := mkF m pc Ls st) rfl (by rw [hml]; exact hsz) (argsL := argsL) (rest := rest) (lenOf pd hn) hst (by show 2 * 0 + _ ≤ _; omega) (hb hby hd) (fun _ _ => ⟨ha, e0, hc, hs⟩)
  dsimp only [Pt.U, Pt.locs, Pt.cells, Pt.slots] at X' l1 y1 z1 stp hQ
  subst l1 y1 z1
  exact via stp (k v T' _ ⟨_, X', rfl, Fr.app N hQ.1, hQ.2.1⟩ hQ.2.2)
theorem own_callI (S : St p l e R s m args below meth c n0 T h cells slots) (C : Cx p s Z m meth c bytes own maxL ret nm) {y : MethodName} {yb : ByteArray} {yL : Nat} {rm : Room} {idx : Nat} (hy1 : y.name = "<init>") (w1 : (Jvm.Cond.methodLink own idx y).before a0 Z = true) (w2 : (Jvm.Cond.instanceMethod y).before a0 Z = true) (w3 : (Jvm.Cond.initialized y.cls).before a0 Z = true) (w4 : (Jvm.Cond.code y yb yL none).before a0 Z = true)
    (hy : y.cls ≠ "java/lang/invoke/MethodHandle" ∧ y.cls ≠ "java/lang/invoke/VarHandle") {as : Array Value} (hM : Mt l Z y yb yL none [] rm as h n0 Q) (W : Nat) (hf : rm.frames + 1 ≤ R.frames) (hl : W + (yL + 11) + rm.locals ≤ R.locals) {ps : List FieldType} {r : Option FieldType} (pd : parseMethodDescriptor y.desc = some ⟨ps, r⟩) (a : Addr) (argsL rest : List Value) (hn : argsL.length = ps.length) (ha : (.ref a :: argsL).toArray = as)
    (hst : st = argsL.reverse ++ .ref a :: rest) (hW : (rest.map fun v => v.category).sum ≤ W) (hsz : Ls.size = maxL) (hd : decode bytes pc = .ok (.invokespecial idx, 3)) (hc : cells + rm.cells ≤ R.cells) (hs : slots + rm.slots ≤ R.slots)
    (k : ∀ (v : Option Value) (T' : State) (h' : Heap), St p l e R s m args below meth c n0 T' h' (cells + rm.cells) (slots + rm.slots) → Q v h' → Con p e below T' (mkF m (pc + 3) Ls (v.toList ++ rest)) P) : Con p e below T (mkF m pc Ls st) P := by
  obtain ⟨locs, X, e0, N, Z0⟩ := S
  obtain ⟨hx, hZ, hby, hown, hml, -⟩ := C
  obtain ⟨v, vm1, ⟨T', L', k', n'⟩, -, X', ⟨Lc, hQ, l1, y1, z1⟩, stp⟩ := X.specialBack hx (y := y) hy1 hown (mvT hZ w1) (mvT hZ w2) (mvT hZ w4) hy (backOf (W := W) (Q := fun v h L => Fr n0 L ∧ n0 ≤ h.size ∧ Q v h) hM hZ w4 w3 hf hl) (g := mkF m pc Ls st) rfl (by rw [hml]; exact hsz) (Steps.refl _) (a := a) (argsL := argsL) (rest := rest) (lenOf pd hn) hst (by show 2 * 0 + _ ≤ _; omega) (hb hby hd) (fun _ _ => ⟨ha, e0, hc, hs⟩)
  dsimp only [Pt.U, Pt.locs, Pt.cells, Pt.slots] at X' l1 y1 z1 stp hQ
  subst l1 y1 z1
  exact via (fun t z => stp.trans z) (k v T' _ ⟨_, X', rfl, Fr.app N hQ.1, hQ.2.1⟩ hQ.2.2)
theorem own_callV (S : St p l e R s m args below meth c n0 T h cells slots) (C : Cx p s Z m meth c bytes own maxL ret nm) {y : MethodName} {yb : ByteArray} {yL : Nat} {yr : Option FieldType} {rm : Room} {idx : Nat} {D : String} (w1 : (Jvm.Cond.methodLink own idx y).before a0 Z = true) (w2 : (Jvm.Cond.declares y).before a0 Z = true) (w3 : (Jvm.Cond.selects D y y).before a0 Z = true) (w4 : (Jvm.Cond.instanceMethod y).before a0 Z = true) (w5 : (Jvm.Cond.initialized y.cls).before a0 Z = true) (w6 : (Jvm.Cond.code y yb yL yr).before a0 Z = true)
    (hy : y.cls ≠ "java/lang/invoke/MethodHandle" ∧ y.cls ≠ "java/lang/invoke/VarHandle") {a : Addr} (E : Exa Z h a D) {as : Array Value} (hM : Mt l Z y yb yL yr [] rm as h n0 Q) (W : Nat) (hf : rm.frames + 1 ≤ R.frames) (hl : W + (yL + 11) + rm.locals ≤ R.locals) {ps : List FieldType} {r : Option FieldType} (pd : parseMethodDescriptor y.desc = some ⟨ps, r⟩) (argsL rest : List Value) (hn : argsL.length = ps.length) (ha : (.ref a :: argsL).toArray = as)
    (hst : st = argsL.reverse ++ .ref a :: rest) (hW : (rest.map fun v => v.category).sum ≤ W) (hsz : Ls.size = maxL) (hd : decode bytes pc = .ok (.invokevirtual idx, 3)) (hc : cells + rm.cells ≤ R.cells) (hs : slots + rm.slots ≤ R.slots)
    (k : ∀ (v : Option Value) (T' : State) (h' : Heap), St p l e R s m args below meth c n0 T' h' (cells + rm.cells) (slots + rm.slots) → Q v h' → Con p e below T' (mkF m (pc + 3) Ls (v.toList ++ rest)) P) : Con p e below T (mkF m pc Ls st) P := by
  obtain ⟨locs, X, e0, N, Z0⟩ := S
  obtain ⟨hx, hZ, hby, hown, hml, -⟩ := C
  obtain ⟨cq, kq, qa, qb, qc⟩ := isOf hZ e0 E
  obtain ⟨v, vm1, ⟨T', L', k', n'⟩, -, X', ⟨Lc, hQ, l1, y1, z1⟩, stp⟩ := X.virtualBack hx (y := y) (z := y) hown (mvT hZ w1) (mvT hZ w2) (notFace_of_selects (args := #[]) (mvT hZ w3)) (mvT hZ w3) (mvT hZ w4) hy (backOf (W := W) (Q := fun v h L => Fr n0 L ∧ n0 ≤ h.size ∧ Q v h) hM hZ w6 w5 hf hl) qa qc (g := mkF m pc Ls st) rfl (by rw [hml]; exact hsz) (Steps.refl _) (argsL := argsL) (rest := rest) (lenOf pd hn) hst (by show 2 * 0 + _ ≤ _; omega) (hb hby hd) (fun _ _ => ⟨ha, e0, hc, hs⟩)
  dsimp only [Pt.U, Pt.locs, Pt.cells, Pt.slots] at X' l1 y1 z1 stp hQ
  subst l1 y1 z1
  exact via (fun t z => stp.trans z) (k v T' _ ⟨_, X', rfl, Fr.app N hQ.1, hQ.2.1⟩ hQ.2.2)
theorem own_callU (S : St p l e R s m args below meth c n0 T h cells slots) (C : Cx p s Z m meth c bytes own maxL ret nm) {y z : MethodName} {yb : ByteArray} {yL : Nat} {yr : Option FieldType} {rm : Room} {idx : Nat} {D O : String} (w1 : (Jvm.Cond.methodLink own idx y).before a0 Z = true) (ws : (Jvm.Cond.sameMethod y.cls O y.name y.desc).before a0 Z = true) (w2 : (Jvm.Cond.declares ⟨O, y.name, y.desc⟩).before a0 Z = true) (w3 : (Jvm.Cond.selects D y z).before a0 Z = true) (w4 : (Jvm.Cond.instanceMethod z).before a0 Z = true) (w5 : (Jvm.Cond.initialized z.cls).before a0 Z = true) (w6 : (Jvm.Cond.code z yb yL yr).before a0 Z = true)
    (hy : O ≠ "java/lang/invoke/MethodHandle" ∧ O ≠ "java/lang/invoke/VarHandle") {a : Addr} (E : Exa Z h a D) {as : Array Value} (hM : Mt l Z z yb yL yr [] rm as h n0 Q) (W : Nat) (hf : rm.frames + 1 ≤ R.frames) (hl : W + (yL + 11) + rm.locals ≤ R.locals) {ps : List FieldType} {r : Option FieldType} (pd : parseMethodDescriptor y.desc = some ⟨ps, r⟩) (argsL rest : List Value) (hn : argsL.length = ps.length) (ha : (.ref a :: argsL).toArray = as)
    (hst : st = argsL.reverse ++ .ref a :: rest) (hW : (rest.map fun v => v.category).sum ≤ W) (hsz : Ls.size = maxL) (hd : decode bytes pc = .ok (.invokevirtual idx, 3)) (hc : cells + rm.cells ≤ R.cells) (hs : slots + rm.slots ≤ R.slots)
    (k : ∀ (v : Option Value) (T' : State) (h' : Heap), St p l e R s m args below meth c n0 T' h' (cells + rm.cells) (slots + rm.slots) → Q v h' → Con p e below T' (mkF m (pc + 3) Ls (v.toList ++ rest)) P) : Con p e below T (mkF m pc Ls st) P := by
  obtain ⟨locs, X, e0, N, Z0⟩ := S
  obtain ⟨hx, hZ, hby, hown, hml, -⟩ := C
  obtain ⟨cq, kq, qa, qb, qc⟩ := isOf hZ e0 E
  obtain ⟨v, vm1, ⟨T', L', k', n'⟩, -, X', ⟨Lc, hQ, l1, y1, z1⟩, stp⟩ := X.virtualBackUp hx (x := y) (y := z) (owner := O) hown (mvT hZ w1) (mvT hZ ws) (mvT hZ w2) hy (mvT hZ w3) (mvT hZ w4) (backOf (W := W) (Q := fun v h L => Fr n0 L ∧ n0 ≤ h.size ∧ Q v h) hM hZ w6 w5 hf hl) qa qc (g := mkF m pc Ls st) rfl (by rw [hml]; exact hsz) (Steps.refl _) (argsL := argsL) (rest := rest) (lenOf pd hn) hst (by show 2 * 0 + _ ≤ _; omega) (hb hby hd) (fun _ _ => ⟨ha, e0, hc, hs⟩)
  dsimp only [Pt.U, Pt.locs, Pt.cells, Pt.slots] at X' l1 y1 z1 stp hQ
  subst l1 y1 z1
  exact via (fun t z => stp.trans z) (k v T' _ ⟨_, X', rfl, Fr.app N hQ.1, hQ.2.1⟩ hQ.2.2)
/-! objects -/
theorem own_new (S : St p l e R s m args below meth c n0 T h cells slots) (C : Cx p s Z m meth c bytes own maxL ret nm) {D : String} {idx n : Nat} (w1 : (Jvm.Cond.classLink own idx D).before a0 Z = true) (w2 : (Jvm.Cond.instantiable D n).before a0 Z = true) (w3 : (Jvm.Cond.initialized D).before a0 Z = true) (hd : decode bytes pc = .ok (.new idx, 3)) (hc : cells + 1 ≤ R.cells) (hs : slots + n ≤ R.slots)
    (k : ∀ (T' : State) (h' : Heap) (a : Addr), a = h.size → St p l e R s m args below meth c n0 T' h' (cells + 1) (slots + n) → Ext h h' → n0 ≤ a → Exa Z h' a D → (∀ {O nm d : String} {ty : FieldType}, Laid Z a0 D O nm d → parseFieldDescriptor d = some ty → Fld Z h' a O nm d (defaultValue ty)) → Con p e below T' (mkF m (pc + 3) Ls (.ref a :: st)) P) : Con p e below T (mkF m pc Ls st) P := by
  obtain ⟨locs, X, e0, N, Z0⟩ := S
  obtain ⟨hx, hZ, hby, hown, -⟩ := C
  obtain ⟨T', h', X', e', E, A, D', -, stp⟩ := newO X hx hZ hown w1 w2 w3 e0 (g := mkF m pc Ls st) rfl (hb hby hd) hc hs
  exact via stp (k T' h' h.size rfl ⟨locs, X', e', N, Nat.le_trans Z0 E.1⟩ E Z0 A D')
theorem own_getf (S : St p l e R s m args below meth c n0 T h cells slots) (C : Cx p s Z m meth c bytes own maxL ret nm) {O f d : String} {idx : Nat} (w : (Jvm.Cond.fieldLink own idx O f d).before a0 Z = true) {a : Addr} {v : Value} (F : Fld Z h a O f d v) (hd : decode bytes pc = .ok (.getfield idx, 3))
    (k : ∀ T' : State, St p l e R s m args below meth c n0 T' h cells slots → Con p e below T' (mkF m (pc + 3) Ls (v :: st)) P) : Con p e below T (mkF m pc Ls (.ref a :: st)) P := by
  obtain ⟨locs, X, e0, N, Z0⟩ := S
  obtain ⟨hx, hZ, hby, hown, -⟩ := C
  obtain ⟨T', X', e', stp⟩ := getF X hx hZ hown (host := "") (Or.inl w) Via.refl e0 F (g := mkF m pc Ls (.ref a :: st)) rfl rfl (hb hby hd)
  exact via stp (k T' ⟨locs, X', e', N, Z0⟩)
theorem own_putf (S : St p l e R s m args below meth c n0 T h cells slots) (C : Cx p s Z m meth c bytes own maxL ret nm) {O f d D : String} {idx kk : Nat} {ty : FieldType} (w : (Jvm.Cond.fieldLink own idx O f d).before a0 Z = true) {a : Addr} {v old : Value} (F : Fld Z h a O f d old) (E : Exa Z h a D) (L : (Jvm.Cond.lays D O f d).before a0 Z = true ∨ ((Jvm.Cond.laysFinal D O f d).before a0 Z = true ∧ own = O ∧ nm = "<init>")) (wi : (Jvm.Cond.instantiable D kk).before a0 Z = true) (hty : parseFieldDescriptor d = some ty) (hn : narrow ty v = v) (hf : fits ty v = true) (ge : n0 ≤ a) (hd : decode bytes pc = .ok (.putfield idx, 3))
    (k : ∀ (T' : State) (h' : Heap), St p l e R s m args below meth c n0 T' h' cells slots → Wr h h' a (Jvm.RoadKit.slotOf Z O f d) v → Con p e below T' (mkF m (pc + 3) Ls st) P) : Con p e below T (mkF m pc Ls (v :: .ref a :: st)) P := by
  obtain ⟨locs, X, e0, N, Z0⟩ := S
  obtain ⟨hx, hZ, hby, hown, -, -, -, hnm⟩ := C
  obtain ⟨T', h', X', e', W, stp⟩ := putF X hx hZ hown (host := "") (Or.inl w) Via.refl e0 F E (L.imp id fun q => ⟨q.1, q.2.1, hnm.trans q.2.2⟩) wi hty hn hf (g := mkF m pc Ls (v :: .ref a :: st)) rfl rfl (hb hby hd)
  exact via stp (k T' h' ⟨_, X', e', Fr.snoc X' N ge, Nat.le_trans Z0 (Keep.of_wr W).1⟩ W)
end OwnKit2
section OwnKit3
variable {p : Program} {l : Launch} {e : Env} {R : Room} {s : State} {m : MethodId} {args : Array Value} {below : List Frame} {meth : Method} {c : Code} {T : State} {h h' : Heap} {cells slots n0 : Nat} {Z : State} {a0 : Array Value} {bytes : ByteArray} {own : String} {maxL : Nat} {ret : Option FieldType} {nm : String} {P : State → Outcome → Prop} {pc pc' : Nat} {Ls Ls' : Array Slot} {st : List Value}
/-- a slot that holds nothing or one word -/
def Sl (o : Slot) : Prop := o = .unset ∨ ∃ w : Value, o = .val w ∧ w.category = 1
theorem Sl.i (x : Int32) : Sl (.val (.int x)) := Or.inr ⟨_, rfl, rfl⟩
theorem Sl.u : Sl .unset := Or.inl rfl
theorem own_istoreG (S : St p l e R s m args below meth c n0 T h cells slots) (C : Cx p s Z m meth c bytes own maxL ret nm) {k : Nat} {x : Int32} {o : Slot} (ho : Sl o) (hd : decode bytes pc = .ok (.istore k, 2)) (hold : Ls[k]? = some o) (hL : Ls.setIfInBounds k (.val (.int x)) = Ls')
    (q : Con p e below T (mkF m (pc + 2) Ls' st) P) : Con p e below T (mkF m pc Ls (.int x :: st)) P := by
  obtain ⟨locs, X, -⟩ := S
  obtain ⟨hx, -, hby, -⟩ := C
  subst hL
  exact via (fun t z => XS.istoreS X.here hx rfl (hb hby hd) rfl hold ho z) q
theorem own_istoreGN (S : St p l e R s m args below meth c n0 T h cells slots) (C : Cx p s Z m meth c bytes own maxL ret nm) {k : Fin 4} {x : Int32} {o : Slot} (ho : Sl o) (hd : decode bytes pc = .ok (.istore_n k, 1)) (hold : Ls[k.val]? = some o) (hL : Ls.setIfInBounds k.val (.val (.int x)) = Ls')
    (q : Con p e below T (mkF m (pc + 1) Ls' st) P) : Con p e below T (mkF m pc Ls (.int x :: st)) P := by
  obtain ⟨locs, X, -⟩ := S
  obtain ⟨hx, -, hby, -⟩ := C
  subst hL
  exact via (fun t z => XS.istoreNS X.here hx rfl (hb hby hd) rfl hold ho z) q
theorem own_ne {a b : Addr} (l : a < h.size) (e : b = h.size) : a ≠ b := by rw [e]; exact Nat.ne_of_lt l
theorem own_nl {a b : Addr} (l : a < h.size) (e : b = h.size) : @LT.lt Nat _ a b := by rw [e]; exact l
theorem St.size (S : St p l e R s m args below meth c n0 T h cells slots) : n0 ≤ h.size := by obtain ⟨_, _, _, _, q⟩ := S; exact q
end OwnKit3
/-! numbers -/
theorem own_toInt (x : Int32) : x.toInt = x.toBitVec.toInt := rfl
theorem own_and_le (x m : Int32) (hm : 0 ≤ m.toInt) : 0 ≤ (x &&& m).toInt ∧ (x &&& m).toInt ≤ m.toInt := by
  have h1 : (x &&& m).toBitVec.toNat ≤ m.toBitVec.toNat := by rw [Int32.toBitVec_and, BitVec.toNat_and]; exact Nat.and_le_right
  have h2 := (x &&& m).toBitVec.isLt
  have h3 := m.toBitVec.isLt
  rw [own_toInt, BitVec.toInt_eq_toNat_cond] at hm ⊢
  rw [own_toInt m, BitVec.toInt_eq_toNat_cond]
  split at hm
  · rw [if_pos (by omega), if_pos (by omega)]; omega
  · omega
theorem own_add {x y : Int32} (h1 : -2147483648 ≤ x.toInt + y.toInt) (h2 : x.toInt + y.toInt < 2147483648) : (x + y).toInt = x.toInt + y.toInt := by
  rw [Int32.toInt_add]; exact Int.bmod_eq_of_le (by omega) (by omega)
theorem own_sub {x y : Int32} (h1 : -2147483648 ≤ x.toInt - y.toInt) (h2 : x.toInt - y.toInt < 2147483648) : (x - y).toInt = x.toInt - y.toInt := by
  rw [Int32.toInt_sub]; exact Int.bmod_eq_of_le (by omega) (by omega)
theorem own_div {x y : Int32} (hx : 0 ≤ x.toInt) (hy : 0 < y.toInt) : (x / y).toInt = x.toInt / y.toInt := by
  have h1 := x.toInt_lt
  have h2 : x.toInt / y.toInt ≤ x.toInt := Int.ediv_le_self _ hx
  have h3 : 0 ≤ x.toInt / y.toInt := Int.ediv_nonneg hx (by omega)
  rw [Int32.toInt_div, Int.tdiv_eq_ediv_of_nonneg hx]
  exact Int.bmod_eq_of_le (by omega) (by omega)
theorem own_rem {x y : Int32} (hx : 0 ≤ x.toInt) (hy : 0 < y.toInt) : (x - x / y * y).toInt = x.toInt % y.toInt := by
  have h1 := x.toInt_lt
  have hd := own_div hx hy
  have e1 : x.toInt / y.toInt * y.toInt + x.toInt % y.toInt = x.toInt := Int.ediv_mul_add_emod _ _
  have h3 : 0 ≤ x.toInt % y.toInt := Int.emod_nonneg _ (by omega)
  have h4 : 0 ≤ x.toInt / y.toInt := Int.ediv_nonneg hx (by omega)
  have h5 : 0 ≤ x.toInt / y.toInt * y.toInt := Int.mul_nonneg h4 (by omega)
  have hm : (x / y * y).toInt = x.toInt / y.toInt * y.toInt := by
    rw [Int32.toInt_mul, hd]; exact Int.bmod_eq_of_le (by omega) (by omega)
  rw [own_sub (by rw [hm]; omega) (by rw [hm]; omega), hm]; omega
theorem own_ofNat {x : Int32} (h : 0 ≤ x.toInt) : x = Int32.ofNat x.toInt.toNat := by
  apply Int32.toInt_inj.mp
  have := x.toInt_lt
  rw [Int32.toInt_ofNat_of_lt (by omega)]; omega
theorem own_n2 {n : Nat} (h : n < 2147483648) : (Int32.ofNat n).toInt = (n : Int) := Int32.toInt_ofNat_of_lt h
theorem own_n3 {n : Nat} (h : n < 2147483648) : (Int32.ofNat n).toNatClampNeg = n := by
  rw [show (Int32.ofNat n).toNatClampNeg = (Int32.ofNat n).toInt.toNat from rfl, own_n2 h]; rfl
theorem own_succ (n : Nat) : Int32.ofNat n + (1 : Int32) = Int32.ofNat (n + 1) := (Int32.ofNat_add n 1).symm
theorem own_ushr (x k : Int32) (n : Nat) (hk : (k &&& 31).toUInt32.toNat = n) (h1 : 1 ≤ n) (h2 : n < 32) : 0 ≤ (XT.ushr x k).toInt ∧ (XT.ushr x k).toInt < 2 ^ (32 - n) := by
  have e : (XT.ushr x k).toBitVec.toNat = x.toUInt32.toNat >>> n := by
    show (x.toUInt32 >>> (k &&& 31).toUInt32).toNat = _
    rw [UInt32.toNat_shiftRight, hk, Nat.mod_eq_of_lt h2]
  have hx := x.toUInt32.toNat_lt
  have hb : x.toUInt32.toNat >>> n < 2 ^ (32 - n) := by
    rw [Nat.shiftRight_eq_div_pow]
    apply Nat.div_lt_of_lt_mul
    rw [← Nat.pow_add, show n + (32 - n) = 32 by omega]; exact hx
  have hp : 2 ^ (32 - n) ≤ 2 ^ 31 := Nat.pow_le_pow_right (by decide) (by omega)
  rw [own_toInt, BitVec.toInt_eq_toNat_cond, e, if_pos (by omega)]
  exact ⟨Int.natCast_nonneg _, by exact_mod_cast hb⟩
def own_isChar (b : Int32) : Int32 := (if if_icmp.holds .eq b (9 : Int32) = true then (1 : Int32) else (if if_icmp.holds .eq b (10 : Int32) = true then (1 : Int32) else (if if_icmp.holds .eq b (13 : Int32) = true then (1 : Int32) else (if if_icmp.holds .lt b (32 : Int32) = true then (if if_icmp.holds .lt b (57344 : Int32) = true then (if if_icmp.holds .lt b (65536 : Int32) = true then (0 : Int32) else (if if_icmp.holds .gt b (1114111 : Int32) = true then (0 : Int32) else (1 : Int32))) else (if if_icmp.holds .le b (65533 : Int32) = true then (1 : Int32) else (if if_icmp.holds .lt b (65536 : Int32) = true then (0 : Int32) else (if if_icmp.holds .gt b (1114111 : Int32) = true then (0 : Int32) else (1 : Int32))))) else (if if_icmp.holds .le b (55295 : Int32) = true then (1 : Int32) else (if if_icmp.holds .lt b (57344 : Int32) = true then (if if_icmp.holds .lt b (65536 : Int32) = true then (0 : Int32) else (if if_icmp.holds .gt b (1114111 : Int32) = true then (0 : Int32) else (1 : Int32))) else (if if_icmp.holds .le b (65533 : Int32) = true then (1 : Int32) else (if if_icmp.holds .lt b (65536 : Int32) = true then (0 : Int32) else (if if_icmp.holds .gt b (1114111 : Int32) = true then (0 : Int32) else (1 : Int32))))))))))
theorem ef_own_isChar (m : MethodId) (b : Int32) : entryFrame m #[(.int b)] 1 = mkF m 0 #[.val (.int b)] [] := by first | (simp [entryFrame, mkF, argsToLocals, Value.category]; done) | rfl
theorem pn_own_isChar : plainFor (⟨"com/example/klarbrief/klarbrief/core/XmlCharacters", "isChar", "(I)Z"⟩ : MethodName) = true := by first | (exact plainFor_of_name (by first | (simp [plainName, overriddenIn]; done) | decide +kernel)) | decide +kernel
set_option maxRecDepth 65536 in
set_option maxHeartbeats 40000000 in
theorem rm_own_isChar (l : Launch) (Z : State) (a0 : Array Value) (hw : ∀ d ∈ tables_1, d.before a0 Z = true) (ws : List Jvm.Cond) (b : Int32) (h : Heap) (n0 : Nat) (Z0 : n0 ≤ h.size) :
    Mt l Z (⟨"com/example/klarbrief/klarbrief/core/XmlCharacters", "isChar", "(I)Z"⟩ : MethodName) prog_107_method_5_code 1 (some .boolean) ws ({ frames := 0, cells := 0, slots := 0, locals := 0 } : Room) #[(.int b)] h n0 (fun v h' => v = some (.int (own_isChar b)) ∧ h' = h) := by
  refine Mt.of (own := "com/example/klarbrief/klarbrief/core/XmlCharacters") (nm := "isChar") pn_own_isChar Z0 (Ls := #[.val (.int b)]) (fun m => ef_own_isChar m b) rfl rfl (fun p e s m below meth c T C S => ?_)
  obtain ⟨r, hr⟩ : ∃ r, own_isChar b = r := ⟨_, rfl⟩
  rw [hr]
  unfold own_isChar at hr
  refine own_run S C [.iload_n 0, .bipush 9] (pc' := 3) (Ls' := #[.val (.int b)]) (st' := [(.int (9 : Int32)), (.int b)]) (by decide +kernel) rfl ?_
  refine own_icmp S C (cd := .eq) (o := 51) (by decide +kernel) (pc' := 54) ⟨by decide, by decide⟩ (fun hc3_0 => ?_) (fun hc3_0 => ?_)
  · skip
    rw [if_pos hc3_0] at hr
    refine own_run S C [.iconst 1, .goto 4] (pc' := 59) (Ls' := #[.val (.int b)]) (st' := [(.int (1 : Int32))]) (by decide +kernel) rfl ?_
    subst hr
    exact own_retz S C (z' := (1 : Int32)) (by decide) (by decide +kernel) (Nat.zero_le _) (Nat.zero_le _) ⟨rfl, rfl⟩
  · skip
    rw [if_neg (Bool.eq_false_iff.mp hc3_0)] at hr
    refine own_run S C [.iload_n 0, .bipush 10] (pc' := 9) (Ls' := #[.val (.int b)]) (st' := [(.int (10 : Int32)), (.int b)]) (by decide +kernel) rfl ?_
    refine own_icmp S C (cd := .eq) (o := 45) (by decide +kernel) (pc' := 54) ⟨by decide, by decide⟩ (fun hc9_1 => ?_) (fun hc9_1 => ?_)
    · skip
      rw [if_pos hc9_1] at hr
      refine own_run S C [.iconst 1, .goto 4] (pc' := 59) (Ls' := #[.val (.int b)]) (st' := [(.int (1 : Int32))]) (by decide +kernel) rfl ?_
      subst hr
      exact own_retz S C (z' := (1 : Int32)) (by decide) (by decide +kernel) (Nat.zero_le _) (Nat.zero_le _) ⟨rfl, rfl⟩
    · skip
      rw [if_neg (Bool.eq_false_iff.mp hc9_1)] at hr
      refine own_run S C [.iload_n 0, .bipush 13] (pc' := 15) (Ls' := #[.val (.int b)]) (st' := [(.int (13 : Int32)), (.int b)]) (by decide +kernel) rfl ?_
      refine own_icmp S C (cd := .eq) (o := 39) (by decide +kernel) (pc' := 54) ⟨by decide, by decide⟩ (fun hc15_2 => ?_) (fun hc15_2 => ?_)
      · skip
        rw [if_pos hc15_2] at hr
        refine own_run S C [.iconst 1, .goto 4] (pc' := 59) (Ls' := #[.val (.int b)]) (st' := [(.int (1 : Int32))]) (by decide +kernel) rfl ?_
        subst hr
        exact own_retz S C (z' := (1 : Int32)) (by decide) (by decide +kernel) (Nat.zero_le _) (Nat.zero_le _) ⟨rfl, rfl⟩
      · skip
        rw [if_neg (Bool.eq_false_iff.mp hc15_2)] at hr
        refine own_run S C [.iload_n 0, .bipush 32] (pc' := 21) (Ls' := #[.val (.int b)]) (st' := [(.int (32 : Int32)), (.int b)]) (by decide +kernel) rfl ?_
        refine own_icmp S C (cd := .lt) (o := 9) (by decide +kernel) (pc' := 30) ⟨by decide, by decide⟩ (fun hc21_3 => ?_) (fun hc21_3 => ?_)
        · skip
          rw [if_pos hc21_3] at hr
          refine own_run S C [.iload_n 0] (pc' := 31) (Ls' := #[.val (.int b)]) (st' := [(.int b)]) (by decide +kernel) rfl ?_
          refine own_ldc S C (hw _ (List.mem_of_getElem? (i := 15) rfl)) (by decide +kernel) ?_
          show Con p e below _ (mkF m 33 #[.val (.int b)] [(.int (57344 : Int32)), (.int b)]) _
          refine own_icmp S C (cd := .lt) (o := 9) (by decide +kernel) (pc' := 42) ⟨by decide, by decide⟩ (fun hc33_4 => ?_) (fun hc33_4 => ?_)
          · skip
            rw [if_pos hc33_4] at hr
            refine own_run S C [.iload_n 0] (pc' := 43) (Ls' := #[.val (.int b)]) (st' := [(.int b)]) (by decide +kernel) rfl ?_
            refine own_ldc S C (hw _ (List.mem_of_getElem? (i := 16) rfl)) (by decide +kernel) ?_
            show Con p e below _ (mkF m 45 #[.val (.int b)] [(.int (65536 : Int32)), (.int b)]) _
            refine own_icmp S C (cd := .lt) (o := 13) (by decide +kernel) (pc' := 58) ⟨by decide, by decide⟩ (fun hc45_5 => ?_) (fun hc45_5 => ?_)
            · skip
              rw [if_pos hc45_5] at hr
              refine own_run S C [.iconst 0] (pc' := 59) (Ls' := #[.val (.int b)]) (st' := [(.int (0 : Int32))]) (by decide +kernel) rfl ?_
              subst hr
              exact own_retz S C (z' := (0 : Int32)) (by decide) (by decide +kernel) (Nat.zero_le _) (Nat.zero_le _) ⟨rfl, rfl⟩
            · skip
              rw [if_neg (Bool.eq_false_iff.mp hc45_5)] at hr
              refine own_run S C [.iload_n 0] (pc' := 49) (Ls' := #[.val (.int b)]) (st' := [(.int b)]) (by decide +kernel) rfl ?_
              refine own_ldc S C (hw _ (List.mem_of_getElem? (i := 20) rfl)) (by decide +kernel) ?_
              show Con p e below _ (mkF m 51 #[.val (.int b)] [(.int (1114111 : Int32)), (.int b)]) _
              refine own_icmp S C (cd := .gt) (o := 7) (by decide +kernel) (pc' := 58) ⟨by decide, by decide⟩ (fun hc51_6 => ?_) (fun hc51_6 => ?_)
              · skip
                rw [if_pos hc51_6] at hr
                refine own_run S C [.iconst 0] (pc' := 59) (Ls' := #[.val (.int b)]) (st' := [(.int (0 : Int32))]) (by decide +kernel) rfl ?_
                subst hr
                exact own_retz S C (z' := (0 : Int32)) (by decide) (by decide +kernel) (Nat.zero_le _) (Nat.zero_le _) ⟨rfl, rfl⟩
              · skip
                rw [if_neg (Bool.eq_false_iff.mp hc51_6)] at hr
                refine own_run S C [.iconst 1, .goto 4] (pc' := 59) (Ls' := #[.val (.int b)]) (st' := [(.int (1 : Int32))]) (by decide +kernel) rfl ?_
                subst hr
                exact own_retz S C (z' := (1 : Int32)) (by decide) (by decide +kernel) (Nat.zero_le _) (Nat.zero_le _) ⟨rfl, rfl⟩
          · skip
            rw [if_neg (Bool.eq_false_iff.mp hc33_4)] at hr
            refine own_run S C [.iload_n 0] (pc' := 37) (Ls' := #[.val (.int b)]) (st' := [(.int b)]) (by decide +kernel) rfl ?_
            refine own_ldc S C (hw _ (List.mem_of_getElem? (i := 19) rfl)) (by decide +kernel) ?_
            show Con p e below _ (mkF m 39 #[.val (.int b)] [(.int (65533 : Int32)), (.int b)]) _
            refine own_icmp S C (cd := .le) (o := 15) (by decide +kernel) (pc' := 54) ⟨by decide, by decide⟩ (fun hc39_5 => ?_) (fun hc39_5 => ?_)
            · skip
              rw [if_pos hc39_5] at hr
              refine own_run S C [.iconst 1, .goto 4] (pc' := 59) (Ls' := #[.val (.int b)]) (st' := [(.int (1 : Int32))]) (by decide +kernel) rfl ?_
              subst hr
              exact own_retz S C (z' := (1 : Int32)) (by decide) (by decide +kernel) (Nat.zero_le _) (Nat.zero_le _) ⟨rfl, rfl⟩
            · skip
              rw [if_neg (Bool.eq_false_iff.mp hc39_5)] at hr
              refine own_run S C [.iload_n 0] (pc' := 43) (Ls' := #[.val (.int b)]) (st' := [(.int b)]) (by decide +kernel) rfl ?_
              refine own_ldc S C (hw _ (List.mem_of_getElem? (i := 16) rfl)) (by decide +kernel) ?_
              show Con p e below _ (mkF m 45 #[.val (.int b)] [(.int (65536 : Int32)), (.int b)]) _
              refine own_icmp S C (cd := .lt) (o := 13) (by decide +kernel) (pc' := 58) ⟨by decide, by decide⟩ (fun hc45_6 => ?_) (fun hc45_6 => ?_)
              · skip
                rw [if_pos hc45_6] at hr
                refine own_run S C [.iconst 0] (pc' := 59) (Ls' := #[.val (.int b)]) (st' := [(.int (0 : Int32))]) (by decide +kernel) rfl ?_
                subst hr
                exact own_retz S C (z' := (0 : Int32)) (by decide) (by decide +kernel) (Nat.zero_le _) (Nat.zero_le _) ⟨rfl, rfl⟩
              · skip
                rw [if_neg (Bool.eq_false_iff.mp hc45_6)] at hr
                refine own_run S C [.iload_n 0] (pc' := 49) (Ls' := #[.val (.int b)]) (st' := [(.int b)]) (by decide +kernel) rfl ?_
                refine own_ldc S C (hw _ (List.mem_of_getElem? (i := 20) rfl)) (by decide +kernel) ?_
                show Con p e below _ (mkF m 51 #[.val (.int b)] [(.int (1114111 : Int32)), (.int b)]) _
                refine own_icmp S C (cd := .gt) (o := 7) (by decide +kernel) (pc' := 58) ⟨by decide, by decide⟩ (fun hc51_7 => ?_) (fun hc51_7 => ?_)
                · skip
                  rw [if_pos hc51_7] at hr
                  refine own_run S C [.iconst 0] (pc' := 59) (Ls' := #[.val (.int b)]) (st' := [(.int (0 : Int32))]) (by decide +kernel) rfl ?_
                  subst hr
                  exact own_retz S C (z' := (0 : Int32)) (by decide) (by decide +kernel) (Nat.zero_le _) (Nat.zero_le _) ⟨rfl, rfl⟩
                · skip
                  rw [if_neg (Bool.eq_false_iff.mp hc51_7)] at hr
                  refine own_run S C [.iconst 1, .goto 4] (pc' := 59) (Ls' := #[.val (.int b)]) (st' := [(.int (1 : Int32))]) (by decide +kernel) rfl ?_
                  subst hr
                  exact own_retz S C (z' := (1 : Int32)) (by decide) (by decide +kernel) (Nat.zero_le _) (Nat.zero_le _) ⟨rfl, rfl⟩
        · skip
          rw [if_neg (Bool.eq_false_iff.mp hc21_3)] at hr
          refine own_run S C [.iload_n 0] (pc' := 25) (Ls' := #[.val (.int b)]) (st' := [(.int b)]) (by decide +kernel) rfl ?_
          refine own_ldc S C (hw _ (List.mem_of_getElem? (i := 18) rfl)) (by decide +kernel) ?_
          show Con p e below _ (mkF m 27 #[.val (.int b)] [(.int (55295 : Int32)), (.int b)]) _
          refine own_icmp S C (cd := .le) (o := 27) (by decide +kernel) (pc' := 54) ⟨by decide, by decide⟩ (fun hc27_4 => ?_) (fun hc27_4 => ?_)
          · skip
            rw [if_pos hc27_4] at hr
            refine own_run S C [.iconst 1, .goto 4] (pc' := 59) (Ls' := #[.val (.int b)]) (st' := [(.int (1 : Int32))]) (by decide +kernel) rfl ?_
            subst hr
            exact own_retz S C (z' := (1 : Int32)) (by decide) (by decide +kernel) (Nat.zero_le _) (Nat.zero_le _) ⟨rfl, rfl⟩
          · skip
            rw [if_neg (Bool.eq_false_iff.mp hc27_4)] at hr
            refine own_run S C [.iload_n 0] (pc' := 31) (Ls' := #[.val (.int b)]) (st' := [(.int b)]) (by decide +kernel) rfl ?_
            refine own_ldc S C (hw _ (List.mem_of_getElem? (i := 15) rfl)) (by decide +kernel) ?_
            show Con p e below _ (mkF m 33 #[.val (.int b)] [(.int (57344 : Int32)), (.int b)]) _
            refine own_icmp S C (cd := .lt) (o := 9) (by decide +kernel) (pc' := 42) ⟨by decide, by decide⟩ (fun hc33_5 => ?_) (fun hc33_5 => ?_)
            · skip
              rw [if_pos hc33_5] at hr
              refine own_run S C [.iload_n 0] (pc' := 43) (Ls' := #[.val (.int b)]) (st' := [(.int b)]) (by decide +kernel) rfl ?_
              refine own_ldc S C (hw _ (List.mem_of_getElem? (i := 16) rfl)) (by decide +kernel) ?_
              show Con p e below _ (mkF m 45 #[.val (.int b)] [(.int (65536 : Int32)), (.int b)]) _
              refine own_icmp S C (cd := .lt) (o := 13) (by decide +kernel) (pc' := 58) ⟨by decide, by decide⟩ (fun hc45_6 => ?_) (fun hc45_6 => ?_)
              · skip
                rw [if_pos hc45_6] at hr
                refine own_run S C [.iconst 0] (pc' := 59) (Ls' := #[.val (.int b)]) (st' := [(.int (0 : Int32))]) (by decide +kernel) rfl ?_
                subst hr
                exact own_retz S C (z' := (0 : Int32)) (by decide) (by decide +kernel) (Nat.zero_le _) (Nat.zero_le _) ⟨rfl, rfl⟩
              · skip
                rw [if_neg (Bool.eq_false_iff.mp hc45_6)] at hr
                refine own_run S C [.iload_n 0] (pc' := 49) (Ls' := #[.val (.int b)]) (st' := [(.int b)]) (by decide +kernel) rfl ?_
                refine own_ldc S C (hw _ (List.mem_of_getElem? (i := 20) rfl)) (by decide +kernel) ?_
                show Con p e below _ (mkF m 51 #[.val (.int b)] [(.int (1114111 : Int32)), (.int b)]) _
                refine own_icmp S C (cd := .gt) (o := 7) (by decide +kernel) (pc' := 58) ⟨by decide, by decide⟩ (fun hc51_7 => ?_) (fun hc51_7 => ?_)
                · skip
                  rw [if_pos hc51_7] at hr
                  refine own_run S C [.iconst 0] (pc' := 59) (Ls' := #[.val (.int b)]) (st' := [(.int (0 : Int32))]) (by decide +kernel) rfl ?_
                  subst hr
                  exact own_retz S C (z' := (0 : Int32)) (by decide) (by decide +kernel) (Nat.zero_le _) (Nat.zero_le _) ⟨rfl, rfl⟩
                · skip
                  rw [if_neg (Bool.eq_false_iff.mp hc51_7)] at hr
                  refine own_run S C [.iconst 1, .goto 4] (pc' := 59) (Ls' := #[.val (.int b)]) (st' := [(.int (1 : Int32))]) (by decide +kernel) rfl ?_
                  subst hr
                  exact own_retz S C (z' := (1 : Int32)) (by decide) (by decide +kernel) (Nat.zero_le _) (Nat.zero_le _) ⟨rfl, rfl⟩
            · skip
              rw [if_neg (Bool.eq_false_iff.mp hc33_5)] at hr
              refine own_run S C [.iload_n 0] (pc' := 37) (Ls' := #[.val (.int b)]) (st' := [(.int b)]) (by decide +kernel) rfl ?_
              refine own_ldc S C (hw _ (List.mem_of_getElem? (i := 19) rfl)) (by decide +kernel) ?_
              show Con p e below _ (mkF m 39 #[.val (.int b)] [(.int (65533 : Int32)), (.int b)]) _
              refine own_icmp S C (cd := .le) (o := 15) (by decide +kernel) (pc' := 54) ⟨by decide, by decide⟩ (fun hc39_6 => ?_) (fun hc39_6 => ?_)
              · skip
                rw [if_pos hc39_6] at hr
                refine own_run S C [.iconst 1, .goto 4] (pc' := 59) (Ls' := #[.val (.int b)]) (st' := [(.int (1 : Int32))]) (by decide +kernel) rfl ?_
                subst hr
                exact own_retz S C (z' := (1 : Int32)) (by decide) (by decide +kernel) (Nat.zero_le _) (Nat.zero_le _) ⟨rfl, rfl⟩
              · skip
                rw [if_neg (Bool.eq_false_iff.mp hc39_6)] at hr
                refine own_run S C [.iload_n 0] (pc' := 43) (Ls' := #[.val (.int b)]) (st' := [(.int b)]) (by decide +kernel) rfl ?_
                refine own_ldc S C (hw _ (List.mem_of_getElem? (i := 16) rfl)) (by decide +kernel) ?_
                show Con p e below _ (mkF m 45 #[.val (.int b)] [(.int (65536 : Int32)), (.int b)]) _
                refine own_icmp S C (cd := .lt) (o := 13) (by decide +kernel) (pc' := 58) ⟨by decide, by decide⟩ (fun hc45_7 => ?_) (fun hc45_7 => ?_)
                · skip
                  rw [if_pos hc45_7] at hr
                  refine own_run S C [.iconst 0] (pc' := 59) (Ls' := #[.val (.int b)]) (st' := [(.int (0 : Int32))]) (by decide +kernel) rfl ?_
                  subst hr
                  exact own_retz S C (z' := (0 : Int32)) (by decide) (by decide +kernel) (Nat.zero_le _) (Nat.zero_le _) ⟨rfl, rfl⟩
                · skip
                  rw [if_neg (Bool.eq_false_iff.mp hc45_7)] at hr
                  refine own_run S C [.iload_n 0] (pc' := 49) (Ls' := #[.val (.int b)]) (st' := [(.int b)]) (by decide +kernel) rfl ?_
                  refine own_ldc S C (hw _ (List.mem_of_getElem? (i := 20) rfl)) (by decide +kernel) ?_
                  show Con p e below _ (mkF m 51 #[.val (.int b)] [(.int (1114111 : Int32)), (.int b)]) _
                  refine own_icmp S C (cd := .gt) (o := 7) (by decide +kernel) (pc' := 58) ⟨by decide, by decide⟩ (fun hc51_8 => ?_) (fun hc51_8 => ?_)
                  · skip
                    rw [if_pos hc51_8] at hr
                    refine own_run S C [.iconst 0] (pc' := 59) (Ls' := #[.val (.int b)]) (st' := [(.int (0 : Int32))]) (by decide +kernel) rfl ?_
                    subst hr
                    exact own_retz S C (z' := (0 : Int32)) (by decide) (by decide +kernel) (Nat.zero_le _) (Nat.zero_le _) ⟨rfl, rfl⟩
                  · skip
                    rw [if_neg (Bool.eq_false_iff.mp hc51_8)] at hr
                    refine own_run S C [.iconst 1, .goto 4] (pc' := 59) (Ls' := #[.val (.int b)]) (st' := [(.int (1 : Int32))]) (by decide +kernel) rfl ?_
                    subst hr
                    exact own_retz S C (z' := (1 : Int32)) (by decide) (by decide +kernel) (Nat.zero_le _) (Nat.zero_le _) ⟨rfl, rfl⟩

def own_E (c : Int32) : Prop := c.toInt < 0 ∨ (c.toInt < 32 ∧ c.toInt ≠ 9 ∧ c.toInt ≠ 10 ∧ c.toInt ≠ 13) ∨ (55296 ≤ c.toInt ∧ c.toInt ≤ 57343) ∨ c.toInt = 65534 ∨ c.toInt = 65535 ∨ 1114111 < c.toInt
theorem own_spec (c : Int32) : (own_isChar c = 1 ∧ ¬ own_E c) ∨ (own_isChar c = 0 ∧ own_E c) := by
  have l9 : (9 : Int32).toInt = 9 := rfl
  have l10 : (10 : Int32).toInt = 10 := rfl
  have l13 : (13 : Int32).toInt = 13 := rfl
  have l32 : (32 : Int32).toInt = 32 := rfl
  have l1 : (55295 : Int32).toInt = 55295 := rfl
  have l2 : (57344 : Int32).toInt = 57344 := rfl
  have l3 : (65533 : Int32).toInt = 65533 := rfl
  have l4 : (65536 : Int32).toInt = 65536 := rfl
  have l5 : (1114111 : Int32).toInt = 1114111 := rfl
  unfold own_isChar own_E
  simp only [(hh_lt).1, (hh_gt).1, (hh_le).1, (hh_eq).1, l9, l10, l13, l32, l1, l2, l3, l4, l5]
  repeat' split
  all_goals first | exact Or.inl ⟨rfl, by omega⟩ | exact Or.inr ⟨rfl, by omega⟩
theorem ef_law (m : MethodId) (x0 : Int32) (x1 : Int32) (x2 : Int32) : entryFrame m #[(.int x0), (.int x1), (.int x2)] maxLocals = mkF m 0 #[.val (.int x0), .val (.int x1), .val (.int x2), .unset, .unset, .unset] [] := by first | (simp [entryFrame, mkF, argsToLocals, Value.category, maxLocals]; done) | rfl
theorem pn_law : plainFor (⟨"com/example/klarbrief/klarbrief/core/XmlCharactersIsCharPinLaw", "law", "(III)Z"⟩ : MethodName) = true := by first | (exact plainFor_of_name (by first | (simp [plainName, overriddenIn]; done) | decide +kernel)) | decide +kernel
set_option maxRecDepth 65536 in
set_option maxHeartbeats 40000000 in
theorem rm_law (l : Launch) (Z : State) (a0 : Array Value) (hw : ∀ d ∈ tables_1, d.before a0 Z = true) (ws : List Jvm.Cond) (x0 : Int32) (x1 : Int32) (x2 : Int32) (h : Heap) (n0 : Nat) (Z0 : n0 ≤ h.size) :
    Mt l Z x code maxLocals ret ws room_1 #[(.int x0), (.int x1), (.int x2)] h n0 (fun v _ => v = some (.int 1)) := by
  refine Mt.of (own := "com/example/klarbrief/klarbrief/core/XmlCharactersIsCharPinLaw") (nm := "law") pn_law Z0 (Ls := #[.val (.int x0), .val (.int x1), .val (.int x2), .unset, .unset, .unset]) (fun m => ef_law m x0 x1 x2) rfl rfl (fun p e s m below meth c T C S => ?_)
  refine own_run S C [.bipush 16] (pc' := 2) (Ls' := #[.val (.int x0), .val (.int x1), .val (.int x2), .unset, .unset, .unset]) (st' := [(.int (16 : Int32))]) (by decide +kernel) rfl ?_
  refine own_newarray S C (hw _ (List.mem_of_getElem? (i := 0) rfl)) (by decide +kernel) (n := (16 : Int32)) (by decide) 16 (by decide) (by decide) (by decide) (by decide) (vs := [(0 : Int32), (0 : Int32), (0 : Int32), (0 : Int32), (0 : Int32), (0 : Int32), (0 : Int32), (0 : Int32), (0 : Int32), (0 : Int32), (0 : Int32), (0 : Int32), (0 : Int32), (0 : Int32), (0 : Int32), (0 : Int32)]) rfl (fun T1 h1 b1 e1 S1 E1 g1 A1 => ?_)
  refine own_run S1 C [.dup, .iconst 0, .bipush 9] (pc' := 8) (Ls' := #[.val (.int x0), .val (.int x1), .val (.int x2), .unset, .unset, .unset]) (st' := [(.int (9 : Int32)), (.int (0 : Int32)), (.ref b1), (.ref b1)]) (by decide +kernel) rfl ?_
  refine own_iastore S1 C A1 (by decide +kernel) (j := (0 : Int32)) (x := (9 : Int32)) ⟨by decide, (by decide : (0 : Int32).toInt < ((16 : Nat) : Int))⟩ g1 (vs' := [(9 : Int32), (0 : Int32), (0 : Int32), (0 : Int32), (0 : Int32), (0 : Int32), (0 : Int32), (0 : Int32), (0 : Int32), (0 : Int32), (0 : Int32), (0 : Int32), (0 : Int32), (0 : Int32), (0 : Int32), (0 : Int32)]) rfl (fun T2 h2 S2 K2 A2 => ?_)
  refine own_run S2 C [.dup, .iconst 1, .bipush 10] (pc' := 13) (Ls' := #[.val (.int x0), .val (.int x1), .val (.int x2), .unset, .unset, .unset]) (st' := [(.int (10 : Int32)), (.int (1 : Int32)), (.ref b1), (.ref b1)]) (by decide +kernel) rfl ?_
  refine own_iastore S2 C A2 (by decide +kernel) (j := (1 : Int32)) (x := (10 : Int32)) ⟨by decide, (by decide : (1 : Int32).toInt < ((16 : Nat) : Int))⟩ g1 (vs' := [(9 : Int32), (10 : Int32), (0 : Int32), (0 : Int32), (0 : Int32), (0 : Int32), (0 : Int32), (0 : Int32), (0 : Int32), (0 : Int32), (0 : Int32), (0 : Int32), (0 : Int32), (0 : Int32), (0 : Int32), (0 : Int32)]) rfl (fun T3 h3 S3 K3 A3 => ?_)
  refine own_run S3 C [.dup, .iconst 2, .bipush 13] (pc' := 18) (Ls' := #[.val (.int x0), .val (.int x1), .val (.int x2), .unset, .unset, .unset]) (st' := [(.int (13 : Int32)), (.int (2 : Int32)), (.ref b1), (.ref b1)]) (by decide +kernel) rfl ?_
  refine own_iastore S3 C A3 (by decide +kernel) (j := (2 : Int32)) (x := (13 : Int32)) ⟨by decide, (by decide : (2 : Int32).toInt < ((16 : Nat) : Int))⟩ g1 (vs' := [(9 : Int32), (10 : Int32), (13 : Int32), (0 : Int32), (0 : Int32), (0 : Int32), (0 : Int32), (0 : Int32), (0 : Int32), (0 : Int32), (0 : Int32), (0 : Int32), (0 : Int32), (0 : Int32), (0 : Int32), (0 : Int32)]) rfl (fun T4 h4 S4 K4 A4 => ?_)
  refine own_run S4 C [.dup, .iconst 3, .bipush 32] (pc' := 23) (Ls' := #[.val (.int x0), .val (.int x1), .val (.int x2), .unset, .unset, .unset]) (st' := [(.int (32 : Int32)), (.int (3 : Int32)), (.ref b1), (.ref b1)]) (by decide +kernel) rfl ?_
  refine own_iastore S4 C A4 (by decide +kernel) (j := (3 : Int32)) (x := (32 : Int32)) ⟨by decide, (by decide : (3 : Int32).toInt < ((16 : Nat) : Int))⟩ g1 (vs' := [(9 : Int32), (10 : Int32), (13 : Int32), (32 : Int32), (0 : Int32), (0 : Int32), (0 : Int32), (0 : Int32), (0 : Int32), (0 : Int32), (0 : Int32), (0 : Int32), (0 : Int32), (0 : Int32), (0 : Int32), (0 : Int32)]) rfl (fun T5 h5 S5 K5 A5 => ?_)
  refine own_run S5 C [.dup, .iconst 4, .bipush 31] (pc' := 28) (Ls' := #[.val (.int x0), .val (.int x1), .val (.int x2), .unset, .unset, .unset]) (st' := [(.int (31 : Int32)), (.int (4 : Int32)), (.ref b1), (.ref b1)]) (by decide +kernel) rfl ?_
  refine own_iastore S5 C A5 (by decide +kernel) (j := (4 : Int32)) (x := (31 : Int32)) ⟨by decide, (by decide : (4 : Int32).toInt < ((16 : Nat) : Int))⟩ g1 (vs' := [(9 : Int32), (10 : Int32), (13 : Int32), (32 : Int32), (31 : Int32), (0 : Int32), (0 : Int32), (0 : Int32), (0 : Int32), (0 : Int32), (0 : Int32), (0 : Int32), (0 : Int32), (0 : Int32), (0 : Int32), (0 : Int32)]) rfl (fun T6 h6 S6 K6 A6 => ?_)
  refine own_run S6 C [.dup, .iconst 5] (pc' := 31) (Ls' := #[.val (.int x0), .val (.int x1), .val (.int x2), .unset, .unset, .unset]) (st' := [(.int (5 : Int32)), (.ref b1), (.ref b1)]) (by decide +kernel) rfl ?_
  refine own_ldc S6 C (hw _ (List.mem_of_getElem? (i := 1) rfl)) (by decide +kernel) ?_
  show Con p e below _ (mkF m 33 #[.val (.int x0), .val (.int x1), .val (.int x2), .unset, .unset, .unset] [(.int (55295 : Int32)), (.int (5 : Int32)), (.ref b1), (.ref b1)]) _
  refine own_iastore S6 C A6 (by decide +kernel) (j := (5 : Int32)) (x := (55295 : Int32)) ⟨by decide, (by decide : (5 : Int32).toInt < ((16 : Nat) : Int))⟩ g1 (vs' := [(9 : Int32), (10 : Int32), (13 : Int32), (32 : Int32), (31 : Int32), (55295 : Int32), (0 : Int32), (0 : Int32), (0 : Int32), (0 : Int32), (0 : Int32), (0 : Int32), (0 : Int32), (0 : Int32), (0 : Int32), (0 : Int32)]) rfl (fun T7 h7 S7 K7 A7 => ?_)
  refine own_run S7 C [.dup, .bipush 6] (pc' := 37) (Ls' := #[.val (.int x0), .val (.int x1), .val (.int x2), .unset, .unset, .unset]) (st' := [(.int (6 : Int32)), (.ref b1), (.ref b1)]) (by decide +kernel) rfl ?_
  refine own_ldc S7 C (hw _ (List.mem_of_getElem? (i := 2) rfl)) (by decide +kernel) ?_
  show Con p e below _ (mkF m 39 #[.val (.int x0), .val (.int x1), .val (.int x2), .unset, .unset, .unset] [(.int (55296 : Int32)), (.int (6 : Int32)), (.ref b1), (.ref b1)]) _
  refine own_iastore S7 C A7 (by decide +kernel) (j := (6 : Int32)) (x := (55296 : Int32)) ⟨by decide, (by decide : (6 : Int32).toInt < ((16 : Nat) : Int))⟩ g1 (vs' := [(9 : Int32), (10 : Int32), (13 : Int32), (32 : Int32), (31 : Int32), (55295 : Int32), (55296 : Int32), (0 : Int32), (0 : Int32), (0 : Int32), (0 : Int32), (0 : Int32), (0 : Int32), (0 : Int32), (0 : Int32), (0 : Int32)]) rfl (fun T8 h8 S8 K8 A8 => ?_)
  refine own_run S8 C [.dup, .bipush 7] (pc' := 43) (Ls' := #[.val (.int x0), .val (.int x1), .val (.int x2), .unset, .unset, .unset]) (st' := [(.int (7 : Int32)), (.ref b1), (.ref b1)]) (by decide +kernel) rfl ?_
  refine own_ldc S8 C (hw _ (List.mem_of_getElem? (i := 3) rfl)) (by decide +kernel) ?_
  show Con p e below _ (mkF m 45 #[.val (.int x0), .val (.int x1), .val (.int x2), .unset, .unset, .unset] [(.int (57343 : Int32)), (.int (7 : Int32)), (.ref b1), (.ref b1)]) _
  refine own_iastore S8 C A8 (by decide +kernel) (j := (7 : Int32)) (x := (57343 : Int32)) ⟨by decide, (by decide : (7 : Int32).toInt < ((16 : Nat) : Int))⟩ g1 (vs' := [(9 : Int32), (10 : Int32), (13 : Int32), (32 : Int32), (31 : Int32), (55295 : Int32), (55296 : Int32), (57343 : Int32), (0 : Int32), (0 : Int32), (0 : Int32), (0 : Int32), (0 : Int32), (0 : Int32), (0 : Int32), (0 : Int32)]) rfl (fun T9 h9 S9 K9 A9 => ?_)
  refine own_run S9 C [.dup, .bipush 8] (pc' := 49) (Ls' := #[.val (.int x0), .val (.int x1), .val (.int x2), .unset, .unset, .unset]) (st' := [(.int (8 : Int32)), (.ref b1), (.ref b1)]) (by decide +kernel) rfl ?_
  refine own_ldc S9 C (hw _ (List.mem_of_getElem? (i := 4) rfl)) (by decide +kernel) ?_
  show Con p e below _ (mkF m 51 #[.val (.int x0), .val (.int x1), .val (.int x2), .unset, .unset, .unset] [(.int (57344 : Int32)), (.int (8 : Int32)), (.ref b1), (.ref b1)]) _
  refine own_iastore S9 C A9 (by decide +kernel) (j := (8 : Int32)) (x := (57344 : Int32)) ⟨by decide, (by decide : (8 : Int32).toInt < ((16 : Nat) : Int))⟩ g1 (vs' := [(9 : Int32), (10 : Int32), (13 : Int32), (32 : Int32), (31 : Int32), (55295 : Int32), (55296 : Int32), (57343 : Int32), (57344 : Int32), (0 : Int32), (0 : Int32), (0 : Int32), (0 : Int32), (0 : Int32), (0 : Int32), (0 : Int32)]) rfl (fun T10 h10 S10 K10 A10 => ?_)
  refine own_run S10 C [.dup, .bipush 9] (pc' := 55) (Ls' := #[.val (.int x0), .val (.int x1), .val (.int x2), .unset, .unset, .unset]) (st' := [(.int (9 : Int32)), (.ref b1), (.ref b1)]) (by decide +kernel) rfl ?_
  refine own_ldc S10 C (hw _ (List.mem_of_getElem? (i := 5) rfl)) (by decide +kernel) ?_
  show Con p e below _ (mkF m 57 #[.val (.int x0), .val (.int x1), .val (.int x2), .unset, .unset, .unset] [(.int (65533 : Int32)), (.int (9 : Int32)), (.ref b1), (.ref b1)]) _
  refine own_iastore S10 C A10 (by decide +kernel) (j := (9 : Int32)) (x := (65533 : Int32)) ⟨by decide, (by decide : (9 : Int32).toInt < ((16 : Nat) : Int))⟩ g1 (vs' := [(9 : Int32), (10 : Int32), (13 : Int32), (32 : Int32), (31 : Int32), (55295 : Int32), (55296 : Int32), (57343 : Int32), (57344 : Int32), (65533 : Int32), (0 : Int32), (0 : Int32), (0 : Int32), (0 : Int32), (0 : Int32), (0 : Int32)]) rfl (fun T11 h11 S11 K11 A11 => ?_)
  refine own_run S11 C [.dup, .bipush 10] (pc' := 61) (Ls' := #[.val (.int x0), .val (.int x1), .val (.int x2), .unset, .unset, .unset]) (st' := [(.int (10 : Int32)), (.ref b1), (.ref b1)]) (by decide +kernel) rfl ?_
  refine own_ldc S11 C (hw _ (List.mem_of_getElem? (i := 6) rfl)) (by decide +kernel) ?_
  show Con p e below _ (mkF m 63 #[.val (.int x0), .val (.int x1), .val (.int x2), .unset, .unset, .unset] [(.int (65535 : Int32)), (.int (10 : Int32)), (.ref b1), (.ref b1)]) _
  refine own_iastore S11 C A11 (by decide +kernel) (j := (10 : Int32)) (x := (65535 : Int32)) ⟨by decide, (by decide : (10 : Int32).toInt < ((16 : Nat) : Int))⟩ g1 (vs' := [(9 : Int32), (10 : Int32), (13 : Int32), (32 : Int32), (31 : Int32), (55295 : Int32), (55296 : Int32), (57343 : Int32), (57344 : Int32), (65533 : Int32), (65535 : Int32), (0 : Int32), (0 : Int32), (0 : Int32), (0 : Int32), (0 : Int32)]) rfl (fun T12 h12 S12 K12 A12 => ?_)
  refine own_run S12 C [.dup, .bipush 11] (pc' := 67) (Ls' := #[.val (.int x0), .val (.int x1), .val (.int x2), .unset, .unset, .unset]) (st' := [(.int (11 : Int32)), (.ref b1), (.ref b1)]) (by decide +kernel) rfl ?_
  refine own_ldc S12 C (hw _ (List.mem_of_getElem? (i := 7) rfl)) (by decide +kernel) ?_
  show Con p e below _ (mkF m 69 #[.val (.int x0), .val (.int x1), .val (.int x2), .unset, .unset, .unset] [(.int (65536 : Int32)), (.int (11 : Int32)), (.ref b1), (.ref b1)]) _
  refine own_iastore S12 C A12 (by decide +kernel) (j := (11 : Int32)) (x := (65536 : Int32)) ⟨by decide, (by decide : (11 : Int32).toInt < ((16 : Nat) : Int))⟩ g1 (vs' := [(9 : Int32), (10 : Int32), (13 : Int32), (32 : Int32), (31 : Int32), (55295 : Int32), (55296 : Int32), (57343 : Int32), (57344 : Int32), (65533 : Int32), (65535 : Int32), (65536 : Int32), (0 : Int32), (0 : Int32), (0 : Int32), (0 : Int32)]) rfl (fun T13 h13 S13 K13 A13 => ?_)
  refine own_run S13 C [.dup, .bipush 12] (pc' := 73) (Ls' := #[.val (.int x0), .val (.int x1), .val (.int x2), .unset, .unset, .unset]) (st' := [(.int (12 : Int32)), (.ref b1), (.ref b1)]) (by decide +kernel) rfl ?_
  refine own_ldc S13 C (hw _ (List.mem_of_getElem? (i := 8) rfl)) (by decide +kernel) ?_
  show Con p e below _ (mkF m 75 #[.val (.int x0), .val (.int x1), .val (.int x2), .unset, .unset, .unset] [(.int (1114111 : Int32)), (.int (12 : Int32)), (.ref b1), (.ref b1)]) _
  refine own_iastore S13 C A13 (by decide +kernel) (j := (12 : Int32)) (x := (1114111 : Int32)) ⟨by decide, (by decide : (12 : Int32).toInt < ((16 : Nat) : Int))⟩ g1 (vs' := [(9 : Int32), (10 : Int32), (13 : Int32), (32 : Int32), (31 : Int32), (55295 : Int32), (55296 : Int32), (57343 : Int32), (57344 : Int32), (65533 : Int32), (65535 : Int32), (65536 : Int32), (1114111 : Int32), (0 : Int32), (0 : Int32), (0 : Int32)]) rfl (fun T14 h14 S14 K14 A14 => ?_)
  refine own_run S14 C [.dup, .bipush 13, .iconst 0] (pc' := 80) (Ls' := #[.val (.int x0), .val (.int x1), .val (.int x2), .unset, .unset, .unset]) (st' := [(.int (0 : Int32)), (.int (13 : Int32)), (.ref b1), (.ref b1)]) (by decide +kernel) rfl ?_
  refine own_iastore S14 C A14 (by decide +kernel) (j := (13 : Int32)) (x := (0 : Int32)) ⟨by decide, (by decide : (13 : Int32).toInt < ((16 : Nat) : Int))⟩ g1 (vs' := [(9 : Int32), (10 : Int32), (13 : Int32), (32 : Int32), (31 : Int32), (55295 : Int32), (55296 : Int32), (57343 : Int32), (57344 : Int32), (65533 : Int32), (65535 : Int32), (65536 : Int32), (1114111 : Int32), (0 : Int32), (0 : Int32), (0 : Int32)]) rfl (fun T15 h15 S15 K15 A15 => ?_)
  refine own_run S15 C [.dup, .bipush 14] (pc' := 84) (Ls' := #[.val (.int x0), .val (.int x1), .val (.int x2), .unset, .unset, .unset]) (st' := [(.int (14 : Int32)), (.ref b1), (.ref b1)]) (by decide +kernel) rfl ?_
  refine own_ldc S15 C (hw _ (List.mem_of_getElem? (i := 9) rfl)) (by decide +kernel) ?_
  show Con p e below _ (mkF m 86 #[.val (.int x0), .val (.int x1), .val (.int x2), .unset, .unset, .unset] [(.int (-2147483648 : Int32)), (.int (14 : Int32)), (.ref b1), (.ref b1)]) _
  refine own_iastore S15 C A15 (by decide +kernel) (j := (14 : Int32)) (x := (-2147483648 : Int32)) ⟨by decide, (by decide : (14 : Int32).toInt < ((16 : Nat) : Int))⟩ g1 (vs' := [(9 : Int32), (10 : Int32), (13 : Int32), (32 : Int32), (31 : Int32), (55295 : Int32), (55296 : Int32), (57343 : Int32), (57344 : Int32), (65533 : Int32), (65535 : Int32), (65536 : Int32), (1114111 : Int32), (0 : Int32), (-2147483648 : Int32), (0 : Int32)]) rfl (fun T16 h16 S16 K16 A16 => ?_)
  refine own_run S16 C [.dup, .bipush 15] (pc' := 90) (Ls' := #[.val (.int x0), .val (.int x1), .val (.int x2), .unset, .unset, .unset]) (st' := [(.int (15 : Int32)), (.ref b1), (.ref b1)]) (by decide +kernel) rfl ?_
  refine own_ldc S16 C (hw _ (List.mem_of_getElem? (i := 10) rfl)) (by decide +kernel) ?_
  show Con p e below _ (mkF m 92 #[.val (.int x0), .val (.int x1), .val (.int x2), .unset, .unset, .unset] [(.int (2147483647 : Int32)), (.int (15 : Int32)), (.ref b1), (.ref b1)]) _
  refine own_iastore S16 C A16 (by decide +kernel) (j := (15 : Int32)) (x := (2147483647 : Int32)) ⟨by decide, (by decide : (15 : Int32).toInt < ((16 : Nat) : Int))⟩ g1 (vs' := [(9 : Int32), (10 : Int32), (13 : Int32), (32 : Int32), (31 : Int32), (55295 : Int32), (55296 : Int32), (57343 : Int32), (57344 : Int32), (65533 : Int32), (65535 : Int32), (65536 : Int32), (1114111 : Int32), (0 : Int32), (-2147483648 : Int32), (2147483647 : Int32)]) rfl (fun T17 h17 S17 K17 A17 => ?_)
  refine own_run S17 C [.astore_n 3, .iload_n 1, .iconst 1, .iand] (pc' := 97) (Ls' := #[.val (.int x0), .val (.int x1), .val (.int x2), .val (.ref b1), .unset, .unset]) (st' := [(.int (x1 &&& (1 : Int32)))]) (by decide +kernel) rfl ?_
  -- the char that is asked, whichever it is
  have cont : ∀ c0 : Int32, Con p e below T17 (mkF m 116 #[.val (.int x0), .val (.int x1), .val (.int x2), .val (.ref b1), .unset, .unset] [(.int c0)]) (Pq s room_1 n0 (fun v _ => v = some (.int 1))) := by
    intro c0
    refine own_run S17 C [.istore 4, .iload 4] (pc' := 120) (Ls' := #[.val (.int x0), .val (.int x1), .val (.int x2), .val (.ref b1), .val (.int c0), .unset]) (st' := [(.int c0)]) (by decide +kernel) rfl ?_
    have cont2 : ∀ ex : Int32, (ex = 1 ∧ own_E c0) ∨ (ex = 0 ∧ ¬ own_E c0) → Con p e below T17 (mkF m 191 #[.val (.int x0), .val (.int x1), .val (.int x2), .val (.ref b1), .val (.int c0), .unset] [(.int ex)]) (Pq s room_1 n0 (fun v _ => v = some (.int 1))) := by
      intro ex hex
      refine own_run S17 C [.istore 5, .iload 4] (pc' := 195) (Ls' := #[.val (.int x0), .val (.int x1), .val (.int x2), .val (.ref b1), .val (.int c0), .val (.int ex)]) (st' := [(.int c0)]) (by decide +kernel) rfl ?_
      have Z1 : n0 ≤ h17.size := by obtain ⟨_, _, _, _, q⟩ := S17; exact q
      refine own_callS S17 C (y := (⟨"com/example/klarbrief/klarbrief/core/XmlCharacters", "isChar", "(I)Z"⟩ : MethodName)) (hw _ (List.mem_of_getElem? (i := 11) rfl)) (hw _ (List.mem_of_getElem? (i := 12) rfl)) (hw _ (List.mem_of_getElem? (i := 13) rfl)) (hw _ (List.mem_of_getElem? (i := 14) rfl)) (by decide) (rm_own_isChar l Z a0 hw [] c0 h17 n0 Z1) 0 (by decide) (by decide) (ps := [.int]) (r := (some .boolean)) (by decide +kernel) [(.int c0)] [] rfl rfl rfl (Nat.le_of_eq rfl) rfl (by decide +kernel) (by decide) (by decide) (fun v TC hC SC q => ?_)
      obtain ⟨rfl, hh⟩ := q
      rw [hh] at SC
      show Con p e below _ (mkF m 198 #[.val (.int x0), .val (.int x1), .val (.int x2), .val (.ref b1), .val (.int c0), .val (.int ex)] [(.int (own_isChar c0))]) _
      refine own_run SC C [.iload 5] (pc' := 200) (Ls' := #[.val (.int x0), .val (.int x1), .val (.int x2), .val (.ref b1), .val (.int c0), .val (.int ex)]) (st' := [(.int ex), (.int (own_isChar c0))]) (by decide +kernel) rfl ?_
      rcases hex with ⟨rfl, hE⟩ | ⟨rfl, hE⟩
      · skip
        have hv : own_isChar c0 = 0 := by rcases own_spec c0 with ⟨h1, h2⟩ | ⟨h1, h2⟩; exact absurd hE h2; exact h1
        rw [hv]
        refine own_if SC C (cd := .ne) (o := 7) (by decide +kernel) (pc' := 207) ⟨by decide, by decide⟩ (fun _ => ?_) (fun hc200 => absurd ((hh_ne).2.mp hc200) (show ¬ ((1 : Int) = (0 : Int)) by decide))
        refine own_run SC C [.iconst 0] (pc' := 208) (Ls' := #[.val (.int x0), .val (.int x1), .val (.int x2), .val (.ref b1), .val (.int c0), .val (.int (1 : Int32))]) (st' := [(.int (0 : Int32)), (.int (0 : Int32))]) (by decide +kernel) rfl ?_
        refine own_icmp SC C (cd := .ne) (o := 7) (by decide +kernel) (pc' := 215) ⟨by decide, by decide⟩ (fun hc208 => absurd ((hh_ne).1.mp hc208) (show ¬ ((0 : Int) ≠ (0 : Int)) by decide)) (fun _ => ?_)
        refine own_run SC C [.iconst 1, .goto 4] (pc' := 216) (Ls' := #[.val (.int x0), .val (.int x1), .val (.int x2), .val (.ref b1), .val (.int c0), .val (.int (1 : Int32))]) (st' := [(.int (1 : Int32))]) (by decide +kernel) rfl ?_
        exact own_retz SC C (z' := (1 : Int32)) (by decide) (by decide +kernel) (by decide) (by decide) rfl
      · skip
        have hv : own_isChar c0 = 1 := by rcases own_spec c0 with ⟨h1, h2⟩ | ⟨h1, h2⟩; exact h1; exact absurd h2 hE
        rw [hv]
        refine own_if SC C (cd := .ne) (o := 7) (by decide +kernel) (pc' := 207) ⟨by decide, by decide⟩ (fun hc200 => absurd ((hh_ne).1.mp hc200) (show ¬ ((0 : Int) ≠ (0 : Int)) by decide)) (fun _ => ?_)
        refine own_run SC C [.iconst 1, .goto 4] (pc' := 208) (Ls' := #[.val (.int x0), .val (.int x1), .val (.int x2), .val (.ref b1), .val (.int c0), .val (.int (0 : Int32))]) (st' := [(.int (1 : Int32)), (.int (1 : Int32))]) (by decide +kernel) rfl ?_
        refine own_icmp SC C (cd := .ne) (o := 7) (by decide +kernel) (pc' := 215) ⟨by decide, by decide⟩ (fun hc208 => absurd ((hh_ne).1.mp hc208) (show ¬ ((1 : Int) ≠ (1 : Int)) by decide)) (fun _ => ?_)
        refine own_run SC C [.iconst 1, .goto 4] (pc' := 216) (Ls' := #[.val (.int x0), .val (.int x1), .val (.int x2), .val (.ref b1), .val (.int c0), .val (.int (0 : Int32))]) (st' := [(.int (1 : Int32))]) (by decide +kernel) rfl ?_
        exact own_retz SC C (z' := (1 : Int32)) (by decide) (by decide +kernel) (by decide) (by decide) rfl
    refine own_if S17 C (cd := .lt) (o := 66) (by decide +kernel) (pc' := 186) ⟨by decide, by decide⟩ (fun hc120 => ?_) (fun hc120 => ?_)
    · skip
      have k120 : c0.toInt < (0 : Int) := (hh_lt).1.mp hc120
      refine own_run S17 C [.iconst 1, .goto 4] (pc' := 191) (Ls' := #[.val (.int x0), .val (.int x1), .val (.int x2), .val (.ref b1), .val (.int c0), .unset]) (st' := [(.int (1 : Int32))]) (by decide +kernel) rfl ?_
      exact cont2 _ (Or.inl ⟨rfl, by unfold own_E; omega⟩)
    · skip
      have k120 : c0.toInt ≥ (0 : Int) := (hh_lt).2.mp hc120
      refine own_run S17 C [.iload 4, .bipush 32] (pc' := 127) (Ls' := #[.val (.int x0), .val (.int x1), .val (.int x2), .val (.ref b1), .val (.int c0), .unset]) (st' := [(.int (32 : Int32)), (.int c0)]) (by decide +kernel) rfl ?_
      refine own_icmp S17 C (cd := .ge) (o := 24) (by decide +kernel) (pc' := 151) ⟨by decide, by decide⟩ (fun hc127 => ?_) (fun hc127 => ?_)
      · skip
        have k127 : c0.toInt ≥ (32 : Int) := (hh_ge).1.mp hc127
        refine own_run S17 C [.iload 4] (pc' := 153) (Ls' := #[.val (.int x0), .val (.int x1), .val (.int x2), .val (.ref b1), .val (.int c0), .unset]) (st' := [(.int c0)]) (by decide +kernel) rfl ?_
        refine own_ldc S17 C (hw _ (List.mem_of_getElem? (i := 2) rfl)) (by decide +kernel) ?_
        show Con p e below _ (mkF m 155 #[.val (.int x0), .val (.int x1), .val (.int x2), .val (.ref b1), .val (.int c0), .unset] [(.int (55296 : Int32)), (.int c0)]) _
        refine own_icmp S17 C (cd := .lt) (o := 10) (by decide +kernel) (pc' := 165) ⟨by decide, by decide⟩ (fun hc155 => ?_) (fun hc155 => ?_)
        · skip
          have k155 : c0.toInt < (55296 : Int) := (hh_lt).1.mp hc155
          refine own_run S17 C [.iload 4] (pc' := 167) (Ls' := #[.val (.int x0), .val (.int x1), .val (.int x2), .val (.ref b1), .val (.int c0), .unset]) (st' := [(.int c0)]) (by decide +kernel) rfl ?_
          refine own_ldc S17 C (hw _ (List.mem_of_getElem? (i := 17) rfl)) (by decide +kernel) ?_
          show Con p e below _ (mkF m 169 #[.val (.int x0), .val (.int x1), .val (.int x2), .val (.ref b1), .val (.int c0), .unset] [(.int (65534 : Int32)), (.int c0)]) _
          refine own_icmp S17 C (cd := .eq) (o := 17) (by decide +kernel) (pc' := 186) ⟨by decide, by decide⟩ (fun hc169 => ?_) (fun hc169 => ?_)
          · skip
            have k169 : c0.toInt = (65534 : Int) := (hh_eq).1.mp hc169
            refine own_run S17 C [.iconst 1, .goto 4] (pc' := 191) (Ls' := #[.val (.int x0), .val (.int x1), .val (.int x2), .val (.ref b1), .val (.int c0), .unset]) (st' := [(.int (1 : Int32))]) (by decide +kernel) rfl ?_
            exact cont2 _ (Or.inl ⟨rfl, by unfold own_E; omega⟩)
          · skip
            have k169 : c0.toInt ≠ (65534 : Int) := (hh_eq).2.mp hc169
            refine own_run S17 C [.iload 4] (pc' := 174) (Ls' := #[.val (.int x0), .val (.int x1), .val (.int x2), .val (.ref b1), .val (.int c0), .unset]) (st' := [(.int c0)]) (by decide +kernel) rfl ?_
            refine own_ldc S17 C (hw _ (List.mem_of_getElem? (i := 6) rfl)) (by decide +kernel) ?_
            show Con p e below _ (mkF m 176 #[.val (.int x0), .val (.int x1), .val (.int x2), .val (.ref b1), .val (.int c0), .unset] [(.int (65535 : Int32)), (.int c0)]) _
            refine own_icmp S17 C (cd := .eq) (o := 10) (by decide +kernel) (pc' := 186) ⟨by decide, by decide⟩ (fun hc176 => ?_) (fun hc176 => ?_)
            · skip
              have k176 : c0.toInt = (65535 : Int) := (hh_eq).1.mp hc176
              refine own_run S17 C [.iconst 1, .goto 4] (pc' := 191) (Ls' := #[.val (.int x0), .val (.int x1), .val (.int x2), .val (.ref b1), .val (.int c0), .unset]) (st' := [(.int (1 : Int32))]) (by decide +kernel) rfl ?_
              exact cont2 _ (Or.inl ⟨rfl, by unfold own_E; omega⟩)
            · skip
              have k176 : c0.toInt ≠ (65535 : Int) := (hh_eq).2.mp hc176
              refine own_run S17 C [.iload 4] (pc' := 181) (Ls' := #[.val (.int x0), .val (.int x1), .val (.int x2), .val (.ref b1), .val (.int c0), .unset]) (st' := [(.int c0)]) (by decide +kernel) rfl ?_
              refine own_ldc S17 C (hw _ (List.mem_of_getElem? (i := 8) rfl)) (by decide +kernel) ?_
              show Con p e below _ (mkF m 183 #[.val (.int x0), .val (.int x1), .val (.int x2), .val (.ref b1), .val (.int c0), .unset] [(.int (1114111 : Int32)), (.int c0)]) _
              refine own_icmp S17 C (cd := .le) (o := 7) (by decide +kernel) (pc' := 190) ⟨by decide, by decide⟩ (fun hc183 => ?_) (fun hc183 => ?_)
              · skip
                have k183 : c0.toInt ≤ (1114111 : Int) := (hh_le).1.mp hc183
                refine own_run S17 C [.iconst 0] (pc' := 191) (Ls' := #[.val (.int x0), .val (.int x1), .val (.int x2), .val (.ref b1), .val (.int c0), .unset]) (st' := [(.int (0 : Int32))]) (by decide +kernel) rfl ?_
                exact cont2 _ (Or.inr ⟨rfl, by unfold own_E; omega⟩)
              · skip
                have k183 : c0.toInt > (1114111 : Int) := (hh_le).2.mp hc183
                refine own_run S17 C [.iconst 1, .goto 4] (pc' := 191) (Ls' := #[.val (.int x0), .val (.int x1), .val (.int x2), .val (.ref b1), .val (.int c0), .unset]) (st' := [(.int (1 : Int32))]) (by decide +kernel) rfl ?_
                exact cont2 _ (Or.inl ⟨rfl, by unfold own_E; omega⟩)
        · skip
          have k155 : c0.toInt ≥ (55296 : Int) := (hh_lt).2.mp hc155
          refine own_run S17 C [.iload 4] (pc' := 160) (Ls' := #[.val (.int x0), .val (.int x1), .val (.int x2), .val (.ref b1), .val (.int c0), .unset]) (st' := [(.int c0)]) (by decide +kernel) rfl ?_
          refine own_ldc S17 C (hw _ (List.mem_of_getElem? (i := 3) rfl)) (by decide +kernel) ?_
          show Con p e below _ (mkF m 162 #[.val (.int x0), .val (.int x1), .val (.int x2), .val (.ref b1), .val (.int c0), .unset] [(.int (57343 : Int32)), (.int c0)]) _
          refine own_icmp S17 C (cd := .le) (o := 24) (by decide +kernel) (pc' := 186) ⟨by decide, by decide⟩ (fun hc162 => ?_) (fun hc162 => ?_)
          · skip
            have k162 : c0.toInt ≤ (57343 : Int) := (hh_le).1.mp hc162
            refine own_run S17 C [.iconst 1, .goto 4] (pc' := 191) (Ls' := #[.val (.int x0), .val (.int x1), .val (.int x2), .val (.ref b1), .val (.int c0), .unset]) (st' := [(.int (1 : Int32))]) (by decide +kernel) rfl ?_
            exact cont2 _ (Or.inl ⟨rfl, by unfold own_E; omega⟩)
          · skip
            have k162 : c0.toInt > (57343 : Int) := (hh_le).2.mp hc162
            refine own_run S17 C [.iload 4] (pc' := 167) (Ls' := #[.val (.int x0), .val (.int x1), .val (.int x2), .val (.ref b1), .val (.int c0), .unset]) (st' := [(.int c0)]) (by decide +kernel) rfl ?_
            refine own_ldc S17 C (hw _ (List.mem_of_getElem? (i := 17) rfl)) (by decide +kernel) ?_
            show Con p e below _ (mkF m 169 #[.val (.int x0), .val (.int x1), .val (.int x2), .val (.ref b1), .val (.int c0), .unset] [(.int (65534 : Int32)), (.int c0)]) _
            refine own_icmp S17 C (cd := .eq) (o := 17) (by decide +kernel) (pc' := 186) ⟨by decide, by decide⟩ (fun hc169 => ?_) (fun hc169 => ?_)
            · skip
              have k169 : c0.toInt = (65534 : Int) := (hh_eq).1.mp hc169
              refine own_run S17 C [.iconst 1, .goto 4] (pc' := 191) (Ls' := #[.val (.int x0), .val (.int x1), .val (.int x2), .val (.ref b1), .val (.int c0), .unset]) (st' := [(.int (1 : Int32))]) (by decide +kernel) rfl ?_
              exact cont2 _ (Or.inl ⟨rfl, by unfold own_E; omega⟩)
            · skip
              have k169 : c0.toInt ≠ (65534 : Int) := (hh_eq).2.mp hc169
              refine own_run S17 C [.iload 4] (pc' := 174) (Ls' := #[.val (.int x0), .val (.int x1), .val (.int x2), .val (.ref b1), .val (.int c0), .unset]) (st' := [(.int c0)]) (by decide +kernel) rfl ?_
              refine own_ldc S17 C (hw _ (List.mem_of_getElem? (i := 6) rfl)) (by decide +kernel) ?_
              show Con p e below _ (mkF m 176 #[.val (.int x0), .val (.int x1), .val (.int x2), .val (.ref b1), .val (.int c0), .unset] [(.int (65535 : Int32)), (.int c0)]) _
              refine own_icmp S17 C (cd := .eq) (o := 10) (by decide +kernel) (pc' := 186) ⟨by decide, by decide⟩ (fun hc176 => ?_) (fun hc176 => ?_)
              · skip
                have k176 : c0.toInt = (65535 : Int) := (hh_eq).1.mp hc176
                refine own_run S17 C [.iconst 1, .goto 4] (pc' := 191) (Ls' := #[.val (.int x0), .val (.int x1), .val (.int x2), .val (.ref b1), .val (.int c0), .unset]) (st' := [(.int (1 : Int32))]) (by decide +kernel) rfl ?_
                exact cont2 _ (Or.inl ⟨rfl, by unfold own_E; omega⟩)
              · skip
                have k176 : c0.toInt ≠ (65535 : Int) := (hh_eq).2.mp hc176
                refine own_run S17 C [.iload 4] (pc' := 181) (Ls' := #[.val (.int x0), .val (.int x1), .val (.int x2), .val (.ref b1), .val (.int c0), .unset]) (st' := [(.int c0)]) (by decide +kernel) rfl ?_
                refine own_ldc S17 C (hw _ (List.mem_of_getElem? (i := 8) rfl)) (by decide +kernel) ?_
                show Con p e below _ (mkF m 183 #[.val (.int x0), .val (.int x1), .val (.int x2), .val (.ref b1), .val (.int c0), .unset] [(.int (1114111 : Int32)), (.int c0)]) _
                refine own_icmp S17 C (cd := .le) (o := 7) (by decide +kernel) (pc' := 190) ⟨by decide, by decide⟩ (fun hc183 => ?_) (fun hc183 => ?_)
                · skip
                  have k183 : c0.toInt ≤ (1114111 : Int) := (hh_le).1.mp hc183
                  refine own_run S17 C [.iconst 0] (pc' := 191) (Ls' := #[.val (.int x0), .val (.int x1), .val (.int x2), .val (.ref b1), .val (.int c0), .unset]) (st' := [(.int (0 : Int32))]) (by decide +kernel) rfl ?_
                  exact cont2 _ (Or.inr ⟨rfl, by unfold own_E; omega⟩)
                · skip
                  have k183 : c0.toInt > (1114111 : Int) := (hh_le).2.mp hc183
                  refine own_run S17 C [.iconst 1, .goto 4] (pc' := 191) (Ls' := #[.val (.int x0), .val (.int x1), .val (.int x2), .val (.ref b1), .val (.int c0), .unset]) (st' := [(.int (1 : Int32))]) (by decide +kernel) rfl ?_
                  exact cont2 _ (Or.inl ⟨rfl, by unfold own_E; omega⟩)
      · skip
        have k127 : c0.toInt < (32 : Int) := (hh_ge).2.mp hc127
        refine own_run S17 C [.iload 4, .bipush 9] (pc' := 134) (Ls' := #[.val (.int x0), .val (.int x1), .val (.int x2), .val (.ref b1), .val (.int c0), .unset]) (st' := [(.int (9 : Int32)), (.int c0)]) (by decide +kernel) rfl ?_
        refine own_icmp S17 C (cd := .eq) (o := 17) (by decide +kernel) (pc' := 151) ⟨by decide, by decide⟩ (fun hc134 => ?_) (fun hc134 => ?_)
        · skip
          have k134 : c0.toInt = (9 : Int) := (hh_eq).1.mp hc134
          refine own_run S17 C [.iload 4] (pc' := 153) (Ls' := #[.val (.int x0), .val (.int x1), .val (.int x2), .val (.ref b1), .val (.int c0), .unset]) (st' := [(.int c0)]) (by decide +kernel) rfl ?_
          refine own_ldc S17 C (hw _ (List.mem_of_getElem? (i := 2) rfl)) (by decide +kernel) ?_
          show Con p e below _ (mkF m 155 #[.val (.int x0), .val (.int x1), .val (.int x2), .val (.ref b1), .val (.int c0), .unset] [(.int (55296 : Int32)), (.int c0)]) _
          refine own_icmp S17 C (cd := .lt) (o := 10) (by decide +kernel) (pc' := 165) ⟨by decide, by decide⟩ (fun hc155 => ?_) (fun hc155 => ?_)
          · skip
            have k155 : c0.toInt < (55296 : Int) := (hh_lt).1.mp hc155
            refine own_run S17 C [.iload 4] (pc' := 167) (Ls' := #[.val (.int x0), .val (.int x1), .val (.int x2), .val (.ref b1), .val (.int c0), .unset]) (st' := [(.int c0)]) (by decide +kernel) rfl ?_
            refine own_ldc S17 C (hw _ (List.mem_of_getElem? (i := 17) rfl)) (by decide +kernel) ?_
            show Con p e below _ (mkF m 169 #[.val (.int x0), .val (.int x1), .val (.int x2), .val (.ref b1), .val (.int c0), .unset] [(.int (65534 : Int32)), (.int c0)]) _
            refine own_icmp S17 C (cd := .eq) (o := 17) (by decide +kernel) (pc' := 186) ⟨by decide, by decide⟩ (fun hc169 => ?_) (fun hc169 => ?_)
            · skip
              have k169 : c0.toInt = (65534 : Int) := (hh_eq).1.mp hc169
              refine own_run S17 C [.iconst 1, .goto 4] (pc' := 191) (Ls' := #[.val (.int x0), .val (.int x1), .val (.int x2), .val (.ref b1), .val (.int c0), .unset]) (st' := [(.int (1 : Int32))]) (by decide +kernel) rfl ?_
              exact cont2 _ (Or.inl ⟨rfl, by unfold own_E; omega⟩)
            · skip
              have k169 : c0.toInt ≠ (65534 : Int) := (hh_eq).2.mp hc169
              refine own_run S17 C [.iload 4] (pc' := 174) (Ls' := #[.val (.int x0), .val (.int x1), .val (.int x2), .val (.ref b1), .val (.int c0), .unset]) (st' := [(.int c0)]) (by decide +kernel) rfl ?_
              refine own_ldc S17 C (hw _ (List.mem_of_getElem? (i := 6) rfl)) (by decide +kernel) ?_
              show Con p e below _ (mkF m 176 #[.val (.int x0), .val (.int x1), .val (.int x2), .val (.ref b1), .val (.int c0), .unset] [(.int (65535 : Int32)), (.int c0)]) _
              refine own_icmp S17 C (cd := .eq) (o := 10) (by decide +kernel) (pc' := 186) ⟨by decide, by decide⟩ (fun hc176 => ?_) (fun hc176 => ?_)
              · skip
                have k176 : c0.toInt = (65535 : Int) := (hh_eq).1.mp hc176
                refine own_run S17 C [.iconst 1, .goto 4] (pc' := 191) (Ls' := #[.val (.int x0), .val (.int x1), .val (.int x2), .val (.ref b1), .val (.int c0), .unset]) (st' := [(.int (1 : Int32))]) (by decide +kernel) rfl ?_
                exact cont2 _ (Or.inl ⟨rfl, by unfold own_E; omega⟩)
              · skip
                have k176 : c0.toInt ≠ (65535 : Int) := (hh_eq).2.mp hc176
                refine own_run S17 C [.iload 4] (pc' := 181) (Ls' := #[.val (.int x0), .val (.int x1), .val (.int x2), .val (.ref b1), .val (.int c0), .unset]) (st' := [(.int c0)]) (by decide +kernel) rfl ?_
                refine own_ldc S17 C (hw _ (List.mem_of_getElem? (i := 8) rfl)) (by decide +kernel) ?_
                show Con p e below _ (mkF m 183 #[.val (.int x0), .val (.int x1), .val (.int x2), .val (.ref b1), .val (.int c0), .unset] [(.int (1114111 : Int32)), (.int c0)]) _
                refine own_icmp S17 C (cd := .le) (o := 7) (by decide +kernel) (pc' := 190) ⟨by decide, by decide⟩ (fun hc183 => ?_) (fun hc183 => ?_)
                · skip
                  have k183 : c0.toInt ≤ (1114111 : Int) := (hh_le).1.mp hc183
                  refine own_run S17 C [.iconst 0] (pc' := 191) (Ls' := #[.val (.int x0), .val (.int x1), .val (.int x2), .val (.ref b1), .val (.int c0), .unset]) (st' := [(.int (0 : Int32))]) (by decide +kernel) rfl ?_
                  exact cont2 _ (Or.inr ⟨rfl, by unfold own_E; omega⟩)
                · skip
                  have k183 : c0.toInt > (1114111 : Int) := (hh_le).2.mp hc183
                  refine own_run S17 C [.iconst 1, .goto 4] (pc' := 191) (Ls' := #[.val (.int x0), .val (.int x1), .val (.int x2), .val (.ref b1), .val (.int c0), .unset]) (st' := [(.int (1 : Int32))]) (by decide +kernel) rfl ?_
                  exact cont2 _ (Or.inl ⟨rfl, by unfold own_E; omega⟩)
          · skip
            have k155 : c0.toInt ≥ (55296 : Int) := (hh_lt).2.mp hc155
            refine own_run S17 C [.iload 4] (pc' := 160) (Ls' := #[.val (.int x0), .val (.int x1), .val (.int x2), .val (.ref b1), .val (.int c0), .unset]) (st' := [(.int c0)]) (by decide +kernel) rfl ?_
            refine own_ldc S17 C (hw _ (List.mem_of_getElem? (i := 3) rfl)) (by decide +kernel) ?_
            show Con p e below _ (mkF m 162 #[.val (.int x0), .val (.int x1), .val (.int x2), .val (.ref b1), .val (.int c0), .unset] [(.int (57343 : Int32)), (.int c0)]) _
            refine own_icmp S17 C (cd := .le) (o := 24) (by decide +kernel) (pc' := 186) ⟨by decide, by decide⟩ (fun hc162 => ?_) (fun hc162 => ?_)
            · skip
              have k162 : c0.toInt ≤ (57343 : Int) := (hh_le).1.mp hc162
              refine own_run S17 C [.iconst 1, .goto 4] (pc' := 191) (Ls' := #[.val (.int x0), .val (.int x1), .val (.int x2), .val (.ref b1), .val (.int c0), .unset]) (st' := [(.int (1 : Int32))]) (by decide +kernel) rfl ?_
              exact cont2 _ (Or.inl ⟨rfl, by unfold own_E; omega⟩)
            · skip
              have k162 : c0.toInt > (57343 : Int) := (hh_le).2.mp hc162
              refine own_run S17 C [.iload 4] (pc' := 167) (Ls' := #[.val (.int x0), .val (.int x1), .val (.int x2), .val (.ref b1), .val (.int c0), .unset]) (st' := [(.int c0)]) (by decide +kernel) rfl ?_
              refine own_ldc S17 C (hw _ (List.mem_of_getElem? (i := 17) rfl)) (by decide +kernel) ?_
              show Con p e below _ (mkF m 169 #[.val (.int x0), .val (.int x1), .val (.int x2), .val (.ref b1), .val (.int c0), .unset] [(.int (65534 : Int32)), (.int c0)]) _
              refine own_icmp S17 C (cd := .eq) (o := 17) (by decide +kernel) (pc' := 186) ⟨by decide, by decide⟩ (fun hc169 => ?_) (fun hc169 => ?_)
              · skip
                have k169 : c0.toInt = (65534 : Int) := (hh_eq).1.mp hc169
                refine own_run S17 C [.iconst 1, .goto 4] (pc' := 191) (Ls' := #[.val (.int x0), .val (.int x1), .val (.int x2), .val (.ref b1), .val (.int c0), .unset]) (st' := [(.int (1 : Int32))]) (by decide +kernel) rfl ?_
                exact cont2 _ (Or.inl ⟨rfl, by unfold own_E; omega⟩)
              · skip
                have k169 : c0.toInt ≠ (65534 : Int) := (hh_eq).2.mp hc169
                refine own_run S17 C [.iload 4] (pc' := 174) (Ls' := #[.val (.int x0), .val (.int x1), .val (.int x2), .val (.ref b1), .val (.int c0), .unset]) (st' := [(.int c0)]) (by decide +kernel) rfl ?_
                refine own_ldc S17 C (hw _ (List.mem_of_getElem? (i := 6) rfl)) (by decide +kernel) ?_
                show Con p e below _ (mkF m 176 #[.val (.int x0), .val (.int x1), .val (.int x2), .val (.ref b1), .val (.int c0), .unset] [(.int (65535 : Int32)), (.int c0)]) _
                refine own_icmp S17 C (cd := .eq) (o := 10) (by decide +kernel) (pc' := 186) ⟨by decide, by decide⟩ (fun hc176 => ?_) (fun hc176 => ?_)
                · skip
                  have k176 : c0.toInt = (65535 : Int) := (hh_eq).1.mp hc176
                  refine own_run S17 C [.iconst 1, .goto 4] (pc' := 191) (Ls' := #[.val (.int x0), .val (.int x1), .val (.int x2), .val (.ref b1), .val (.int c0), .unset]) (st' := [(.int (1 : Int32))]) (by decide +kernel) rfl ?_
                  exact cont2 _ (Or.inl ⟨rfl, by unfold own_E; omega⟩)
                · skip
                  have k176 : c0.toInt ≠ (65535 : Int) := (hh_eq).2.mp hc176
                  refine own_run S17 C [.iload 4] (pc' := 181) (Ls' := #[.val (.int x0), .val (.int x1), .val (.int x2), .val (.ref b1), .val (.int c0), .unset]) (st' := [(.int c0)]) (by decide +kernel) rfl ?_
                  refine own_ldc S17 C (hw _ (List.mem_of_getElem? (i := 8) rfl)) (by decide +kernel) ?_
                  show Con p e below _ (mkF m 183 #[.val (.int x0), .val (.int x1), .val (.int x2), .val (.ref b1), .val (.int c0), .unset] [(.int (1114111 : Int32)), (.int c0)]) _
                  refine own_icmp S17 C (cd := .le) (o := 7) (by decide +kernel) (pc' := 190) ⟨by decide, by decide⟩ (fun hc183 => ?_) (fun hc183 => ?_)
                  · skip
                    have k183 : c0.toInt ≤ (1114111 : Int) := (hh_le).1.mp hc183
                    refine own_run S17 C [.iconst 0] (pc' := 191) (Ls' := #[.val (.int x0), .val (.int x1), .val (.int x2), .val (.ref b1), .val (.int c0), .unset]) (st' := [(.int (0 : Int32))]) (by decide +kernel) rfl ?_
                    exact cont2 _ (Or.inr ⟨rfl, by unfold own_E; omega⟩)
                  · skip
                    have k183 : c0.toInt > (1114111 : Int) := (hh_le).2.mp hc183
                    refine own_run S17 C [.iconst 1, .goto 4] (pc' := 191) (Ls' := #[.val (.int x0), .val (.int x1), .val (.int x2), .val (.ref b1), .val (.int c0), .unset]) (st' := [(.int (1 : Int32))]) (by decide +kernel) rfl ?_
                    exact cont2 _ (Or.inl ⟨rfl, by unfold own_E; omega⟩)
        · skip
          have k134 : c0.toInt ≠ (9 : Int) := (hh_eq).2.mp hc134
          refine own_run S17 C [.iload 4, .bipush 10] (pc' := 141) (Ls' := #[.val (.int x0), .val (.int x1), .val (.int x2), .val (.ref b1), .val (.int c0), .unset]) (st' := [(.int (10 : Int32)), (.int c0)]) (by decide +kernel) rfl ?_
          refine own_icmp S17 C (cd := .eq) (o := 10) (by decide +kernel) (pc' := 151) ⟨by decide, by decide⟩ (fun hc141 => ?_) (fun hc141 => ?_)
          · skip
            have k141 : c0.toInt = (10 : Int) := (hh_eq).1.mp hc141
            refine own_run S17 C [.iload 4] (pc' := 153) (Ls' := #[.val (.int x0), .val (.int x1), .val (.int x2), .val (.ref b1), .val (.int c0), .unset]) (st' := [(.int c0)]) (by decide +kernel) rfl ?_
            refine own_ldc S17 C (hw _ (List.mem_of_getElem? (i := 2) rfl)) (by decide +kernel) ?_
            show Con p e below _ (mkF m 155 #[.val (.int x0), .val (.int x1), .val (.int x2), .val (.ref b1), .val (.int c0), .unset] [(.int (55296 : Int32)), (.int c0)]) _
            refine own_icmp S17 C (cd := .lt) (o := 10) (by decide +kernel) (pc' := 165) ⟨by decide, by decide⟩ (fun hc155 => ?_) (fun hc155 => ?_)
            · skip
              have k155 : c0.toInt < (55296 : Int) := (hh_lt).1.mp hc155
              refine own_run S17 C [.iload 4] (pc' := 167) (Ls' := #[.val (.int x0), .val (.int x1), .val (.int x2), .val (.ref b1), .val (.int c0), .unset]) (st' := [(.int c0)]) (by decide +kernel) rfl ?_
              refine own_ldc S17 C (hw _ (List.mem_of_getElem? (i := 17) rfl)) (by decide +kernel) ?_
              show Con p e below _ (mkF m 169 #[.val (.int x0), .val (.int x1), .val (.int x2), .val (.ref b1), .val (.int c0), .unset] [(.int (65534 : Int32)), (.int c0)]) _
              refine own_icmp S17 C (cd := .eq) (o := 17) (by decide +kernel) (pc' := 186) ⟨by decide, by decide⟩ (fun hc169 => ?_) (fun hc169 => ?_)
              · skip
                have k169 : c0.toInt = (65534 : Int) := (hh_eq).1.mp hc169
                refine own_run S17 C [.iconst 1, .goto 4] (pc' := 191) (Ls' := #[.val (.int x0), .val (.int x1), .val (.int x2), .val (.ref b1), .val (.int c0), .unset]) (st' := [(.int (1 : Int32))]) (by decide +kernel) rfl ?_
                exact cont2 _ (Or.inl ⟨rfl, by unfold own_E; omega⟩)
              · skip
                have k169 : c0.toInt ≠ (65534 : Int) := (hh_eq).2.mp hc169
                refine own_run S17 C [.iload 4] (pc' := 174) (Ls' := #[.val (.int x0), .val (.int x1), .val (.int x2), .val (.ref b1), .val (.int c0), .unset]) (st' := [(.int c0)]) (by decide +kernel) rfl ?_
                refine own_ldc S17 C (hw _ (List.mem_of_getElem? (i := 6) rfl)) (by decide +kernel) ?_
                show Con p e below _ (mkF m 176 #[.val (.int x0), .val (.int x1), .val (.int x2), .val (.ref b1), .val (.int c0), .unset] [(.int (65535 : Int32)), (.int c0)]) _
                refine own_icmp S17 C (cd := .eq) (o := 10) (by decide +kernel) (pc' := 186) ⟨by decide, by decide⟩ (fun hc176 => ?_) (fun hc176 => ?_)
                · skip
                  have k176 : c0.toInt = (65535 : Int) := (hh_eq).1.mp hc176
                  refine own_run S17 C [.iconst 1, .goto 4] (pc' := 191) (Ls' := #[.val (.int x0), .val (.int x1), .val (.int x2), .val (.ref b1), .val (.int c0), .unset]) (st' := [(.int (1 : Int32))]) (by decide +kernel) rfl ?_
                  exact cont2 _ (Or.inl ⟨rfl, by unfold own_E; omega⟩)
                · skip
                  have k176 : c0.toInt ≠ (65535 : Int) := (hh_eq).2.mp hc176
                  refine own_run S17 C [.iload 4] (pc' := 181) (Ls' := #[.val (.int x0), .val (.int x1), .val (.int x2), .val (.ref b1), .val (.int c0), .unset]) (st' := [(.int c0)]) (by decide +kernel) rfl ?_
                  refine own_ldc S17 C (hw _ (List.mem_of_getElem? (i := 8) rfl)) (by decide +kernel) ?_
                  show Con p e below _ (mkF m 183 #[.val (.int x0), .val (.int x1), .val (.int x2), .val (.ref b1), .val (.int c0), .unset] [(.int (1114111 : Int32)), (.int c0)]) _
                  refine own_icmp S17 C (cd := .le) (o := 7) (by decide +kernel) (pc' := 190) ⟨by decide, by decide⟩ (fun hc183 => ?_) (fun hc183 => ?_)
                  · skip
                    have k183 : c0.toInt ≤ (1114111 : Int) := (hh_le).1.mp hc183
                    refine own_run S17 C [.iconst 0] (pc' := 191) (Ls' := #[.val (.int x0), .val (.int x1), .val (.int x2), .val (.ref b1), .val (.int c0), .unset]) (st' := [(.int (0 : Int32))]) (by decide +kernel) rfl ?_
                    exact cont2 _ (Or.inr ⟨rfl, by unfold own_E; omega⟩)
                  · skip
                    have k183 : c0.toInt > (1114111 : Int) := (hh_le).2.mp hc183
                    refine own_run S17 C [.iconst 1, .goto 4] (pc' := 191) (Ls' := #[.val (.int x0), .val (.int x1), .val (.int x2), .val (.ref b1), .val (.int c0), .unset]) (st' := [(.int (1 : Int32))]) (by decide +kernel) rfl ?_
                    exact cont2 _ (Or.inl ⟨rfl, by unfold own_E; omega⟩)
            · skip
              have k155 : c0.toInt ≥ (55296 : Int) := (hh_lt).2.mp hc155
              refine own_run S17 C [.iload 4] (pc' := 160) (Ls' := #[.val (.int x0), .val (.int x1), .val (.int x2), .val (.ref b1), .val (.int c0), .unset]) (st' := [(.int c0)]) (by decide +kernel) rfl ?_
              refine own_ldc S17 C (hw _ (List.mem_of_getElem? (i := 3) rfl)) (by decide +kernel) ?_
              show Con p e below _ (mkF m 162 #[.val (.int x0), .val (.int x1), .val (.int x2), .val (.ref b1), .val (.int c0), .unset] [(.int (57343 : Int32)), (.int c0)]) _
              refine own_icmp S17 C (cd := .le) (o := 24) (by decide +kernel) (pc' := 186) ⟨by decide, by decide⟩ (fun hc162 => ?_) (fun hc162 => ?_)
              · skip
                have k162 : c0.toInt ≤ (57343 : Int) := (hh_le).1.mp hc162
                refine own_run S17 C [.iconst 1, .goto 4] (pc' := 191) (Ls' := #[.val (.int x0), .val (.int x1), .val (.int x2), .val (.ref b1), .val (.int c0), .unset]) (st' := [(.int (1 : Int32))]) (by decide +kernel) rfl ?_
                exact cont2 _ (Or.inl ⟨rfl, by unfold own_E; omega⟩)
              · skip
                have k162 : c0.toInt > (57343 : Int) := (hh_le).2.mp hc162
                refine own_run S17 C [.iload 4] (pc' := 167) (Ls' := #[.val (.int x0), .val (.int x1), .val (.int x2), .val (.ref b1), .val (.int c0), .unset]) (st' := [(.int c0)]) (by decide +kernel) rfl ?_
                refine own_ldc S17 C (hw _ (List.mem_of_getElem? (i := 17) rfl)) (by decide +kernel) ?_
                show Con p e below _ (mkF m 169 #[.val (.int x0), .val (.int x1), .val (.int x2), .val (.ref b1), .val (.int c0), .unset] [(.int (65534 : Int32)), (.int c0)]) _
                refine own_icmp S17 C (cd := .eq) (o := 17) (by decide +kernel) (pc' := 186) ⟨by decide, by decide⟩ (fun hc169 => ?_) (fun hc169 => ?_)
                · skip
                  have k169 : c0.toInt = (65534 : Int) := (hh_eq).1.mp hc169
                  refine own_run S17 C [.iconst 1, .goto 4] (pc' := 191) (Ls' := #[.val (.int x0), .val (.int x1), .val (.int x2), .val (.ref b1), .val (.int c0), .unset]) (st' := [(.int (1 : Int32))]) (by decide +kernel) rfl ?_
                  exact cont2 _ (Or.inl ⟨rfl, by unfold own_E; omega⟩)
                · skip
                  have k169 : c0.toInt ≠ (65534 : Int) := (hh_eq).2.mp hc169
                  refine own_run S17 C [.iload 4] (pc' := 174) (Ls' := #[.val (.int x0), .val (.int x1), .val (.int x2), .val (.ref b1), .val (.int c0), .unset]) (st' := [(.int c0)]) (by decide +kernel) rfl ?_
                  refine own_ldc S17 C (hw _ (List.mem_of_getElem? (i := 6) rfl)) (by decide +kernel) ?_
                  show Con p e below _ (mkF m 176 #[.val (.int x0), .val (.int x1), .val (.int x2), .val (.ref b1), .val (.int c0), .unset] [(.int (65535 : Int32)), (.int c0)]) _
                  refine own_icmp S17 C (cd := .eq) (o := 10) (by decide +kernel) (pc' := 186) ⟨by decide, by decide⟩ (fun hc176 => ?_) (fun hc176 => ?_)
                  · skip
                    have k176 : c0.toInt = (65535 : Int) := (hh_eq).1.mp hc176
                    refine own_run S17 C [.iconst 1, .goto 4] (pc' := 191) (Ls' := #[.val (.int x0), .val (.int x1), .val (.int x2), .val (.ref b1), .val (.int c0), .unset]) (st' := [(.int (1 : Int32))]) (by decide +kernel) rfl ?_
                    exact cont2 _ (Or.inl ⟨rfl, by unfold own_E; omega⟩)
                  · skip
                    have k176 : c0.toInt ≠ (65535 : Int) := (hh_eq).2.mp hc176
                    refine own_run S17 C [.iload 4] (pc' := 181) (Ls' := #[.val (.int x0), .val (.int x1), .val (.int x2), .val (.ref b1), .val (.int c0), .unset]) (st' := [(.int c0)]) (by decide +kernel) rfl ?_
                    refine own_ldc S17 C (hw _ (List.mem_of_getElem? (i := 8) rfl)) (by decide +kernel) ?_
                    show Con p e below _ (mkF m 183 #[.val (.int x0), .val (.int x1), .val (.int x2), .val (.ref b1), .val (.int c0), .unset] [(.int (1114111 : Int32)), (.int c0)]) _
                    refine own_icmp S17 C (cd := .le) (o := 7) (by decide +kernel) (pc' := 190) ⟨by decide, by decide⟩ (fun hc183 => ?_) (fun hc183 => ?_)
                    · skip
                      have k183 : c0.toInt ≤ (1114111 : Int) := (hh_le).1.mp hc183
                      refine own_run S17 C [.iconst 0] (pc' := 191) (Ls' := #[.val (.int x0), .val (.int x1), .val (.int x2), .val (.ref b1), .val (.int c0), .unset]) (st' := [(.int (0 : Int32))]) (by decide +kernel) rfl ?_
                      exact cont2 _ (Or.inr ⟨rfl, by unfold own_E; omega⟩)
                    · skip
                      have k183 : c0.toInt > (1114111 : Int) := (hh_le).2.mp hc183
                      refine own_run S17 C [.iconst 1, .goto 4] (pc' := 191) (Ls' := #[.val (.int x0), .val (.int x1), .val (.int x2), .val (.ref b1), .val (.int c0), .unset]) (st' := [(.int (1 : Int32))]) (by decide +kernel) rfl ?_
                      exact cont2 _ (Or.inl ⟨rfl, by unfold own_E; omega⟩)
          · skip
            have k141 : c0.toInt ≠ (10 : Int) := (hh_eq).2.mp hc141
            refine own_run S17 C [.iload 4, .bipush 13] (pc' := 148) (Ls' := #[.val (.int x0), .val (.int x1), .val (.int x2), .val (.ref b1), .val (.int c0), .unset]) (st' := [(.int (13 : Int32)), (.int c0)]) (by decide +kernel) rfl ?_
            refine own_icmp S17 C (cd := .ne) (o := 38) (by decide +kernel) (pc' := 186) ⟨by decide, by decide⟩ (fun hc148 => ?_) (fun hc148 => ?_)
            · skip
              have k148 : c0.toInt ≠ (13 : Int) := (hh_ne).1.mp hc148
              refine own_run S17 C [.iconst 1, .goto 4] (pc' := 191) (Ls' := #[.val (.int x0), .val (.int x1), .val (.int x2), .val (.ref b1), .val (.int c0), .unset]) (st' := [(.int (1 : Int32))]) (by decide +kernel) rfl ?_
              exact cont2 _ (Or.inl ⟨rfl, by unfold own_E; omega⟩)
            · skip
              have k148 : c0.toInt = (13 : Int) := (hh_ne).2.mp hc148
              refine own_run S17 C [.iload 4] (pc' := 153) (Ls' := #[.val (.int x0), .val (.int x1), .val (.int x2), .val (.ref b1), .val (.int c0), .unset]) (st' := [(.int c0)]) (by decide +kernel) rfl ?_
              refine own_ldc S17 C (hw _ (List.mem_of_getElem? (i := 2) rfl)) (by decide +kernel) ?_
              show Con p e below _ (mkF m 155 #[.val (.int x0), .val (.int x1), .val (.int x2), .val (.ref b1), .val (.int c0), .unset] [(.int (55296 : Int32)), (.int c0)]) _
              refine own_icmp S17 C (cd := .lt) (o := 10) (by decide +kernel) (pc' := 165) ⟨by decide, by decide⟩ (fun hc155 => ?_) (fun hc155 => ?_)
              · skip
                have k155 : c0.toInt < (55296 : Int) := (hh_lt).1.mp hc155
                refine own_run S17 C [.iload 4] (pc' := 167) (Ls' := #[.val (.int x0), .val (.int x1), .val (.int x2), .val (.ref b1), .val (.int c0), .unset]) (st' := [(.int c0)]) (by decide +kernel) rfl ?_
                refine own_ldc S17 C (hw _ (List.mem_of_getElem? (i := 17) rfl)) (by decide +kernel) ?_
                show Con p e below _ (mkF m 169 #[.val (.int x0), .val (.int x1), .val (.int x2), .val (.ref b1), .val (.int c0), .unset] [(.int (65534 : Int32)), (.int c0)]) _
                refine own_icmp S17 C (cd := .eq) (o := 17) (by decide +kernel) (pc' := 186) ⟨by decide, by decide⟩ (fun hc169 => ?_) (fun hc169 => ?_)
                · skip
                  have k169 : c0.toInt = (65534 : Int) := (hh_eq).1.mp hc169
                  refine own_run S17 C [.iconst 1, .goto 4] (pc' := 191) (Ls' := #[.val (.int x0), .val (.int x1), .val (.int x2), .val (.ref b1), .val (.int c0), .unset]) (st' := [(.int (1 : Int32))]) (by decide +kernel) rfl ?_
                  exact cont2 _ (Or.inl ⟨rfl, by unfold own_E; omega⟩)
                · skip
                  have k169 : c0.toInt ≠ (65534 : Int) := (hh_eq).2.mp hc169
                  refine own_run S17 C [.iload 4] (pc' := 174) (Ls' := #[.val (.int x0), .val (.int x1), .val (.int x2), .val (.ref b1), .val (.int c0), .unset]) (st' := [(.int c0)]) (by decide +kernel) rfl ?_
                  refine own_ldc S17 C (hw _ (List.mem_of_getElem? (i := 6) rfl)) (by decide +kernel) ?_
                  show Con p e below _ (mkF m 176 #[.val (.int x0), .val (.int x1), .val (.int x2), .val (.ref b1), .val (.int c0), .unset] [(.int (65535 : Int32)), (.int c0)]) _
                  refine own_icmp S17 C (cd := .eq) (o := 10) (by decide +kernel) (pc' := 186) ⟨by decide, by decide⟩ (fun hc176 => ?_) (fun hc176 => ?_)
                  · skip
                    have k176 : c0.toInt = (65535 : Int) := (hh_eq).1.mp hc176
                    refine own_run S17 C [.iconst 1, .goto 4] (pc' := 191) (Ls' := #[.val (.int x0), .val (.int x1), .val (.int x2), .val (.ref b1), .val (.int c0), .unset]) (st' := [(.int (1 : Int32))]) (by decide +kernel) rfl ?_
                    exact cont2 _ (Or.inl ⟨rfl, by unfold own_E; omega⟩)
                  · skip
                    have k176 : c0.toInt ≠ (65535 : Int) := (hh_eq).2.mp hc176
                    refine own_run S17 C [.iload 4] (pc' := 181) (Ls' := #[.val (.int x0), .val (.int x1), .val (.int x2), .val (.ref b1), .val (.int c0), .unset]) (st' := [(.int c0)]) (by decide +kernel) rfl ?_
                    refine own_ldc S17 C (hw _ (List.mem_of_getElem? (i := 8) rfl)) (by decide +kernel) ?_
                    show Con p e below _ (mkF m 183 #[.val (.int x0), .val (.int x1), .val (.int x2), .val (.ref b1), .val (.int c0), .unset] [(.int (1114111 : Int32)), (.int c0)]) _
                    refine own_icmp S17 C (cd := .le) (o := 7) (by decide +kernel) (pc' := 190) ⟨by decide, by decide⟩ (fun hc183 => ?_) (fun hc183 => ?_)
                    · skip
                      have k183 : c0.toInt ≤ (1114111 : Int) := (hh_le).1.mp hc183
                      refine own_run S17 C [.iconst 0] (pc' := 191) (Ls' := #[.val (.int x0), .val (.int x1), .val (.int x2), .val (.ref b1), .val (.int c0), .unset]) (st' := [(.int (0 : Int32))]) (by decide +kernel) rfl ?_
                      exact cont2 _ (Or.inr ⟨rfl, by unfold own_E; omega⟩)
                    · skip
                      have k183 : c0.toInt > (1114111 : Int) := (hh_le).2.mp hc183
                      refine own_run S17 C [.iconst 1, .goto 4] (pc' := 191) (Ls' := #[.val (.int x0), .val (.int x1), .val (.int x2), .val (.ref b1), .val (.int c0), .unset]) (st' := [(.int (1 : Int32))]) (by decide +kernel) rfl ?_
                      exact cont2 _ (Or.inl ⟨rfl, by unfold own_E; omega⟩)
              · skip
                have k155 : c0.toInt ≥ (55296 : Int) := (hh_lt).2.mp hc155
                refine own_run S17 C [.iload 4] (pc' := 160) (Ls' := #[.val (.int x0), .val (.int x1), .val (.int x2), .val (.ref b1), .val (.int c0), .unset]) (st' := [(.int c0)]) (by decide +kernel) rfl ?_
                refine own_ldc S17 C (hw _ (List.mem_of_getElem? (i := 3) rfl)) (by decide +kernel) ?_
                show Con p e below _ (mkF m 162 #[.val (.int x0), .val (.int x1), .val (.int x2), .val (.ref b1), .val (.int c0), .unset] [(.int (57343 : Int32)), (.int c0)]) _
                refine own_icmp S17 C (cd := .le) (o := 24) (by decide +kernel) (pc' := 186) ⟨by decide, by decide⟩ (fun hc162 => ?_) (fun hc162 => ?_)
                · skip
                  have k162 : c0.toInt ≤ (57343 : Int) := (hh_le).1.mp hc162
                  refine own_run S17 C [.iconst 1, .goto 4] (pc' := 191) (Ls' := #[.val (.int x0), .val (.int x1), .val (.int x2), .val (.ref b1), .val (.int c0), .unset]) (st' := [(.int (1 : Int32))]) (by decide +kernel) rfl ?_
                  exact cont2 _ (Or.inl ⟨rfl, by unfold own_E; omega⟩)
                · skip
                  have k162 : c0.toInt > (57343 : Int) := (hh_le).2.mp hc162
                  refine own_run S17 C [.iload 4] (pc' := 167) (Ls' := #[.val (.int x0), .val (.int x1), .val (.int x2), .val (.ref b1), .val (.int c0), .unset]) (st' := [(.int c0)]) (by decide +kernel) rfl ?_
                  refine own_ldc S17 C (hw _ (List.mem_of_getElem? (i := 17) rfl)) (by decide +kernel) ?_
                  show Con p e below _ (mkF m 169 #[.val (.int x0), .val (.int x1), .val (.int x2), .val (.ref b1), .val (.int c0), .unset] [(.int (65534 : Int32)), (.int c0)]) _
                  refine own_icmp S17 C (cd := .eq) (o := 17) (by decide +kernel) (pc' := 186) ⟨by decide, by decide⟩ (fun hc169 => ?_) (fun hc169 => ?_)
                  · skip
                    have k169 : c0.toInt = (65534 : Int) := (hh_eq).1.mp hc169
                    refine own_run S17 C [.iconst 1, .goto 4] (pc' := 191) (Ls' := #[.val (.int x0), .val (.int x1), .val (.int x2), .val (.ref b1), .val (.int c0), .unset]) (st' := [(.int (1 : Int32))]) (by decide +kernel) rfl ?_
                    exact cont2 _ (Or.inl ⟨rfl, by unfold own_E; omega⟩)
                  · skip
                    have k169 : c0.toInt ≠ (65534 : Int) := (hh_eq).2.mp hc169
                    refine own_run S17 C [.iload 4] (pc' := 174) (Ls' := #[.val (.int x0), .val (.int x1), .val (.int x2), .val (.ref b1), .val (.int c0), .unset]) (st' := [(.int c0)]) (by decide +kernel) rfl ?_
                    refine own_ldc S17 C (hw _ (List.mem_of_getElem? (i := 6) rfl)) (by decide +kernel) ?_
                    show Con p e below _ (mkF m 176 #[.val (.int x0), .val (.int x1), .val (.int x2), .val (.ref b1), .val (.int c0), .unset] [(.int (65535 : Int32)), (.int c0)]) _
                    refine own_icmp S17 C (cd := .eq) (o := 10) (by decide +kernel) (pc' := 186) ⟨by decide, by decide⟩ (fun hc176 => ?_) (fun hc176 => ?_)
                    · skip
                      have k176 : c0.toInt = (65535 : Int) := (hh_eq).1.mp hc176
                      refine own_run S17 C [.iconst 1, .goto 4] (pc' := 191) (Ls' := #[.val (.int x0), .val (.int x1), .val (.int x2), .val (.ref b1), .val (.int c0), .unset]) (st' := [(.int (1 : Int32))]) (by decide +kernel) rfl ?_
                      exact cont2 _ (Or.inl ⟨rfl, by unfold own_E; omega⟩)
                    · skip
                      have k176 : c0.toInt ≠ (65535 : Int) := (hh_eq).2.mp hc176
                      refine own_run S17 C [.iload 4] (pc' := 181) (Ls' := #[.val (.int x0), .val (.int x1), .val (.int x2), .val (.ref b1), .val (.int c0), .unset]) (st' := [(.int c0)]) (by decide +kernel) rfl ?_
                      refine own_ldc S17 C (hw _ (List.mem_of_getElem? (i := 8) rfl)) (by decide +kernel) ?_
                      show Con p e below _ (mkF m 183 #[.val (.int x0), .val (.int x1), .val (.int x2), .val (.ref b1), .val (.int c0), .unset] [(.int (1114111 : Int32)), (.int c0)]) _
                      refine own_icmp S17 C (cd := .le) (o := 7) (by decide +kernel) (pc' := 190) ⟨by decide, by decide⟩ (fun hc183 => ?_) (fun hc183 => ?_)
                      · skip
                        have k183 : c0.toInt ≤ (1114111 : Int) := (hh_le).1.mp hc183
                        refine own_run S17 C [.iconst 0] (pc' := 191) (Ls' := #[.val (.int x0), .val (.int x1), .val (.int x2), .val (.ref b1), .val (.int c0), .unset]) (st' := [(.int (0 : Int32))]) (by decide +kernel) rfl ?_
                        exact cont2 _ (Or.inr ⟨rfl, by unfold own_E; omega⟩)
                      · skip
                        have k183 : c0.toInt > (1114111 : Int) := (hh_le).2.mp hc183
                        refine own_run S17 C [.iconst 1, .goto 4] (pc' := 191) (Ls' := #[.val (.int x0), .val (.int x1), .val (.int x2), .val (.ref b1), .val (.int c0), .unset]) (st' := [(.int (1 : Int32))]) (by decide +kernel) rfl ?_
                        exact cont2 _ (Or.inl ⟨rfl, by unfold own_E; omega⟩)
  refine own_if S17 C (cd := .ne) (o := 7) (by decide +kernel) (pc' := 104) ⟨by decide, by decide⟩ (fun hc97 => ?_) (fun hc97 => ?_)
  · skip
    refine own_run S17 C [.aload_n 3, .iload_n 1, .iconst 1, .iushr, .bipush 15, .iand] (pc' := 111) (Ls' := #[.val (.int x0), .val (.int x1), .val (.int x2), .val (.ref b1), .unset, .unset]) (st' := [(.int ((XT.ushr x1 (1 : Int32)) &&& (15 : Int32))), (.ref b1)]) (by decide +kernel) rfl ?_
    refine own_iaload S17 C A17 (by decide +kernel) (j := ((XT.ushr x1 (1 : Int32)) &&& (15 : Int32))) (v := (([(9 : Int32), (10 : Int32), (13 : Int32), (32 : Int32), (31 : Int32), (55295 : Int32), (55296 : Int32), (57343 : Int32), (57344 : Int32), (65533 : Int32), (65535 : Int32), (65536 : Int32), (1114111 : Int32), (0 : Int32), (-2147483648 : Int32), (2147483647 : Int32)] : List Int32).getD ((XT.ushr x1 (1 : Int32)) &&& (15 : Int32)).toNatClampNeg 0)) (by have := own_and_le (XT.ushr x1 (1 : Int32)) (15 : Int32) (by decide); have e15 : (15 : Int32).toInt = 15 := rfl; rw [e15] at this; exact ⟨this.1, show _ < (16 : Int) by omega⟩) rfl ?_
    show Con p e below _ (mkF m 112 #[.val (.int x0), .val (.int x1), .val (.int x2), .val (.ref b1), .unset, .unset] [(.int (([(9 : Int32), (10 : Int32), (13 : Int32), (32 : Int32), (31 : Int32), (55295 : Int32), (55296 : Int32), (57343 : Int32), (57344 : Int32), (65533 : Int32), (65535 : Int32), (65536 : Int32), (1114111 : Int32), (0 : Int32), (-2147483648 : Int32), (2147483647 : Int32)] : List Int32).getD ((XT.ushr x1 (1 : Int32)) &&& (15 : Int32)).toNatClampNeg 0))]) _
    refine own_run S17 C [.iload_n 2, .iconst 3, .irem, .iadd] (pc' := 116) (Ls' := #[.val (.int x0), .val (.int x1), .val (.int x2), .val (.ref b1), .unset, .unset]) (st' := [(.int ((([(9 : Int32), (10 : Int32), (13 : Int32), (32 : Int32), (31 : Int32), (55295 : Int32), (55296 : Int32), (57343 : Int32), (57344 : Int32), (65533 : Int32), (65535 : Int32), (65536 : Int32), (1114111 : Int32), (0 : Int32), (-2147483648 : Int32), (2147483647 : Int32)] : List Int32).getD ((XT.ushr x1 (1 : Int32)) &&& (15 : Int32)).toNatClampNeg 0) + (x2 - x2 / (3 : Int32) * (3 : Int32))))]) (by decide +kernel) rfl ?_
    exact cont _
  · skip
    refine own_run S17 C [.iload_n 0, .goto 15] (pc' := 116) (Ls' := #[.val (.int x0), .val (.int x1), .val (.int x2), .val (.ref b1), .unset, .unset]) (st' := [(.int x0)]) (by decide +kernel) rfl ?_
    exact cont _
set_option maxRecDepth 65536 in
set_option maxHeartbeats 40000000 in
theorem comes_1 {Post : Tables → Env → Array Value → State → Outcome → State → Prop} (hpost : ∀ tb e args s v u, (limb_1_1.after args s (.returned v) u = true ∧ limb_1_2.after args s (.returned v) u = true ∧ True) → FrameEnd s (.returned v) u (Jvm.fieldLocs frame_1_writes args s ++ Jvm.arrayLocs frame_1_arrays args s ++ Jvm.staticLocs frame_1_statics s) 16 128 → Post tb e args s (.returned v) u) :
    ArmFor flags0 classFile x code maxLocals ret World_1 tables_1 room_1 Calls_1 rest_1 Pre_1 Post := by
  intro l hfl _ _ p e ha hc hk s m args below hf hA hF happ hP
  obtain ⟨hcalls, hrest, hpre⟩ := hP
  obtain ⟨-, -, -, hnamed, -, -, -, hat⟩ := (Spec.applies_iff hf).mp happ
  obtain ⟨hg, hn⟩ := and_e (Cond.before_iff.mp (show (Jvm.Cond.and given_1 narrow_1).before args s = true from hpre))
  obtain ⟨hcount, g0⟩ := and_e hg
  obtain ⟨k0, g1⟩ := and_e g0
  obtain ⟨k1, g2⟩ := and_e g1
  obtain ⟨w0, w1, w2, rfl⟩ : ∃ w0 w1 w2 : Value, args = #[w0, w1, w2] := by
    have hs : args.size = 3 := by simpa [Cond.value, given_1] using hcount
    obtain ⟨L⟩ := args
    match L, hs with
    | [w0, w1, w2], _ => exact ⟨w0, w1, w2, rfl⟩
  have hw := fun d (hd : d ∈ tables_1) => atoms_spec (ws := Jvm.Cond.code x code maxLocals ret :: tables_1) hat d (List.mem_cons_of_mem _ hd)
  obtain ⟨i0, ei0⟩ := is_v k0
  obtain rfl : w0 = (.int i0) := Option.some.inj ei0
  obtain ⟨i1, ei1⟩ := is_v k1
  obtain rfl : w1 = (.int i1) := Option.some.inj ei1
  obtain ⟨i2, ei2⟩ := is_v g2
  obtain rfl : w2 = (.int i2) := Option.some.inj ei2
  obtain ⟨n, o, h1, h2, h3, v, L, rfl, ⟨N, -, hv⟩, hq⟩ := rm_law l s _ hw tables_1 i0 i1 i2 s.heap s.heap.size (Nat.le_refl _) p e ha hc hk s m _ below hf ((Spec.applies_iff_loose hf).mp happ).1 ⟨rfl, State.Warmed39.refl s, rfl⟩ trivial
  obtain rfl : v = some (.int 1) := hv
  refine ⟨n, _, h1, h2, h3, hpost _ _ _ _ _ _ ⟨Cond.after_iff.mpr rfl, Cond.after_iff.mpr (eq_i res_at (Term.int_eval (1)) rfl), trivial⟩ ⟨hq.1, hq.2.1, (hq.2.2.sift fun y hy => Or.inr (N y hy)).mono (by decide) (by decide)⟩⟩
theorem main_1_1 : Claimed_1_1 := comes_1 fun _ _ _ _ _ _ h hF => ⟨h.1, hF⟩
theorem main_1_2 : Claimed_1_2 := comes_1 fun _ _ _ _ _ _ h hF => ⟨h.2.1, hF⟩
end Jvm.Pilot.@@N@@
namespace Jvm.Pilot.@@N@@
open Jvm Jvm.ClassFile Sem Op Lib Jvm.Free Jvm.Stand Jvm.Pilot.@@N@@.Jvm.D
/-! MADE BY PROGRAM (witnessworld.py) out of the Statement's table words and the real class files: 9 classes; the members and pool entries that the words name. The judged class is class 1, her method 1. -/
namespace start1
open Jvm.ClassFile
def u (s : String) : CpInfo := .utf8 (stringToUtf16 s)
/-- a pool by its gaps: so many unusable entries, then the entry; so many at the end -/
def gap : Nat → List CpInfo → List CpInfo
  | 0, r => r
  | n + 1, r => .unusable :: gap n r
def poolList (es : List (Nat × CpInfo)) (last : Nat) : List CpInfo := es.foldr (fun e r => gap e.1 (e.2 :: r)) (gap last [])
def pool (es : List (Nat × CpInfo)) (last : Nat) : Array CpInfo := ⟨poolList es last⟩
def fileOf (pool : Array CpInfo) (this : Nat) (attrs : Array Attribute := #[]) (ms : Array MethodInfo := #[]) (fl : Nat := 33) (sup : Nat := 0) (ifs : Array Nat := #[]) (fds : Array FieldInfo := #[]) : ClassFile where
  minorVersion := 0
  majorVersion := 65
  constantPool := pool
  accessFlags := fl
  thisClass := this
  superClass := sup
  interfaces := ifs
  fields := fds
  methods := ms
  attributes := attrs
def plain (name : String) (sup : Option ClassId) : Class where
  name := name
  kind := .ordinary
  loader := none
  accessFlags := 33
  super := sup
  interfaces := #[]
  cf := none
  fields := #[]
  methods := #[]
  instanceTypes := #[]
  staticTypes := #[]
  resolved := #[]
  callSites := []
  init := .initialized
  statics := none
  mirror := none

def pool0 : Array CpInfo := pool [(5, u "<init>"), (0, u "()V"), (1, .class_ 10), (1, u "java/lang/Object")] 113

def k0m0 : Method := { name := "<init>", desc := "()V", sig := { parameters := [], returnType := none }, accessFlags := 1, code := none }
/-- java/lang/Object -/
def k0 : Class := { plain "java/lang/Object" none with
  accessFlags := 33
  interfaces := #[]
  cf := some (fileOf pool0 8 #[] #[{ accessFlags := 1, nameIndex := 5, descriptorIndex := 6, attributes := #[] }] 33 0 #[] #[])
  fields := #[]
  methods := #[k0m0]
  instanceTypes := #[]
  staticTypes := #[]
  resolved := Array.replicate 124 none
  statics := none }

def pool1 : Array CpInfo := pool [(2, .class_ 4), (1, u "java/lang/Object"), (0, u "<init>"), (0, u "()V"), (0, .integer 55295), (0, .integer 55296), (0, .integer 57343), (0, .integer 57344), (0, .integer 65533), (0, .integer 65535), (0, .integer 65536), (0, .integer 1114111), (2, .integer 2147483648), (0, .integer 2147483647), (0, .integer 65534), (0, .methodref 21 22), (0, .class_ 23), (0, .nameAndType 24 25), (0, u "com/example/klarbrief/klarbrief/core/XmlCharacters"), (0, u "isChar"), (0, u "(I)Z"), (0, .class_ 27), (0, u "com/example/klarbrief/klarbrief/core/XmlCharactersIsCharPinLaw"), (2, u "law"), (0, u "(III)Z")] 5

def k1m0 : Method := { name := "<init>", desc := "()V", sig := { parameters := [], returnType := none }, accessFlags := 2, code := none }
def k1c1 : Code := { maxStack := 4, maxLocals := 6, code := code, exceptionTable := #[], attributes := #[] }
def k1m1 : Method := { name := "law", desc := "(III)Z", sig := { parameters := [.int, .int, .int], returnType := some .boolean }, accessFlags := 9, code := some k1c1 }
/-- com/example/klarbrief/klarbrief/core/XmlCharactersIsCharPinLaw -/
def k1 : Class := { plain "com/example/klarbrief/klarbrief/core/XmlCharactersIsCharPinLaw" (some 0) with
  accessFlags := 49
  interfaces := #[]
  cf := some (fileOf pool1 26 #[] #[{ accessFlags := 2, nameIndex := 5, descriptorIndex := 6, attributes := #[] }, { accessFlags := 9, nameIndex := 30, descriptorIndex := 31, attributes := #[] }] 49 2 #[] #[])
  fields := #[]
  methods := #[k1m0, k1m1]
  instanceTypes := #[]
  staticTypes := #[]
  resolved := Array.replicate 37 none
  statics := none }

def pool2 : Array CpInfo := pool [(2, .class_ 4), (1, u "java/lang/Object"), (0, u "<init>"), (0, u "()V"), (0, .integer 55295), (3, .integer 65533), (0, .integer 65536), (2, .class_ 17), (1, u "com/example/klarbrief/klarbrief/core/XmlCharacters"), (1, u "(I)Z"), (8, u "NAME_START"), (0, u "[Z"), (2, u "NAME_CHAR"), (8, .integer 57344), (0, .integer 1114111), (16, u "TEXT"), (0, u "[B"), (2, u "PLAIN_VALUE"), (0, u "TEXT_SPACE"), (0, u "B"), (2, u "TEXT_SHOWN"), (6, u "isChar")] 17

def k2m0 : Method := { name := "<init>", desc := "()V", sig := { parameters := [], returnType := none }, accessFlags := 2, code := none }
def k2c1 : Code := { maxStack := 2, maxLocals := 1, code := prog_107_method_5_code, exceptionTable := #[], attributes := #[] }
def k2m1 : Method := { name := "isChar", desc := "(I)Z", sig := { parameters := [.int], returnType := some .boolean }, accessFlags := 8, code := some k2c1 }
/-- com/example/klarbrief/klarbrief/core/XmlCharacters -/
def k2 : Class := { plain "com/example/klarbrief/klarbrief/core/XmlCharacters" (some 0) with
  accessFlags := 48
  interfaces := #[]
  cf := some (fileOf pool2 15 #[] #[{ accessFlags := 2, nameIndex := 5, descriptorIndex := 6, attributes := #[] }, { accessFlags := 8, nameIndex := 75, descriptorIndex := 19, attributes := #[] }] 48 2 #[] #[{ accessFlags := 24, nameIndex := 64, descriptorIndex := 65, attributes := #[] }, { accessFlags := 24, nameIndex := 68, descriptorIndex := 65, attributes := #[] }, { accessFlags := 24, nameIndex := 59, descriptorIndex := 60, attributes := #[] }, { accessFlags := 24, nameIndex := 63, descriptorIndex := 29, attributes := #[] }, { accessFlags := 24, nameIndex := 28, descriptorIndex := 29, attributes := #[] }, { accessFlags := 24, nameIndex := 32, descriptorIndex := 29, attributes := #[] }])
  fields := #[{ name := "TEXT_SPACE", type := .byte, accessFlags := 24, slot := 0, constantValue := 0 }, { name := "TEXT_SHOWN", type := .byte, accessFlags := 24, slot := 1, constantValue := 0 }, { name := "TEXT", type := (.array .byte), accessFlags := 24, slot := 2, constantValue := 0 }, { name := "PLAIN_VALUE", type := (.array .boolean), accessFlags := 24, slot := 3, constantValue := 0 }, { name := "NAME_START", type := (.array .boolean), accessFlags := 24, slot := 4, constantValue := 0 }, { name := "NAME_CHAR", type := (.array .boolean), accessFlags := 24, slot := 5, constantValue := 0 }]
  methods := #[k2m0, k2m1]
  instanceTypes := #[]
  staticTypes := #[.byte, .byte, (.array .byte), (.array .boolean), (.array .boolean), (.array .boolean)]
  resolved := Array.replicate 93 none
  statics := none }

def pool3 : Array CpInfo := pool [(1, u "java/lang/Cloneable"), (0, .class_ 1), (0, u "java/lang/Object"), (0, .class_ 3)] 3

/-- java/lang/Cloneable -/
def k3 : Class := { plain "java/lang/Cloneable" (some 0) with
  accessFlags := 1537
  interfaces := #[]
  cf := some (fileOf pool3 2 #[] #[] 1537 4 #[] #[])
  fields := #[]
  methods := #[]
  instanceTypes := #[]
  staticTypes := #[]
  resolved := Array.replicate 8 none
  statics := none }

def pool4 : Array CpInfo := pool [(1, u "java/io/Serializable"), (0, .class_ 1), (0, u "java/lang/Object"), (0, .class_ 3)] 3

/-- java/io/Serializable -/
def k4 : Class := { plain "java/io/Serializable" (some 0) with
  accessFlags := 1537
  interfaces := #[]
  cf := some (fileOf pool4 2 #[] #[] 1537 4 #[] #[])
  fields := #[]
  methods := #[]
  instanceTypes := #[]
  staticTypes := #[]
  resolved := Array.replicate 8 none
  statics := none }

/-- the primitive byte -/
def k5 : Class := { plain "byte" none with kind := .primitive 'B', accessFlags := 0x411 }
/-- [B -/
def k6 : Class := { plain "[B" (some 0) with kind := .array 5 .byte, interfaces := #[3, 4], accessFlags := 1041 }

/-- the primitive int -/
def k7 : Class := { plain "int" none with kind := .primitive 'I', accessFlags := 0x411 }
/-- [I -/
def k8 : Class := { plain "[I" (some 0) with kind := .array 7 .int, interfaces := #[3, 4], accessFlags := 1041 }

def heap : Heap := #[]
def classes : Array Class := #[k0, k1, k2, k3, k4, k5, k6, k7, k8]
def interned : List (Array UInt16 × Addr) := []
def slotsUsed : Nat := 0
def theMethod : MethodId := ⟨1, 1⟩
def args0 : Array Value := #[.int 5, .int 3, .int 7]
def aboutOver (below : List Frame) : State where
  vm := { classes := classes, interned := interned.toArray }
  heap := heap
  slotsUsed := slotsUsed
  threads := #[{ frames := .invoking theMethod args0 :: below }]
def below0 : List Frame := [.native { method := ⟨0, 0⟩, args := #[] }]
def about1 : State := aboutOver below0
def p0 : Program := .bare "" "" ""
def e0 : Env := launch0.env 0 0 0
theorem w_frames : about1.frames = Frame.invoking theMethod args0 :: below0 := rfl
set_option maxRecDepth 65536 in
theorem w_args : argsFit about1.vm theMethod args0 = true := by decide +kernel
set_option maxRecDepth 65536 in
theorem w_heap : heapFits about1 = true := by decide +kernel
set_option maxRecDepth 65536 in
theorem w_runnable : about1.curStatus? = some .runnable := by decide +kernel
set_option maxRecDepth 65536 in
theorem w_alone : about1.alone = true := by decide +kernel
set_option maxRecDepth 65536 in
theorem w_named : about1.methodNamed? x = some theMethod := by decide +kernel
set_option maxRecDepth 65536 in
theorem w_hears : about1.hears theMethod below0 = true := by decide +kernel
set_option maxRecDepth 65536 in
theorem w_ripe : about1.ripe theMethod args0 below0 = true := by decide +kernel
theorem w_running : about1.status = .running := rfl
set_option maxRecDepth 65536 in
theorem w_room : about1.hasRoom e0.platform room_1 = true :=
  launch0.hasRoom_least _ room_1 (by decide +kernel) (by decide +kernel) (by decide +kernel) (by decide +kernel) (by decide +kernel) (by decide +kernel)
theorem allAtoms_all (ts : List Jvm.Cond) (a : Array Jvm.Value) (st : Jvm.State) : (allAtoms ts).before a st = ts.all (fun c => c.before a st) := by
  induction ts with
  | nil => rfl
  | cons c t ih =>
    show (Jvm.Cond.and c (allAtoms t)).before a st = _
    rw [Jvm.Cond.before_and, ih, List.all_cons]
def words1 : List Jvm.Cond := Jvm.Cond.code x code maxLocals ret :: tables_1
/-- a 'code' word, met by the world's own term for the bytes: nothing is compared byte by byte -/
theorem code_word {y : MethodName} {bytes : ByteArray} {mx : Nat} {rt : Option FieldType} {a : Array Value} {s : State} {m : MethodId} {meth : Method} {c : Code} (h1 : s.methodNamed? y = some m) (h2 : s.vm.method? m = some meth) (h3 : meth.code = some c) (h4 : c.code = bytes)
    (h5 : (c.maxLocals == mx && c.exceptionTable.isEmpty && decide (c.maxStack ≤ mostOperands) && decide (meth.sig.returnType = rt) && !meth.locks && decide (parseMethodDescriptor y.desc = some meth.sig)) = true) : (Jvm.Cond.code y bytes mx rt).before a s = true := by
  simp only [Bool.and_eq_true, beq_iff_eq, Bool.not_eq_true', decide_eq_true_eq] at h5
  obtain ⟨⟨⟨⟨⟨g1, g2⟩, g3⟩, g4⟩, g5⟩, g6⟩ := h5
  simp [Cond.before, Cond.holds, Cond.value, h1, h2, h3, h4, g1, g2, g3, g4, g5, g6]
def isCode : Jvm.Cond → Bool
  | .code _ _ _ _ => true
  | _ => false
theorem all_split {L : List Jvm.Cond} {P : Jvm.Cond → Bool} (h1 : L.all (fun c => isCode c || P c) = true) (h2 : ∀ c ∈ L.filter isCode, P c = true) : L.all P = true := by
  refine List.all_eq_true.mpr fun c hc => ?_
  have h := List.all_eq_true.mp h1 c hc
  rcases Bool.eq_false_or_eq_true (isCode c) with hi | hi
  · exact h2 c (List.mem_filter.mpr ⟨hc, hi⟩)
  · simpa [hi] using h
set_option maxRecDepth 65536 in
theorem w_c0 : (Jvm.Cond.code x code maxLocals ret).before args0 about1 = true := code_word (m := ⟨1, 1⟩) (meth := k1m1) (c := k1c1) (by decide +kernel) rfl rfl rfl (by decide +kernel)
set_option maxRecDepth 65536 in
theorem w_c1 : (Jvm.Cond.code ({ cls := "com/example/klarbrief/klarbrief/core/XmlCharacters", name := "isChar", desc := "(I)Z" } : Jvm.MethodName) prog_107_method_5_code (1 : Nat) (Option.some Jvm.ClassFile.FieldType.boolean)).before args0 about1 = true := code_word (m := ⟨2, 1⟩) (meth := k2m1) (c := k2c1) (by decide +kernel) rfl rfl rfl (by decide +kernel)
def codes1 : List Jvm.Cond := [Jvm.Cond.code x code maxLocals ret, Jvm.Cond.code ({ cls := "com/example/klarbrief/klarbrief/core/XmlCharacters", name := "isChar", desc := "(I)Z" } : Jvm.MethodName) prog_107_method_5_code (1 : Nat) (Option.some Jvm.ClassFile.FieldType.boolean)]
set_option maxRecDepth 65536 in
theorem codes_eq : words1.filter isCode = codes1 := rfl
theorem w_codes : ∀ c ∈ words1.filter isCode, c.before args0 about1 = true := by
  rw [codes_eq]
  intro c hc
  simp only [codes1, List.mem_cons, List.not_mem_nil, or_false] at hc
  rcases hc with rfl | rfl
  · exact w_c0
  · exact w_c1
set_option maxRecDepth 65536 in
theorem w_t1 : words1.all (fun c => isCode c || c.before args0 about1) = true := by decide +kernel
theorem w_tables : (allAtoms (Jvm.Cond.code x code maxLocals ret :: tables_1)).before args0 about1 = true := by
  rw [allAtoms_all]
  show words1.all (fun c => c.before args0 about1) = true
  refine all_split ?_ w_codes
  rw [w_t1]
set_option maxRecDepth 65536 in
theorem w_case : (Jvm.Cond.and given_1 narrow_1).before args0 about1 = true := by decide +kernel
theorem w_applies : (headSpec (Jvm.Cond.code x code maxLocals ret :: tables_1) room_1).applies x e0.platform about1 = true :=
  (Spec.applies_iff w_frames).mpr ⟨w_running, w_runnable, w_alone, w_named, w_hears, w_ripe, w_room, w_tables⟩
theorem atStart : AtStart classFile x code maxLocals ret World_1 tables_1 room_1 Calls_1 rest_1 Pre_1 launch0 p0 e0 about1 theMethod args0 below0 :=
  ⟨lists_1, trivial, launch0.admits_env _ _ _, launch0.least_env, fairChoices_fair.cas, fairChoices_fair.clock, w_frames, w_args, w_heap, w_applies, trivial, trivial, w_case⟩
end start1
theorem witness_1 : WitnessClaimed_1 := ⟨start1.p0, start1.e0, start1.about1, start1.theMethod, start1.args0, start1.below0, start1.atStart⟩
end Jvm.Pilot.@@N@@
