import JvmDerived
import JvmDerived.Pilot.@@N@@Statement
import JvmDerived.Pilot.@@N@@Code
set_option linter.unusedVariables false
set_option linter.unusedSimpArgs false

namespace Jvm.OwnGo
open Sem ClassFile Op Lib Jvm.Stand Jvm.Free Jvm.LawKit Jvm.RoadKit
/-- what is known of a body while it is walked -/
def Cx (Z : State) (y : MethodName) (code : ByteArray) (ml : Nat) (ret : Option FieldType) (p : Program) (s : State) (m : MethodId) (meth : Method) (c : Code) : Prop :=
  p.tables.exec = Jvm.exec ∧ c.code = code ∧ Z.Warmed39 s.vm ∧ s.vm.findClass y.cls = some m.cls ∧ c.maxLocals = ml ∧ meth.sig.returnType = ret ∧ meth.locks = false ∧ meth.name = y.name
/-- the start that the last Stand is over: the start itself, or (w) the start with tables that have interned -/
def OkW (w : Bool) (s s' T' : State) : Prop := s' = s ∨ (w = true ∧ ∃ (vm : Vm) (k1 : Nat), s' = s.setVm vm ∧ s.Since vm k1 ∧ k1 ≤ T'.heap.size)
/-- from the frame (pc, Ls, st) over the heap h, with at most k cells and n slots made so far, the body of y returns with Q -/
def GoB (w : Bool) (l : Launch) (Z : State) (y : MethodName) (code : ByteArray) (ml : Nat) (ret : Option FieldType) (R : Room) (Q : Option Value → Heap → Prop) (k n : Nat) (h : Heap) (pc : Nat) (Ls : Array Slot) (st : List Value) : Prop :=
  ∀ (p : Program) (e : Env) (s : State) (m : MethodId) (args : Array Value) (below : List Frame) (meth : Method) (c : Code), Cx Z y code ml ret p s m meth c →
  ∀ (T : State) (L : List Loc) (k' n' : Nat), Stand p l e R s m args below meth c T L k' n' → k' ≤ k → n' ≤ n → Fr Z.heap.size L → T.heap = h →
  ∃ (s' : State) (v : Option Value) (T' : State) (L' : List Loc) (k'' n'' : Nat), OkW w s s' T' ∧ Stand p l e R s' m args below meth c T' L' k'' n'' ∧ k'' ≤ R.cells ∧ n'' ≤ R.slots ∧ Fr Z.heap.size L' ∧ Q v T'.heap ∧ (ret = none → v = none) ∧
    ∀ fs, (∀ (f : JFrame) (acts : List Action), f.method = m → f.locked = none → f.entered = [] → (doReturn e (T'.setTop f) acts v).1 = T'.setFrames fs) → Steps p.tables e below (T.setTop (mkF m pc Ls st)) (T'.setFrames fs)
abbrev Go (l : Launch) (Z : State) (y : MethodName) (code : ByteArray) (ml : Nat) (ret : Option FieldType) (R : Room) (Q : Option Value → Heap → Prop) (k n : Nat) (h : Heap) (pc : Nat) (Ls : Array Slot) (st : List Value) : Prop := GoB false l Z y code ml ret R Q k n h pc Ls st
/-- the shapes of an answer -/
def QI (P : Int32 → Heap → Prop) (v : Option Value) (h : Heap) : Prop := ∃ z : Int32, v = some (.int z) ∧ P z h
def QJ (P : Int64 → Heap → Prop) (v : Option Value) (h : Heap) : Prop := ∃ z : Int64, v = some (.long z) ∧ P z h
def QR (P : Value → Heap → Prop) (v : Option Value) (h : Heap) : Prop := ∃ z : Value, v = some z ∧ P z h
def QV (P : Heap → Prop) (v : Option Value) (h : Heap) : Prop := v = none ∧ P h
section Laws
variable {wf : Bool} {l : Launch} {Z : State} {y : MethodName} {code : ByteArray} {ml : Nat} {ret : Option FieldType} {R : Room} {Q : Option Value → Heap → Prop} {k n : Nat} {h : Heap} {pc : Nat} {Ls : Array Slot} {st : List Value} {a0 : Array Value}
theorem GoB.pure {pc' : Nat} {Ls' : Array Slot} {st' : List Value} (g : GoB wf l Z y code ml ret R Q k n h pc' Ls' st')
    (f : ∀ (p : Program) (e : Env) (s : State) (m : MethodId) (args : Array Value) (below : List Frame) (meth : Method) (c : Code), Cx Z y code ml ret p s m meth c → ∀ (T : State) (L : List Loc) (k' n' : Nat), Stand p l e R s m args below meth c T L k' n' → T.heap = h → ∀ target, Steps p.tables e below (T.setTop (mkF m pc' Ls' st')) target → Steps p.tables e below (T.setTop (mkF m pc Ls st)) target) :
    GoB wf l Z y code ml ret R Q k n h pc Ls st := by
  intro p e s m args below meth c K T L k' n' X h1 h2 N hT
  obtain ⟨s', v, T', L', k'', n'', ok', X', b1, b2, N', q, hv, stp⟩ := g p e s m args below meth c K T L k' n' X h1 h2 N hT
  exact ⟨s', v, T', L', k'', n'', ok', X', b1, b2, N', q, hv, fun fs hl => f p e s m args below meth c K T L k' n' X hT _ (stp fs hl)⟩
/-- a step that moves the state: by a law that hands out the new Stand -/
theorem GoB.move {pc' : Nat} {Ls' : Array Slot} {st' : List Value} {kk nn : Nat} {P : Heap → Prop} (g : ∀ h', P h' → GoB wf l Z y code ml ret R Q kk nn h' pc' Ls' st')
    (f : ∀ (p : Program) (e : Env) (s : State) (m : MethodId) (args : Array Value) (below : List Frame) (meth : Method) (c : Code), Cx Z y code ml ret p s m meth c → ∀ (T : State) (L : List Loc) (k' n' : Nat), Stand p l e R s m args below meth c T L k' n' → k' ≤ k → n' ≤ n → Fr Z.heap.size L → T.heap = h →
      ∃ (T' : State) (L' : List Loc) (k'' n'' : Nat), Stand p l e R s m args below meth c T' L' k'' n'' ∧ k'' ≤ kk ∧ n'' ≤ nn ∧ Fr Z.heap.size L' ∧ P T'.heap ∧ ∀ target, Steps p.tables e below (T'.setTop (mkF m pc' Ls' st')) target → Steps p.tables e below (T.setTop (mkF m pc Ls st)) target) :
    GoB wf l Z y code ml ret R Q k n h pc Ls st := by
  intro p e s m args below meth c K T L k' n' X h1 h2 N hT
  obtain ⟨T1, L1, k1, n1, X1, c1, c2, N1, p1, s1⟩ := f p e s m args below meth c K T L k' n' X h1 h2 N hT
  obtain ⟨s', v, T', L', k'', n'', ok', X', b1, b2, N', q, hv, stp⟩ := g _ p1 p e s m args below meth c K T1 L1 k1 n1 X1 c1 c2 N1 rfl
  exact ⟨s', v, T', L', k'', n'', ok', X', b1, b2, N', q, hv, fun fs hl => s1 _ (stp fs hl)⟩
theorem GoB.le {k₀ n₀ : Nat} (g : GoB wf l Z y code ml ret R Q k n h pc Ls st) (hk : k₀ ≤ k) (hn : n₀ ≤ n) : GoB wf l Z y code ml ret R Q k₀ n₀ h pc Ls st :=
  fun p e s m args below meth c K T L k' n' X h1 h2 N hT => g p e s m args below meth c K T L k' n' X (Nat.le_trans h1 hk) (Nat.le_trans h2 hn) N hT
theorem GoB.mono {Q' : Option Value → Heap → Prop} (g : GoB wf l Z y code ml ret R Q k n h pc Ls st) (hq : ∀ v h', Q v h' → Q' v h') : GoB wf l Z y code ml ret R Q' k n h pc Ls st := by
  intro p e s m args below meth c K T L k' n' X h1 h2 N hT
  obtain ⟨s', v, T', L', k'', n'', ok', X', b1, b2, N', q, r⟩ := g p e s m args below meth c K T L k' n' X h1 h2 N hT
  exact ⟨s', v, T', L', k'', n'', ok', X', b1, b2, N', hq _ _ q, r⟩
theorem Go.nameI {x : Int32} (g : ∀ v : Int32, v = x → GoB wf l Z y code ml ret R Q k n h pc Ls (.int v :: st)) : GoB wf l Z y code ml ret R Q k n h pc Ls (.int x :: st) := g x rfl
theorem Go.nameJ {x : Int64} (g : ∀ v : Int64, v = x → GoB wf l Z y code ml ret R Q k n h pc Ls (.long v :: st)) : GoB wf l Z y code ml ret R Q k n h pc Ls (.long x :: st) := g x rfl

theorem Go.iadd {x z : Int32} (q : Nat) (hd : decode code pc = .ok (.iadd, 1))  (hq : pc + 1 = q) (g : GoB wf l Z y code ml ret R Q k n h q Ls (.int (x + z) :: st)) : GoB wf l Z y code ml ret R Q k n h pc Ls (.int z :: .int x :: st) := by
  subst hq; exact g.pure fun p e s m args below meth c K T L k' n' X hT t r => XS.iadd X.here K.1 rfl (hb K.2.1 hd) rfl  r
theorem Go.isub {x z : Int32} (q : Nat) (hd : decode code pc = .ok (.isub, 1))  (hq : pc + 1 = q) (g : GoB wf l Z y code ml ret R Q k n h q Ls (.int (x - z) :: st)) : GoB wf l Z y code ml ret R Q k n h pc Ls (.int z :: .int x :: st) := by
  subst hq; exact g.pure fun p e s m args below meth c K T L k' n' X hT t r => XS.isub X.here K.1 rfl (hb K.2.1 hd) rfl  r
theorem Go.iand {x z : Int32} (q : Nat) (hd : decode code pc = .ok (.iand, 1))  (hq : pc + 1 = q) (g : GoB wf l Z y code ml ret R Q k n h q Ls (.int (x &&& z) :: st)) : GoB wf l Z y code ml ret R Q k n h pc Ls (.int z :: .int x :: st) := by
  subst hq; exact g.pure fun p e s m args below meth c K T L k' n' X hT t r => XS.iand X.here K.1 rfl (hb K.2.1 hd) rfl  r
theorem Go.imul {x z : Int32} (q : Nat) (hd : decode code pc = .ok (.imul, 1))  (hq : pc + 1 = q) (g : GoB wf l Z y code ml ret R Q k n h q Ls (.int (x * z) :: st)) : GoB wf l Z y code ml ret R Q k n h pc Ls (.int z :: .int x :: st) := by
  subst hq; exact g.pure fun p e s m args below meth c K T L k' n' X hT t r => XS.imul X.here K.1 rfl (hb K.2.1 hd) rfl  r
theorem Go.ixor {x z : Int32} (q : Nat) (hd : decode code pc = .ok (.ixor, 1))  (hq : pc + 1 = q) (g : GoB wf l Z y code ml ret R Q k n h q Ls (.int (x ^^^ z) :: st)) : GoB wf l Z y code ml ret R Q k n h pc Ls (.int z :: .int x :: st) := by
  subst hq; exact g.pure fun p e s m args below meth c K T L k' n' X hT t r => XT.ixor X.here K.1 rfl (hb K.2.1 hd) rfl  r
theorem Go.ior {x z : Int32} (q : Nat) (hd : decode code pc = .ok (.ior, 1))  (hq : pc + 1 = q) (g : GoB wf l Z y code ml ret R Q k n h q Ls (.int (x ||| z) :: st)) : GoB wf l Z y code ml ret R Q k n h pc Ls (.int z :: .int x :: st) := by
  subst hq; exact g.pure fun p e s m args below meth c K T L k' n' X hT t r => XT.ior X.here K.1 rfl (hb K.2.1 hd) rfl  r
theorem Go.ishl {x z : Int32} (q : Nat) (hd : decode code pc = .ok (.ishl, 1))  (hq : pc + 1 = q) (g : GoB wf l Z y code ml ret R Q k n h q Ls (.int (x <<< (z &&& 31)) :: st)) : GoB wf l Z y code ml ret R Q k n h pc Ls (.int z :: .int x :: st) := by
  subst hq; exact g.pure fun p e s m args below meth c K T L k' n' X hT t r => XT.ishl X.here K.1 rfl (hb K.2.1 hd) rfl  r
theorem Go.ishr {x z : Int32} (q : Nat) (hd : decode code pc = .ok (.ishr, 1))  (hq : pc + 1 = q) (g : GoB wf l Z y code ml ret R Q k n h q Ls (.int (x >>> (z &&& 31)) :: st)) : GoB wf l Z y code ml ret R Q k n h pc Ls (.int z :: .int x :: st) := by
  subst hq; exact g.pure fun p e s m args below meth c K T L k' n' X hT t r => XT.ishr X.here K.1 rfl (hb K.2.1 hd) rfl  r
theorem Go.iushr {x z : Int32} (q : Nat) (hd : decode code pc = .ok (.iushr, 1))  (hq : pc + 1 = q) (g : GoB wf l Z y code ml ret R Q k n h q Ls (.int (XT.ushr x z) :: st)) : GoB wf l Z y code ml ret R Q k n h pc Ls (.int z :: .int x :: st) := by
  subst hq; exact g.pure fun p e s m args below meth c K T L k' n' X hT t r => XT.iushr X.here K.1 rfl (hb K.2.1 hd) rfl  r
theorem Go.idiv {x z : Int32} (q : Nat) (hd : decode code pc = .ok (.idiv, 1)) (hz : z ≠ 0) (hq : pc + 1 = q) (g : GoB wf l Z y code ml ret R Q k n h q Ls (.int (x / z) :: st)) : GoB wf l Z y code ml ret R Q k n h pc Ls (.int z :: .int x :: st) := by
  subst hq; exact g.pure fun p e s m args below meth c K T L k' n' X hT t r => XS.idiv X.here K.1 rfl (hb K.2.1 hd) rfl hz r
theorem Go.irem {x z : Int32} (q : Nat) (hd : decode code pc = .ok (.irem, 1)) (hz : z ≠ 0) (hq : pc + 1 = q) (g : GoB wf l Z y code ml ret R Q k n h q Ls (.int (x % z) :: st)) : GoB wf l Z y code ml ret R Q k n h pc Ls (.int z :: .int x :: st) := by
  subst hq; exact g.pure fun p e s m args below meth c K T L k' n' X hT t r => iremM X K.1 rfl (hb K.2.1 hd) rfl hz r
theorem Go.ineg {x : Int32} (q : Nat) (hd : decode code pc = .ok (.ineg, 1))  (hq : pc + 1 = q) (g : GoB wf l Z y code ml ret R Q k n h q Ls (.int (-x) :: st)) : GoB wf l Z y code ml ret R Q k n h pc Ls (.int x :: st) := by
  subst hq; exact g.pure fun p e s m args below meth c K T L k' n' X hT t r => XS.ineg X.here K.1 rfl (hb K.2.1 hd) rfl  r
theorem Go.ladd {x z : Int64} (q : Nat) (hd : decode code pc = .ok (.ladd, 1))  (hq : pc + 1 = q) (g : GoB wf l Z y code ml ret R Q k n h q Ls (.long (x + z) :: st)) : GoB wf l Z y code ml ret R Q k n h pc Ls (.long z :: .long x :: st) := by
  subst hq; exact g.pure fun p e s m args below meth c K T L k' n' X hT t r => XT.ladd X.here K.1 rfl (hb K.2.1 hd) rfl  r
theorem Go.lsub {x z : Int64} (q : Nat) (hd : decode code pc = .ok (.lsub, 1))  (hq : pc + 1 = q) (g : GoB wf l Z y code ml ret R Q k n h q Ls (.long (x - z) :: st)) : GoB wf l Z y code ml ret R Q k n h pc Ls (.long z :: .long x :: st) := by
  subst hq; exact g.pure fun p e s m args below meth c K T L k' n' X hT t r => XT.lsub X.here K.1 rfl (hb K.2.1 hd) rfl  r
theorem Go.lmul {x z : Int64} (q : Nat) (hd : decode code pc = .ok (.lmul, 1))  (hq : pc + 1 = q) (g : GoB wf l Z y code ml ret R Q k n h q Ls (.long (x * z) :: st)) : GoB wf l Z y code ml ret R Q k n h pc Ls (.long z :: .long x :: st) := by
  subst hq; exact g.pure fun p e s m args below meth c K T L k' n' X hT t r => XT.lmul X.here K.1 rfl (hb K.2.1 hd) rfl  r
theorem Go.land {x z : Int64} (q : Nat) (hd : decode code pc = .ok (.land, 1))  (hq : pc + 1 = q) (g : GoB wf l Z y code ml ret R Q k n h q Ls (.long (x &&& z) :: st)) : GoB wf l Z y code ml ret R Q k n h pc Ls (.long z :: .long x :: st) := by
  subst hq; exact g.pure fun p e s m args below meth c K T L k' n' X hT t r => XT.land X.here K.1 rfl (hb K.2.1 hd) rfl  r
theorem Go.lor {x z : Int64} (q : Nat) (hd : decode code pc = .ok (.lor, 1))  (hq : pc + 1 = q) (g : GoB wf l Z y code ml ret R Q k n h q Ls (.long (x ||| z) :: st)) : GoB wf l Z y code ml ret R Q k n h pc Ls (.long z :: .long x :: st) := by
  subst hq; exact g.pure fun p e s m args below meth c K T L k' n' X hT t r => XT.lor X.here K.1 rfl (hb K.2.1 hd) rfl  r
theorem Go.lxor {x z : Int64} (q : Nat) (hd : decode code pc = .ok (.lxor, 1))  (hq : pc + 1 = q) (g : GoB wf l Z y code ml ret R Q k n h q Ls (.long (x ^^^ z) :: st)) : GoB wf l Z y code ml ret R Q k n h pc Ls (.long z :: .long x :: st) := by
  subst hq; exact g.pure fun p e s m args below meth c K T L k' n' X hT t r => XT.lxor X.here K.1 rfl (hb K.2.1 hd) rfl  r
theorem Go.ldiv {x z : Int64} (q : Nat) (hd : decode code pc = .ok (.ldiv, 1)) (hz : z ≠ 0) (hq : pc + 1 = q) (g : GoB wf l Z y code ml ret R Q k n h q Ls (.long (x / z) :: st)) : GoB wf l Z y code ml ret R Q k n h pc Ls (.long z :: .long x :: st) := by
  subst hq; exact g.pure fun p e s m args below meth c K T L k' n' X hT t r => XT.ldiv X.here K.1 rfl (hb K.2.1 hd) rfl hz r
theorem Go.lrem {x z : Int64} (q : Nat) (hd : decode code pc = .ok (.lrem, 1)) (hz : z ≠ 0) (hq : pc + 1 = q) (g : GoB wf l Z y code ml ret R Q k n h q Ls (.long (x - (x / z) * z) :: st)) : GoB wf l Z y code ml ret R Q k n h pc Ls (.long z :: .long x :: st) := by
  subst hq; exact g.pure fun p e s m args below meth c K T L k' n' X hT t r => XT.lrem X.here K.1 rfl (hb K.2.1 hd) rfl hz r
theorem Go.lneg {x : Int64} (q : Nat) (hd : decode code pc = .ok (.lneg, 1))  (hq : pc + 1 = q) (g : GoB wf l Z y code ml ret R Q k n h q Ls (.long (-x) :: st)) : GoB wf l Z y code ml ret R Q k n h pc Ls (.long x :: st) := by
  subst hq; exact g.pure fun p e s m args below meth c K T L k' n' X hT t r => XT.lneg X.here K.1 rfl (hb K.2.1 hd) rfl  r
theorem Go.lshl {x : Int64} {z : Int32} (q : Nat) (hd : decode code pc = .ok (.lshl, 1))  (hq : pc + 1 = q) (g : GoB wf l Z y code ml ret R Q k n h q Ls (.long (x <<< (z.toInt64 &&& 63)) :: st)) : GoB wf l Z y code ml ret R Q k n h pc Ls (.int z :: .long x :: st) := by
  subst hq; exact g.pure fun p e s m args below meth c K T L k' n' X hT t r => XT.lshl X.here K.1 rfl (hb K.2.1 hd) rfl  r
theorem Go.lshr {x : Int64} {z : Int32} (q : Nat) (hd : decode code pc = .ok (.lshr, 1))  (hq : pc + 1 = q) (g : GoB wf l Z y code ml ret R Q k n h q Ls (.long (x >>> (z.toInt64 &&& 63)) :: st)) : GoB wf l Z y code ml ret R Q k n h pc Ls (.int z :: .long x :: st) := by
  subst hq; exact g.pure fun p e s m args below meth c K T L k' n' X hT t r => XT.lshr X.here K.1 rfl (hb K.2.1 hd) rfl  r
theorem Go.lushr {x : Int64} {z : Int32} (q : Nat) (hd : decode code pc = .ok (.lushr, 1))  (hq : pc + 1 = q) (g : GoB wf l Z y code ml ret R Q k n h q Ls (.long (XT.ushrL x z) :: st)) : GoB wf l Z y code ml ret R Q k n h pc Ls (.int z :: .long x :: st) := by
  subst hq; exact g.pure fun p e s m args below meth c K T L k' n' X hT t r => XT.lushr X.here K.1 rfl (hb K.2.1 hd) rfl  r
theorem Go.lcmp {x z : Int64} (q : Nat) (hd : decode code pc = .ok (.lcmp, 1))  (hq : pc + 1 = q) (g : GoB wf l Z y code ml ret R Q k n h q Ls (.int (XT.cmpL x z) :: st)) : GoB wf l Z y code ml ret R Q k n h pc Ls (.long z :: .long x :: st) := by
  subst hq; exact g.pure fun p e s m args below meth c K T L k' n' X hT t r => XT.lcmp X.here K.1 rfl (hb K.2.1 hd) rfl  r
theorem Go.i2l {x : Int32} (q : Nat) (hd : decode code pc = .ok (.i2l, 1))  (hq : pc + 1 = q) (g : GoB wf l Z y code ml ret R Q k n h q Ls (.long x.toInt64 :: st)) : GoB wf l Z y code ml ret R Q k n h pc Ls (.int x :: st) := by
  subst hq; exact g.pure fun p e s m args below meth c K T L k' n' X hT t r => XT.i2l X.here K.1 rfl (hb K.2.1 hd) rfl  r
theorem Go.l2i {x : Int64} (q : Nat) (hd : decode code pc = .ok (.l2i, 1))  (hq : pc + 1 = q) (g : GoB wf l Z y code ml ret R Q k n h q Ls (.int x.toInt32 :: st)) : GoB wf l Z y code ml ret R Q k n h pc Ls (.long x :: st) := by
  subst hq; exact g.pure fun p e s m args below meth c K T L k' n' X hT t r => XT.l2i X.here K.1 rfl (hb K.2.1 hd) rfl  r
theorem Go.i2b {x : Int32} (q : Nat) (hd : decode code pc = .ok (.i2b, 1))  (hq : pc + 1 = q) (g : GoB wf l Z y code ml ret R Q k n h q Ls (.int x.toInt8.toInt32 :: st)) : GoB wf l Z y code ml ret R Q k n h pc Ls (.int x :: st) := by
  subst hq; exact g.pure fun p e s m args below meth c K T L k' n' X hT t r => XT.i2b X.here K.1 rfl (hb K.2.1 hd) rfl  r
theorem Go.i2c {x : Int32} (q : Nat) (hd : decode code pc = .ok (.i2c, 1))  (hq : pc + 1 = q) (g : GoB wf l Z y code ml ret R Q k n h q Ls (.int x.toUInt32.toUInt16.toUInt32.toInt32 :: st)) : GoB wf l Z y code ml ret R Q k n h pc Ls (.int x :: st) := by
  subst hq; exact g.pure fun p e s m args below meth c K T L k' n' X hT t r => XT.i2c X.here K.1 rfl (hb K.2.1 hd) rfl  r
theorem Go.i2s {x : Int32} (q : Nat) (hd : decode code pc = .ok (.i2s, 1))  (hq : pc + 1 = q) (g : GoB wf l Z y code ml ret R Q k n h q Ls (.int x.toInt16.toInt32 :: st)) : GoB wf l Z y code ml ret R Q k n h pc Ls (.int x :: st) := by
  subst hq; exact g.pure fun p e s m args below meth c K T L k' n' X hT t r => XT.i2s X.here K.1 rfl (hb K.2.1 hd) rfl  r
theorem Go.pop {x : Value} (q : Nat) (hd : decode code pc = .ok (.pop, 1)) (hc : x.category = 1) (hq : pc + 1 = q) (g : GoB wf l Z y code ml ret R Q k n h q Ls (st)) : GoB wf l Z y code ml ret R Q k n h pc Ls (x :: st) := by
  subst hq; exact g.pure fun p e s m args below meth c K T L k' n' X hT t r => XT.pop X.here K.1 rfl (hb K.2.1 hd) rfl hc r
theorem Go.dup {x : Value} (q : Nat) (hd : decode code pc = .ok (.dup, 1)) (hc : x.category = 1) (hq : pc + 1 = q) (g : GoB wf l Z y code ml ret R Q k n h q Ls (x :: x :: st)) : GoB wf l Z y code ml ret R Q k n h pc Ls (x :: st) := by
  subst hq; exact g.pure fun p e s m args below meth c K T L k' n' X hT t r => XS.dup X.here K.1 rfl (hb K.2.1 hd) rfl hc r
theorem Go.dupX1 {x z : Value} (q : Nat) (hd : decode code pc = .ok (.dup_x1, 1)) (hc : x.category = 1) (hc' : z.category = 1) (hq : pc + 1 = q) (g : GoB wf l Z y code ml ret R Q k n h q Ls (x :: z :: x :: st)) : GoB wf l Z y code ml ret R Q k n h pc Ls (x :: z :: st) := by
  subst hq; exact g.pure fun p e s m args below meth c K T L k' n' X hT t r => XT.dupX1 X.here K.1 rfl (hb K.2.1 hd) rfl hc hc' r
theorem Go.dup2 {x z : Value} (q : Nat) (hd : decode code pc = .ok (.dup2, 1)) (hc : x.category = 1) (hc' : z.category = 1) (hq : pc + 1 = q) (g : GoB wf l Z y code ml ret R Q k n h q Ls (x :: z :: x :: z :: st)) : GoB wf l Z y code ml ret R Q k n h pc Ls (x :: z :: st) := by
  subst hq; exact g.pure fun p e s m args below meth c K T L k' n' X hT t r => XT.dup2 X.here K.1 rfl (hb K.2.1 hd) rfl hc hc' r
theorem Go.dup2L {x : Int64} (q : Nat) (hd : decode code pc = .ok (.dup2, 1))  (hq : pc + 1 = q) (g : GoB wf l Z y code ml ret R Q k n h q Ls (.long x :: .long x :: st)) : GoB wf l Z y code ml ret R Q k n h pc Ls (.long x :: st) := by
  subst hq; exact g.pure fun p e s m args below meth c K T L k' n' X hT t r => XT.dup2L X.here K.1 rfl (hb K.2.1 hd) rfl  r
theorem Go.iconst {i : Int} (q : Nat) (v : Int32) (hd : decode code pc = .ok (.iconst i, 1)) (hv : Int32.ofInt i = v) (hq : pc + 1 = q) (g : GoB wf l Z y code ml ret R Q k n h q Ls (.int v :: st)) : GoB wf l Z y code ml ret R Q k n h pc Ls st := by
  subst hq; exact g.pure fun p e s m args below meth c K T L k' n' X hT t r => XT.iconstV X.here K.1 rfl v (hb K.2.1 hd) hv r
theorem Go.bipush {i : Int} (q : Nat) (v : Int32) (hd : decode code pc = .ok (.bipush i, 2)) (hv : (Int8.ofInt i).toInt32 = v) (hq : pc + 2 = q) (g : GoB wf l Z y code ml ret R Q k n h q Ls (.int v :: st)) : GoB wf l Z y code ml ret R Q k n h pc Ls st := by
  subst hq; exact g.pure fun p e s m args below meth c K T L k' n' X hT t r => XT.bipushV X.here K.1 rfl v (hb K.2.1 hd) hv r
theorem Go.sipush {i : Int} (q : Nat) (v : Int32) (hd : decode code pc = .ok (.sipush i, 3)) (hv : (Int16.ofInt i).toInt32 = v) (hq : pc + 3 = q) (g : GoB wf l Z y code ml ret R Q k n h q Ls (.int v :: st)) : GoB wf l Z y code ml ret R Q k n h pc Ls st := by
  subst hq; exact g.pure fun p e s m args below meth c K T L k' n' X hT t r => XT.sipushV X.here K.1 rfl v (hb K.2.1 hd) hv r
theorem Go.lconst {i : Fin 2} (q : Nat) (v : Int64) (hd : decode code pc = .ok (.lconst i, 1)) (hv : Int64.ofNat i = v) (hq : pc + 1 = q) (g : GoB wf l Z y code ml ret R Q k n h q Ls (.long v :: st)) : GoB wf l Z y code ml ret R Q k n h pc Ls st := by
  subst hq; exact g.pure fun p e s m args below meth c K T L k' n' X hT t r => XT.lconstV X.here K.1 rfl v (hb K.2.1 hd) hv r
theorem Go.aconst_null (q : Nat) (hd : decode code pc = .ok (.aconst_null, 1)) (hq : pc + 1 = q) (g : GoB wf l Z y code ml ret R Q k n h q Ls (.null :: st)) : GoB wf l Z y code ml ret R Q k n h pc Ls st := by
  subst hq; exact g.pure fun p e s m args below meth c K T L k' n' X hT t r => XS.aconstNull X.here K.1 rfl (hb K.2.1 hd) r
theorem Go.ldc {i : Nat} {v : Int32} (q : Nat) (hd : decode code pc = .ok (.ldc i, 2)) (w : (Cond.constant y.cls i v).before a0 Z = true) (hq : pc + 2 = q) (g : GoB wf l Z y code ml ret R Q k n h q Ls (.int v :: st)) : GoB wf l Z y code ml ret R Q k n h pc Ls st := by
  subst hq; exact g.pure fun p e s m args below meth c K T L k' n' X hT t r => X.ldcI K.1 K.2.2.2.1 (mvT K.2.2.1 w) rfl (hb K.2.1 hd) r
theorem Go.ldc_w {i : Nat} {v : Int32} (q : Nat) (hd : decode code pc = .ok (.ldc_w i, 3)) (w : (Cond.constant y.cls i v).before a0 Z = true) (hq : pc + 3 = q) (g : GoB wf l Z y code ml ret R Q k n h q Ls (.int v :: st)) : GoB wf l Z y code ml ret R Q k n h pc Ls st := by
  subst hq; exact g.pure fun p e s m args below meth c K T L k' n' X hT t r => X.ldcWI K.1 K.2.2.2.1 (mvT K.2.2.1 w) rfl (hb K.2.1 hd) r
theorem Go.ldc2_w {i : Nat} {v : Int64} (q : Nat) (hd : decode code pc = .ok (.ldc2_w i, 3)) (w : (Cond.constantLong y.cls i v).before a0 Z = true) (hq : pc + 3 = q) (g : GoB wf l Z y code ml ret R Q k n h q Ls (.long v :: st)) : GoB wf l Z y code ml ret R Q k n h pc Ls st := by
  subst hq; exact g.pure fun p e s m args below meth c K T L k' n' X hT t r => X.ldc2J K.1 K.2.2.2.1 (mvT K.2.2.1 w) rfl (hb K.2.1 hd) r
theorem Go.iload {i : Nat} {v : Int32} (q : Nat) (hd : decode code pc = .ok (.iload i, 2)) (hl : Ls[i]? = some (.val (.int v))) (hq : pc + 2 = q) (g : GoB wf l Z y code ml ret R Q k n h q Ls (.int v :: st)) : GoB wf l Z y code ml ret R Q k n h pc Ls st := by
  subst hq; exact g.pure fun p e s m args below meth c K T L k' n' X hT t r => XS.iload X.here K.1 rfl (hb K.2.1 hd) hl r
theorem Go.iload_n {i : Fin 4} {v : Int32} (q : Nat) (hd : decode code pc = .ok (.iload_n i, 1)) (hl : Ls[i.val]? = some (.val (.int v))) (hq : pc + 1 = q) (g : GoB wf l Z y code ml ret R Q k n h q Ls (.int v :: st)) : GoB wf l Z y code ml ret R Q k n h pc Ls st := by
  subst hq; exact g.pure fun p e s m args below meth c K T L k' n' X hT t r => XS.iloadN X.here K.1 rfl (hb K.2.1 hd) hl r
theorem Go.lload {i : Nat} {v : Int64} (q : Nat) (hd : decode code pc = .ok (.lload i, 2)) (hl : Ls[i]? = some (.val (.long v))) (hq : pc + 2 = q) (g : GoB wf l Z y code ml ret R Q k n h q Ls (.long v :: st)) : GoB wf l Z y code ml ret R Q k n h pc Ls st := by
  subst hq; exact g.pure fun p e s m args below meth c K T L k' n' X hT t r => XT.lload X.here K.1 rfl (hb K.2.1 hd) hl r
theorem Go.lload_n {i : Fin 4} {v : Int64} (q : Nat) (hd : decode code pc = .ok (.lload_n i, 1)) (hl : Ls[i.val]? = some (.val (.long v))) (hq : pc + 1 = q) (g : GoB wf l Z y code ml ret R Q k n h q Ls (.long v :: st)) : GoB wf l Z y code ml ret R Q k n h pc Ls st := by
  subst hq; exact g.pure fun p e s m args below meth c K T L k' n' X hT t r => XT.lloadN X.here K.1 rfl (hb K.2.1 hd) hl r
theorem Go.aload {i : Nat} {v : Value} (q : Nat) (hd : decode code pc = .ok (.aload i, 2)) (hl : Ls[i]? = some (.val v)) (hv : v.isRef = true) (hq : pc + 2 = q) (g : GoB wf l Z y code ml ret R Q k n h q Ls (v :: st)) : GoB wf l Z y code ml ret R Q k n h pc Ls st := by
  subst hq; exact g.pure fun p e s m args below meth c K T L k' n' X hT t r => XS.aload X.here K.1 rfl (hb K.2.1 hd) hl hv r
theorem Go.aload_n {i : Fin 4} {v : Value} (q : Nat) (hd : decode code pc = .ok (.aload_n i, 1)) (hl : Ls[i.val]? = some (.val v)) (hv : v.isRef = true) (hq : pc + 1 = q) (g : GoB wf l Z y code ml ret R Q k n h q Ls (v :: st)) : GoB wf l Z y code ml ret R Q k n h pc Ls st := by
  subst hq; exact g.pure fun p e s m args below meth c K T L k' n' X hT t r => XS.aloadN X.here K.1 rfl (hb K.2.1 hd) hl hv r
theorem Go.istore {i : Nat} {v : Int32} (q : Nat) (Ls' : Array Slot) (hd : decode code pc = .ok (.istore i, 2)) (hl : storeLocals Ls i (.int v) = some Ls') (hq : pc + 2 = q) (g : GoB wf l Z y code ml ret R Q k n h q Ls' st) : GoB wf l Z y code ml ret R Q k n h pc Ls (.int v :: st) := by
  subst hq; exact g.pure fun p e s m args below meth c K T L k' n' X hT t r => XS.istore X.here K.1 rfl (hb K.2.1 hd) rfl hl r
theorem Go.istore_n {i : Fin 4} {v : Int32} (q : Nat) (Ls' : Array Slot) (hd : decode code pc = .ok (.istore_n i, 1)) (hl : storeLocals Ls i.val (.int v) = some Ls') (hq : pc + 1 = q) (g : GoB wf l Z y code ml ret R Q k n h q Ls' st) : GoB wf l Z y code ml ret R Q k n h pc Ls (.int v :: st) := by
  subst hq; exact g.pure fun p e s m args below meth c K T L k' n' X hT t r => XS.istoreN X.here K.1 rfl (hb K.2.1 hd) rfl hl r
theorem Go.lstore {i : Nat} {v : Int64} (q : Nat) (Ls' : Array Slot) (hd : decode code pc = .ok (.lstore i, 2)) (hl : storeLocals Ls i (.long v) = some Ls') (hq : pc + 2 = q) (g : GoB wf l Z y code ml ret R Q k n h q Ls' st) : GoB wf l Z y code ml ret R Q k n h pc Ls (.long v :: st) := by
  subst hq; exact g.pure fun p e s m args below meth c K T L k' n' X hT t r => XT.lstore X.here K.1 rfl (hb K.2.1 hd) rfl hl r
theorem Go.lstore_n {i : Fin 4} {v : Int64} (q : Nat) (Ls' : Array Slot) (hd : decode code pc = .ok (.lstore_n i, 1)) (hl : storeLocals Ls i.val (.long v) = some Ls') (hq : pc + 1 = q) (g : GoB wf l Z y code ml ret R Q k n h q Ls' st) : GoB wf l Z y code ml ret R Q k n h pc Ls (.long v :: st) := by
  subst hq; exact g.pure fun p e s m args below meth c K T L k' n' X hT t r => XT.lstoreN X.here K.1 rfl (hb K.2.1 hd) rfl hl r
theorem Go.astore {i : Nat} {v : Value} (q : Nat) (Ls' : Array Slot) (hd : decode code pc = .ok (.astore i, 2)) (hv : v.isRef = true) (hl : storeLocals Ls i v = some Ls') (hq : pc + 2 = q) (g : GoB wf l Z y code ml ret R Q k n h q Ls' st) : GoB wf l Z y code ml ret R Q k n h pc Ls (v :: st) := by
  subst hq; exact g.pure fun p e s m args below meth c K T L k' n' X hT t r => XS.astore X.here K.1 rfl (hb K.2.1 hd) rfl hv hl r
theorem Go.astore_n {i : Fin 4} {v : Value} (q : Nat) (Ls' : Array Slot) (hd : decode code pc = .ok (.astore_n i, 1)) (hv : v.isRef = true) (hl : storeLocals Ls i.val v = some Ls') (hq : pc + 1 = q) (g : GoB wf l Z y code ml ret R Q k n h q Ls' st) : GoB wf l Z y code ml ret R Q k n h pc Ls (v :: st) := by
  subst hq; exact g.pure fun p e s m args below meth c K T L k' n' X hT t r => XS.astoreN X.here K.1 rfl (hb K.2.1 hd) rfl hv hl r
theorem Go.iinc {i : Nat} {cst : Int} {x : Int32} (q : Nat) (v : Int32) (Ls' : Array Slot) (hd : decode code pc = .ok (.iinc i cst, 3)) (hv : Int32.ofInt cst = v) (hl : Ls[i]? = some (.val (.int x))) (hl' : storeLocals Ls i (.int (x + v)) = some Ls') (hq : pc + 3 = q) (g : GoB wf l Z y code ml ret R Q k n h q Ls' st) : GoB wf l Z y code ml ret R Q k n h pc Ls st := by
  subst hq; exact g.pure fun p e s m args below meth c K T L k' n' X hT t r => XT.iincV X.here K.1 rfl v (hb K.2.1 hd) hv hl hl' r
theorem Go.goto {o : Int} (q : Nat) (hd : decode code pc = .ok (.goto o, 3)) (ho : 0 ≤ (pc : Int) + o) (hq : ((pc : Int) + o).toNat = q) (g : GoB wf l Z y code ml ret R Q k n h q Ls st) : GoB wf l Z y code ml ret R Q k n h pc Ls st :=
  g.pure fun p e s m args below meth c K T L k' n' X hT t r => XS.goto X.here K.1 rfl rfl (hb K.2.1 hd) ho hq r
theorem Go.icmp_eq {o : Int} {x z : Int32} (q1 q2 : Nat) (hd : decode code pc = .ok (.if_icmp .eq o, 3)) (ho : 0 ≤ (pc : Int) + o) (h1 : ((pc : Int) + o).toNat = q1) (h2 : pc + 3 = q2) (g1 : x = z → GoB wf l Z y code ml ret R Q k n h q1 Ls st) (g2 : ¬ x = z → GoB wf l Z y code ml ret R Q k n h q2 Ls st) : GoB wf l Z y code ml ret R Q k n h pc Ls (.int z :: .int x :: st) := by
  subst h2
  by_cases hc : x = z
  · exact (g1 hc).pure fun p e s m args below meth c K T L k' n' X hT t r => XS.icmpYes X.here K.1 rfl rfl (hb K.2.1 hd) rfl (XT.ii_eq_t hc) ho h1 r
  · exact (g2 (by first | exact hc | exact Decidable.not_not.mp hc)).pure fun p e s m args below meth c K T L k' n' X hT t r => XS.icmpNo X.here K.1 rfl (hb K.2.1 hd) rfl (XT.ii_eq_f (by first | exact hc | exact Decidable.not_not.mp hc)) r
theorem Go.lcmp_eq {o : Int} {x z : Int64} (q1 q2 : Nat) (hd : decode code pc = .ok (.ifCond .eq o, 3)) (ho : 0 ≤ (pc : Int) + o) (h1 : ((pc : Int) + o).toNat = q1) (h2 : pc + 3 = q2) (g1 : x = z → GoB wf l Z y code ml ret R Q k n h q1 Ls st) (g2 : ¬ x = z → GoB wf l Z y code ml ret R Q k n h q2 Ls st) : GoB wf l Z y code ml ret R Q k n h pc Ls (.int (XT.cmpL x z) :: st) := by
  subst h2
  by_cases hc : x = z
  · exact (g1 hc).pure fun p e s m args below meth c K T L k' n' X hT t r => XS.ifYes X.here K.1 rfl rfl (hb K.2.1 hd) rfl (XT.ll_eq_t hc) ho h1 r
  · exact (g2 (by first | exact hc | exact Decidable.not_not.mp hc)).pure fun p e s m args below meth c K T L k' n' X hT t r => XS.ifNo X.here K.1 rfl (hb K.2.1 hd) rfl (XT.ll_eq_f (by first | exact hc | exact Decidable.not_not.mp hc)) r
theorem Go.icmp_ne {o : Int} {x z : Int32} (q1 q2 : Nat) (hd : decode code pc = .ok (.if_icmp .ne o, 3)) (ho : 0 ≤ (pc : Int) + o) (h1 : ((pc : Int) + o).toNat = q1) (h2 : pc + 3 = q2) (g1 : ¬ x = z → GoB wf l Z y code ml ret R Q k n h q1 Ls st) (g2 : x = z → GoB wf l Z y code ml ret R Q k n h q2 Ls st) : GoB wf l Z y code ml ret R Q k n h pc Ls (.int z :: .int x :: st) := by
  subst h2
  by_cases hc : ¬ x = z
  · exact (g1 hc).pure fun p e s m args below meth c K T L k' n' X hT t r => XS.icmpYes X.here K.1 rfl rfl (hb K.2.1 hd) rfl (XT.ii_ne_t hc) ho h1 r
  · exact (g2 (by first | exact hc | exact Decidable.not_not.mp hc)).pure fun p e s m args below meth c K T L k' n' X hT t r => XS.icmpNo X.here K.1 rfl (hb K.2.1 hd) rfl (XT.ii_ne_f (by first | exact hc | exact Decidable.not_not.mp hc)) r
theorem Go.lcmp_ne {o : Int} {x z : Int64} (q1 q2 : Nat) (hd : decode code pc = .ok (.ifCond .ne o, 3)) (ho : 0 ≤ (pc : Int) + o) (h1 : ((pc : Int) + o).toNat = q1) (h2 : pc + 3 = q2) (g1 : ¬ x = z → GoB wf l Z y code ml ret R Q k n h q1 Ls st) (g2 : x = z → GoB wf l Z y code ml ret R Q k n h q2 Ls st) : GoB wf l Z y code ml ret R Q k n h pc Ls (.int (XT.cmpL x z) :: st) := by
  subst h2
  by_cases hc : ¬ x = z
  · exact (g1 hc).pure fun p e s m args below meth c K T L k' n' X hT t r => XS.ifYes X.here K.1 rfl rfl (hb K.2.1 hd) rfl (XT.ll_ne_t hc) ho h1 r
  · exact (g2 (by first | exact hc | exact Decidable.not_not.mp hc)).pure fun p e s m args below meth c K T L k' n' X hT t r => XS.ifNo X.here K.1 rfl (hb K.2.1 hd) rfl (XT.ll_ne_f (by first | exact hc | exact Decidable.not_not.mp hc)) r
theorem Go.icmp_lt {o : Int} {x z : Int32} (q1 q2 : Nat) (hd : decode code pc = .ok (.if_icmp .lt o, 3)) (ho : 0 ≤ (pc : Int) + o) (h1 : ((pc : Int) + o).toNat = q1) (h2 : pc + 3 = q2) (g1 : x < z → GoB wf l Z y code ml ret R Q k n h q1 Ls st) (g2 : ¬ x < z → GoB wf l Z y code ml ret R Q k n h q2 Ls st) : GoB wf l Z y code ml ret R Q k n h pc Ls (.int z :: .int x :: st) := by
  subst h2
  by_cases hc : x < z
  · exact (g1 hc).pure fun p e s m args below meth c K T L k' n' X hT t r => XS.icmpYes X.here K.1 rfl rfl (hb K.2.1 hd) rfl (XT.ii_lt_t hc) ho h1 r
  · exact (g2 (by first | exact hc | exact Decidable.not_not.mp hc)).pure fun p e s m args below meth c K T L k' n' X hT t r => XS.icmpNo X.here K.1 rfl (hb K.2.1 hd) rfl (XT.ii_lt_f (by first | exact hc | exact Decidable.not_not.mp hc)) r
theorem Go.lcmp_lt {o : Int} {x z : Int64} (q1 q2 : Nat) (hd : decode code pc = .ok (.ifCond .lt o, 3)) (ho : 0 ≤ (pc : Int) + o) (h1 : ((pc : Int) + o).toNat = q1) (h2 : pc + 3 = q2) (g1 : x < z → GoB wf l Z y code ml ret R Q k n h q1 Ls st) (g2 : ¬ x < z → GoB wf l Z y code ml ret R Q k n h q2 Ls st) : GoB wf l Z y code ml ret R Q k n h pc Ls (.int (XT.cmpL x z) :: st) := by
  subst h2
  by_cases hc : x < z
  · exact (g1 hc).pure fun p e s m args below meth c K T L k' n' X hT t r => XS.ifYes X.here K.1 rfl rfl (hb K.2.1 hd) rfl (XT.ll_lt_t hc) ho h1 r
  · exact (g2 (by first | exact hc | exact Decidable.not_not.mp hc)).pure fun p e s m args below meth c K T L k' n' X hT t r => XS.ifNo X.here K.1 rfl (hb K.2.1 hd) rfl (XT.ll_lt_f (by first | exact hc | exact Decidable.not_not.mp hc)) r
theorem Go.icmp_ge {o : Int} {x z : Int32} (q1 q2 : Nat) (hd : decode code pc = .ok (.if_icmp .ge o, 3)) (ho : 0 ≤ (pc : Int) + o) (h1 : ((pc : Int) + o).toNat = q1) (h2 : pc + 3 = q2) (g1 : ¬ x < z → GoB wf l Z y code ml ret R Q k n h q1 Ls st) (g2 : x < z → GoB wf l Z y code ml ret R Q k n h q2 Ls st) : GoB wf l Z y code ml ret R Q k n h pc Ls (.int z :: .int x :: st) := by
  subst h2
  by_cases hc : ¬ x < z
  · exact (g1 hc).pure fun p e s m args below meth c K T L k' n' X hT t r => XS.icmpYes X.here K.1 rfl rfl (hb K.2.1 hd) rfl (XT.ii_ge_t hc) ho h1 r
  · exact (g2 (by first | exact hc | exact Decidable.not_not.mp hc)).pure fun p e s m args below meth c K T L k' n' X hT t r => XS.icmpNo X.here K.1 rfl (hb K.2.1 hd) rfl (XT.ii_ge_f (by first | exact hc | exact Decidable.not_not.mp hc)) r
theorem Go.lcmp_ge {o : Int} {x z : Int64} (q1 q2 : Nat) (hd : decode code pc = .ok (.ifCond .ge o, 3)) (ho : 0 ≤ (pc : Int) + o) (h1 : ((pc : Int) + o).toNat = q1) (h2 : pc + 3 = q2) (g1 : ¬ x < z → GoB wf l Z y code ml ret R Q k n h q1 Ls st) (g2 : x < z → GoB wf l Z y code ml ret R Q k n h q2 Ls st) : GoB wf l Z y code ml ret R Q k n h pc Ls (.int (XT.cmpL x z) :: st) := by
  subst h2
  by_cases hc : ¬ x < z
  · exact (g1 hc).pure fun p e s m args below meth c K T L k' n' X hT t r => XS.ifYes X.here K.1 rfl rfl (hb K.2.1 hd) rfl (XT.ll_ge_t hc) ho h1 r
  · exact (g2 (by first | exact hc | exact Decidable.not_not.mp hc)).pure fun p e s m args below meth c K T L k' n' X hT t r => XS.ifNo X.here K.1 rfl (hb K.2.1 hd) rfl (XT.ll_ge_f (by first | exact hc | exact Decidable.not_not.mp hc)) r
theorem Go.icmp_gt {o : Int} {x z : Int32} (q1 q2 : Nat) (hd : decode code pc = .ok (.if_icmp .gt o, 3)) (ho : 0 ≤ (pc : Int) + o) (h1 : ((pc : Int) + o).toNat = q1) (h2 : pc + 3 = q2) (g1 : z < x → GoB wf l Z y code ml ret R Q k n h q1 Ls st) (g2 : ¬ z < x → GoB wf l Z y code ml ret R Q k n h q2 Ls st) : GoB wf l Z y code ml ret R Q k n h pc Ls (.int z :: .int x :: st) := by
  subst h2
  by_cases hc : z < x
  · exact (g1 hc).pure fun p e s m args below meth c K T L k' n' X hT t r => XS.icmpYes X.here K.1 rfl rfl (hb K.2.1 hd) rfl (XT.ii_gt_t hc) ho h1 r
  · exact (g2 (by first | exact hc | exact Decidable.not_not.mp hc)).pure fun p e s m args below meth c K T L k' n' X hT t r => XS.icmpNo X.here K.1 rfl (hb K.2.1 hd) rfl (XT.ii_gt_f (by first | exact hc | exact Decidable.not_not.mp hc)) r
theorem Go.lcmp_gt {o : Int} {x z : Int64} (q1 q2 : Nat) (hd : decode code pc = .ok (.ifCond .gt o, 3)) (ho : 0 ≤ (pc : Int) + o) (h1 : ((pc : Int) + o).toNat = q1) (h2 : pc + 3 = q2) (g1 : z < x → GoB wf l Z y code ml ret R Q k n h q1 Ls st) (g2 : ¬ z < x → GoB wf l Z y code ml ret R Q k n h q2 Ls st) : GoB wf l Z y code ml ret R Q k n h pc Ls (.int (XT.cmpL x z) :: st) := by
  subst h2
  by_cases hc : z < x
  · exact (g1 hc).pure fun p e s m args below meth c K T L k' n' X hT t r => XS.ifYes X.here K.1 rfl rfl (hb K.2.1 hd) rfl (XT.ll_gt_t hc) ho h1 r
  · exact (g2 (by first | exact hc | exact Decidable.not_not.mp hc)).pure fun p e s m args below meth c K T L k' n' X hT t r => XS.ifNo X.here K.1 rfl (hb K.2.1 hd) rfl (XT.ll_gt_f (by first | exact hc | exact Decidable.not_not.mp hc)) r
theorem Go.icmp_le {o : Int} {x z : Int32} (q1 q2 : Nat) (hd : decode code pc = .ok (.if_icmp .le o, 3)) (ho : 0 ≤ (pc : Int) + o) (h1 : ((pc : Int) + o).toNat = q1) (h2 : pc + 3 = q2) (g1 : ¬ z < x → GoB wf l Z y code ml ret R Q k n h q1 Ls st) (g2 : z < x → GoB wf l Z y code ml ret R Q k n h q2 Ls st) : GoB wf l Z y code ml ret R Q k n h pc Ls (.int z :: .int x :: st) := by
  subst h2
  by_cases hc : ¬ z < x
  · exact (g1 hc).pure fun p e s m args below meth c K T L k' n' X hT t r => XS.icmpYes X.here K.1 rfl rfl (hb K.2.1 hd) rfl (XT.ii_le_t hc) ho h1 r
  · exact (g2 (by first | exact hc | exact Decidable.not_not.mp hc)).pure fun p e s m args below meth c K T L k' n' X hT t r => XS.icmpNo X.here K.1 rfl (hb K.2.1 hd) rfl (XT.ii_le_f (by first | exact hc | exact Decidable.not_not.mp hc)) r
theorem Go.lcmp_le {o : Int} {x z : Int64} (q1 q2 : Nat) (hd : decode code pc = .ok (.ifCond .le o, 3)) (ho : 0 ≤ (pc : Int) + o) (h1 : ((pc : Int) + o).toNat = q1) (h2 : pc + 3 = q2) (g1 : ¬ z < x → GoB wf l Z y code ml ret R Q k n h q1 Ls st) (g2 : z < x → GoB wf l Z y code ml ret R Q k n h q2 Ls st) : GoB wf l Z y code ml ret R Q k n h pc Ls (.int (XT.cmpL x z) :: st) := by
  subst h2
  by_cases hc : ¬ z < x
  · exact (g1 hc).pure fun p e s m args below meth c K T L k' n' X hT t r => XS.ifYes X.here K.1 rfl rfl (hb K.2.1 hd) rfl (XT.ll_le_t hc) ho h1 r
  · exact (g2 (by first | exact hc | exact Decidable.not_not.mp hc)).pure fun p e s m args below meth c K T L k' n' X hT t r => XS.ifNo X.here K.1 rfl (hb K.2.1 hd) rfl (XT.ll_le_f (by first | exact hc | exact Decidable.not_not.mp hc)) r
theorem if0_eq_t {x : Int32} (h : x = 0) : ifCond.holds .eq x = true := by
  have e : ifCond.holds .eq x = if_icmp.holds .eq x 0 := rfl
  rw [e]; exact XT.ii_eq_t h
theorem if0_eq_f {x : Int32} (h : ¬ x = 0) : ifCond.holds .eq x = false := by
  have e : ifCond.holds .eq x = if_icmp.holds .eq x 0 := rfl
  rw [e]; exact XT.ii_eq_f h
theorem Go.if_eq {o : Int} {x : Int32} (q1 q2 : Nat) (hd : decode code pc = .ok (.ifCond .eq o, 3)) (ho : 0 ≤ (pc : Int) + o) (h1 : ((pc : Int) + o).toNat = q1) (h2 : pc + 3 = q2) (g1 : x = 0 → GoB wf l Z y code ml ret R Q k n h q1 Ls st) (g2 : ¬ x = 0 → GoB wf l Z y code ml ret R Q k n h q2 Ls st) : GoB wf l Z y code ml ret R Q k n h pc Ls (.int x :: st) := by
  subst h2
  by_cases hc : x = 0
  · exact (g1 hc).pure fun p e s m args below meth c K T L k' n' X hT t r => XS.ifYes X.here K.1 rfl rfl (hb K.2.1 hd) rfl (if0_eq_t hc) ho h1 r
  · exact (g2 (by first | exact hc | exact Decidable.not_not.mp hc)).pure fun p e s m args below meth c K T L k' n' X hT t r => XS.ifNo X.here K.1 rfl (hb K.2.1 hd) rfl (if0_eq_f (by first | exact hc | exact Decidable.not_not.mp hc)) r
theorem if0_ne_t {x : Int32} (h : ¬ x = 0) : ifCond.holds .ne x = true := by
  have e : ifCond.holds .ne x = if_icmp.holds .ne x 0 := rfl
  rw [e]; exact XT.ii_ne_t h
theorem if0_ne_f {x : Int32} (h : x = 0) : ifCond.holds .ne x = false := by
  have e : ifCond.holds .ne x = if_icmp.holds .ne x 0 := rfl
  rw [e]; exact XT.ii_ne_f h
theorem Go.if_ne {o : Int} {x : Int32} (q1 q2 : Nat) (hd : decode code pc = .ok (.ifCond .ne o, 3)) (ho : 0 ≤ (pc : Int) + o) (h1 : ((pc : Int) + o).toNat = q1) (h2 : pc + 3 = q2) (g1 : ¬ x = 0 → GoB wf l Z y code ml ret R Q k n h q1 Ls st) (g2 : x = 0 → GoB wf l Z y code ml ret R Q k n h q2 Ls st) : GoB wf l Z y code ml ret R Q k n h pc Ls (.int x :: st) := by
  subst h2
  by_cases hc : ¬ x = 0
  · exact (g1 hc).pure fun p e s m args below meth c K T L k' n' X hT t r => XS.ifYes X.here K.1 rfl rfl (hb K.2.1 hd) rfl (if0_ne_t hc) ho h1 r
  · exact (g2 (by first | exact hc | exact Decidable.not_not.mp hc)).pure fun p e s m args below meth c K T L k' n' X hT t r => XS.ifNo X.here K.1 rfl (hb K.2.1 hd) rfl (if0_ne_f (by first | exact hc | exact Decidable.not_not.mp hc)) r
theorem if0_lt_t {x : Int32} (h : x < 0) : ifCond.holds .lt x = true := by
  have e : ifCond.holds .lt x = if_icmp.holds .lt x 0 := rfl
  rw [e]; exact XT.ii_lt_t h
theorem if0_lt_f {x : Int32} (h : ¬ x < 0) : ifCond.holds .lt x = false := by
  have e : ifCond.holds .lt x = if_icmp.holds .lt x 0 := rfl
  rw [e]; exact XT.ii_lt_f h
theorem Go.if_lt {o : Int} {x : Int32} (q1 q2 : Nat) (hd : decode code pc = .ok (.ifCond .lt o, 3)) (ho : 0 ≤ (pc : Int) + o) (h1 : ((pc : Int) + o).toNat = q1) (h2 : pc + 3 = q2) (g1 : x < 0 → GoB wf l Z y code ml ret R Q k n h q1 Ls st) (g2 : ¬ x < 0 → GoB wf l Z y code ml ret R Q k n h q2 Ls st) : GoB wf l Z y code ml ret R Q k n h pc Ls (.int x :: st) := by
  subst h2
  by_cases hc : x < 0
  · exact (g1 hc).pure fun p e s m args below meth c K T L k' n' X hT t r => XS.ifYes X.here K.1 rfl rfl (hb K.2.1 hd) rfl (if0_lt_t hc) ho h1 r
  · exact (g2 (by first | exact hc | exact Decidable.not_not.mp hc)).pure fun p e s m args below meth c K T L k' n' X hT t r => XS.ifNo X.here K.1 rfl (hb K.2.1 hd) rfl (if0_lt_f (by first | exact hc | exact Decidable.not_not.mp hc)) r
theorem if0_ge_t {x : Int32} (h : ¬ x < 0) : ifCond.holds .ge x = true := by
  have e : ifCond.holds .ge x = if_icmp.holds .ge x 0 := rfl
  rw [e]; exact XT.ii_ge_t h
theorem if0_ge_f {x : Int32} (h : x < 0) : ifCond.holds .ge x = false := by
  have e : ifCond.holds .ge x = if_icmp.holds .ge x 0 := rfl
  rw [e]; exact XT.ii_ge_f h
theorem Go.if_ge {o : Int} {x : Int32} (q1 q2 : Nat) (hd : decode code pc = .ok (.ifCond .ge o, 3)) (ho : 0 ≤ (pc : Int) + o) (h1 : ((pc : Int) + o).toNat = q1) (h2 : pc + 3 = q2) (g1 : ¬ x < 0 → GoB wf l Z y code ml ret R Q k n h q1 Ls st) (g2 : x < 0 → GoB wf l Z y code ml ret R Q k n h q2 Ls st) : GoB wf l Z y code ml ret R Q k n h pc Ls (.int x :: st) := by
  subst h2
  by_cases hc : ¬ x < 0
  · exact (g1 hc).pure fun p e s m args below meth c K T L k' n' X hT t r => XS.ifYes X.here K.1 rfl rfl (hb K.2.1 hd) rfl (if0_ge_t hc) ho h1 r
  · exact (g2 (by first | exact hc | exact Decidable.not_not.mp hc)).pure fun p e s m args below meth c K T L k' n' X hT t r => XS.ifNo X.here K.1 rfl (hb K.2.1 hd) rfl (if0_ge_f (by first | exact hc | exact Decidable.not_not.mp hc)) r
theorem if0_gt_t {x : Int32} (h : 0 < x) : ifCond.holds .gt x = true := by
  have e : ifCond.holds .gt x = if_icmp.holds .gt x 0 := rfl
  rw [e]; exact XT.ii_gt_t h
theorem if0_gt_f {x : Int32} (h : ¬ 0 < x) : ifCond.holds .gt x = false := by
  have e : ifCond.holds .gt x = if_icmp.holds .gt x 0 := rfl
  rw [e]; exact XT.ii_gt_f h
theorem Go.if_gt {o : Int} {x : Int32} (q1 q2 : Nat) (hd : decode code pc = .ok (.ifCond .gt o, 3)) (ho : 0 ≤ (pc : Int) + o) (h1 : ((pc : Int) + o).toNat = q1) (h2 : pc + 3 = q2) (g1 : 0 < x → GoB wf l Z y code ml ret R Q k n h q1 Ls st) (g2 : ¬ 0 < x → GoB wf l Z y code ml ret R Q k n h q2 Ls st) : GoB wf l Z y code ml ret R Q k n h pc Ls (.int x :: st) := by
  subst h2
  by_cases hc : 0 < x
  · exact (g1 hc).pure fun p e s m args below meth c K T L k' n' X hT t r => XS.ifYes X.here K.1 rfl rfl (hb K.2.1 hd) rfl (if0_gt_t hc) ho h1 r
  · exact (g2 (by first | exact hc | exact Decidable.not_not.mp hc)).pure fun p e s m args below meth c K T L k' n' X hT t r => XS.ifNo X.here K.1 rfl (hb K.2.1 hd) rfl (if0_gt_f (by first | exact hc | exact Decidable.not_not.mp hc)) r
theorem if0_le_t {x : Int32} (h : ¬ 0 < x) : ifCond.holds .le x = true := by
  have e : ifCond.holds .le x = if_icmp.holds .le x 0 := rfl
  rw [e]; exact XT.ii_le_t h
theorem if0_le_f {x : Int32} (h : 0 < x) : ifCond.holds .le x = false := by
  have e : ifCond.holds .le x = if_icmp.holds .le x 0 := rfl
  rw [e]; exact XT.ii_le_f h
theorem Go.if_le {o : Int} {x : Int32} (q1 q2 : Nat) (hd : decode code pc = .ok (.ifCond .le o, 3)) (ho : 0 ≤ (pc : Int) + o) (h1 : ((pc : Int) + o).toNat = q1) (h2 : pc + 3 = q2) (g1 : ¬ 0 < x → GoB wf l Z y code ml ret R Q k n h q1 Ls st) (g2 : 0 < x → GoB wf l Z y code ml ret R Q k n h q2 Ls st) : GoB wf l Z y code ml ret R Q k n h pc Ls (.int x :: st) := by
  subst h2
  by_cases hc : ¬ 0 < x
  · exact (g1 hc).pure fun p e s m args below meth c K T L k' n' X hT t r => XS.ifYes X.here K.1 rfl rfl (hb K.2.1 hd) rfl (if0_le_t hc) ho h1 r
  · exact (g2 (by first | exact hc | exact Decidable.not_not.mp hc)).pure fun p e s m args below meth c K T L k' n' X hT t r => XS.ifNo X.here K.1 rfl (hb K.2.1 hd) rfl (if0_le_f (by first | exact hc | exact Decidable.not_not.mp hc)) r
theorem Go.ifnull_no {o : Int} {b : Addr} (q : Nat) (hd : decode code pc = .ok (.ifnull o, 3)) (hq : pc + 3 = q) (g : GoB wf l Z y code ml ret R Q k n h q Ls st) : GoB wf l Z y code ml ret R Q k n h pc Ls (.ref b :: st) := by
  subst hq; exact g.pure fun p e s m args below meth c K T L k' n' X hT t r => XS.ifnullNo X.here K.1 rfl (hb K.2.1 hd) rfl r
theorem Go.ifnull_yes {o : Int} (q : Nat) (hd : decode code pc = .ok (.ifnull o, 3)) (ho : 0 ≤ (pc : Int) + o) (hq : ((pc : Int) + o).toNat = q) (g : GoB wf l Z y code ml ret R Q k n h q Ls st) : GoB wf l Z y code ml ret R Q k n h pc Ls (.null :: st) :=
  g.pure fun p e s m args below meth c K T L k' n' X hT t r => XS.ifnullYes X.here K.1 rfl rfl (hb K.2.1 hd) rfl ho hq r
theorem Go.ifnonnull_yes {o : Int} {b : Addr} (q : Nat) (hd : decode code pc = .ok (.ifnonnull o, 3)) (ho : 0 ≤ (pc : Int) + o) (hq : ((pc : Int) + o).toNat = q) (g : GoB wf l Z y code ml ret R Q k n h q Ls st) : GoB wf l Z y code ml ret R Q k n h pc Ls (.ref b :: st) :=
  g.pure fun p e s m args below meth c K T L k' n' X hT t r => XT.ifnonnullYes X.here K.1 rfl rfl (hb K.2.1 hd) rfl ho hq r
theorem Go.ifnonnull_no {o : Int} (q : Nat) (hd : decode code pc = .ok (.ifnonnull o, 3)) (hq : pc + 3 = q) (g : GoB wf l Z y code ml ret R Q k n h q Ls st) : GoB wf l Z y code ml ret R Q k n h pc Ls (.null :: st) := by
  subst hq; exact g.pure fun p e s m args below meth c K T L k' n' X hT t r => XT.ifnonnullNo X.here K.1 rfl (hb K.2.1 hd) rfl r
theorem Go.acmp {cd : ACond} {o : Int} {x z : Value} (q : Nat) (same : Bool) (hd : decode code pc = .ok (.if_acmp cd o, 3)) (h1 : x.isRef = true) (h2 : z.isRef = true) (hs : decide (x = z) = same) (ho : 0 ≤ (pc : Int) + o) (hq : q = if acV cd same = true then ((pc : Int) + o).toNat else pc + 3) (g : GoB wf l Z y code ml ret R Q k n h q Ls st) : GoB wf l Z y code ml ret R Q k n h pc Ls (z :: x :: st) :=
  g.pure fun p e s m args below meth c K T L k' n' X hT t r => Jvm.RoadKit.acmp X K.1 rfl h1 h2 rfl (hb K.2.1 hd) rfl hs ho hq r
theorem Go.acmp_eq {o : Int} {x z : Addr} (q1 q2 : Nat) (hd : decode code pc = .ok (.if_acmp .eq o, 3)) (ho : 0 ≤ (pc : Int) + o) (h1 : ((pc : Int) + o).toNat = q1) (h2 : pc + 3 = q2) (g1 : x = z → GoB wf l Z y code ml ret R Q k n h q1 Ls st) (g2 : ¬ x = z → GoB wf l Z y code ml ret R Q k n h q2 Ls st) : GoB wf l Z y code ml ret R Q k n h pc Ls (.ref z :: .ref x :: st) := by
  subst h1 h2
  by_cases hc : x = z
  · exact Go.acmp _ true hd rfl rfl (by simp [hc]) ho rfl (by simpa [acV] using g1 hc)
  · exact Go.acmp _ false hd rfl rfl (by simp [hc]) ho rfl (by simpa [acV] using g2 hc)
theorem Go.acmp_ne {o : Int} {x z : Addr} (q1 q2 : Nat) (hd : decode code pc = .ok (.if_acmp .ne o, 3)) (ho : 0 ≤ (pc : Int) + o) (h1 : ((pc : Int) + o).toNat = q1) (h2 : pc + 3 = q2) (g1 : ¬ x = z → GoB wf l Z y code ml ret R Q k n h q1 Ls st) (g2 : x = z → GoB wf l Z y code ml ret R Q k n h q2 Ls st) : GoB wf l Z y code ml ret R Q k n h pc Ls (.ref z :: .ref x :: st) := by
  subst h1 h2
  by_cases hc : x = z
  · exact Go.acmp _ true hd rfl rfl (by simp [hc]) ho rfl (by simpa [acV] using g2 hc)
  · exact Go.acmp _ false hd rfl rfl (by simp [hc]) ho rfl (by simpa [acV] using g1 hc)

theorem Go.retV {v : Value} {t : FieldType} {i : Instr} (hd : decode code pc = .ok (i, 1)) (hret : ret = some t) (hn : narrow t v = v)
    (hi : (i = .ireturn ∧ (t = .int ∨ t = .boolean ∨ t = .byte ∨ t = .char ∨ t = .short) ∧ ∃ z, v = .int z) ∨ (i = .lreturn ∧ t = .long ∧ ∃ z, v = .long z) ∨ (i = .dreturn ∧ t = .double ∧ ∃ z, v = .double z) ∨ (i = .freturn ∧ t = .float ∧ ∃ z, v = .float z) ∨ (i = .areturn ∧ t.isReference = true ∧ v.isRef = true))
    (hk : k ≤ R.cells) (hN : n ≤ R.slots) (hQ : Q (some v) h) : GoB wf l Z y code ml ret R Q k n h pc Ls (v :: st) := by
  intro p e s m args below meth c K T L k' n' X h1 h2 N hT
  refine ⟨s, some v, T, L, k', n', Or.inl rfl, X, Nat.le_trans h1 hk, Nat.le_trans h2 hN, N, hT ▸ hQ, fun e => ?_, fun fs hl => ?_⟩
  · rw [hret] at e; cases e
  · exact retOut X K.1 (K.2.2.2.2.2.1.trans hret) hn hi (hb K.2.1 hd) hl
theorem Go.ireturn {z : Int32} {P : Int32 → Heap → Prop} (hd : decode code pc = .ok (.ireturn, 1)) (hret : ret = some .int) (hk : k ≤ R.cells) (hN : n ≤ R.slots) (hP : P z h) : GoB wf l Z y code ml ret R (QI P) k n h pc Ls (.int z :: st) :=
  Go.retV hd hret rfl (Or.inl ⟨rfl, Or.inl rfl, z, rfl⟩) hk hN ⟨z, rfl, hP⟩
theorem Go.lreturn {z : Int64} {P : Int64 → Heap → Prop} (hd : decode code pc = .ok (.lreturn, 1)) (hret : ret = some .long) (hk : k ≤ R.cells) (hN : n ≤ R.slots) (hP : P z h) : GoB wf l Z y code ml ret R (QJ P) k n h pc Ls (.long z :: st) :=
  Go.retV hd hret rfl (Or.inr (Or.inl ⟨rfl, rfl, z, rfl⟩)) hk hN ⟨z, rfl, hP⟩
theorem Go.areturn {z : Value} {t : FieldType} {P : Value → Heap → Prop} (hd : decode code pc = .ok (.areturn, 1)) (hret : ret = some t) (ht : t.isReference = true) (hz : z.isRef = true) (hk : k ≤ R.cells) (hN : n ≤ R.slots) (hP : P z h) : GoB wf l Z y code ml ret R (QR P) k n h pc Ls (z :: st) := by
  refine Go.retV hd hret ?_ (Or.inr (Or.inr (Or.inr (Or.inr ⟨rfl, ht, hz⟩)))) hk hN ⟨z, rfl, hP⟩
  cases t <;> cases z <;> first | rfl | (simp [Value.isRef] at hz)
/-- a boolean, byte, char or short: narrowed -/
theorem Go.nreturn {z z' : Int32} {t : FieldType} {P : Int32 → Heap → Prop} (hd : decode code pc = .ok (.ireturn, 1)) (hret : ret = some t) (ht : t = .boolean ∨ t = .byte ∨ t = .char ∨ t = .short) (hz : nar t z = z') (hk : k ≤ R.cells) (hN : n ≤ R.slots) (hP : P z' h) : GoB wf l Z y code ml ret R (QI P) k n h pc Ls (.int z :: st) := by
  subst hz
  intro p e s m args below meth c K T L k' n' X h1 h2 N hT
  refine ⟨s, some (.int (nar t z)), T, L, k', n', Or.inl rfl, X, Nat.le_trans h1 hk, Nat.le_trans h2 hN, N, ⟨_, rfl, hT ▸ hP⟩, fun e => ?_, fun fs hl => ?_⟩
  · rw [hret] at e; cases e
  · exact retN X K.1 (K.2.2.2.2.2.1.trans hret) ht (hb K.2.1 hd) hl
theorem Go.vreturn {P : Heap → Prop} (hd : decode code pc = .ok (.return_, 1)) (hret : ret = none) (hk : k ≤ R.cells) (hN : n ≤ R.slots) (hP : P h) : GoB wf l Z y code ml ret R (QV P) k n h pc Ls [] := by
  intro p e s m args below meth c K T L k' n' X h1 h2 N hT
  exact ⟨s, none, T, L, k', n', Or.inl rfl, X, Nat.le_trans h1 hk, Nat.le_trans h2 hN, N, ⟨rfl, hT ▸ hP⟩, fun _ => rfl, fun fs hl => X.returnOut K.1 (K.2.2.2.2.2.1.trans hret) (hb K.2.1 hd) hl⟩
/-- the whole body, as a contract -/
theorem Go.met {as' : Array Value} (hx : plainFor y = true) (hent : ∀ m, entryFrame m as' ml = mkF m 0 Ls []) (G : Go l Z y code ml ret R Q 0 0 h 0 Ls []) (ws : List Jvm.Cond) :
    MetFree l y (head1 (Jvm.Cond.code y code ml ret :: ws) R) (fun a U => a = as' ∧ Z.Warmed39 U.vm ∧ U.heap = h) (fun _ _ _ _ _ => True) (fun _ U o U' => ∃ v L, o = .returned v ∧ (Q v U'.heap ∧ Fr Z.heap.size L) ∧ FrameEnd U o U' L R.cells R.slots) := by
  refine MetFree.of_bodySF hx hisR ?_
  intro p e s m args below meth c s₁ Bd hml hP hK
  obtain ⟨rfl, hZ, hh⟩ := hP
  have X0 : Stand p l e R s m args below meth c s₁ [] 0 0 := Stand.of_body Bd
  have e0 : s₁.heap = h := by rw [← hh, Bd.state]; rfl
  have hnm := (name_of_methodNamed Bd.named Bd.method).1
  obtain ⟨s', v, T', L', k'', n'', ok', X', b1, b2, N', q, hv, stp⟩ := G p e s m args below meth c ⟨Bd.exec, Bd.bytes, hZ, findClass_of_methodNamed Bd.named, hml, Bd.returns, Bd.notSynchronized, hnm⟩ s₁ [] 0 0 X0 (Nat.le_refl _) (Nat.le_refl _) (Fr.nil _) e0
  obtain rfl : s' = s := ok'.elim id (fun q => absurd q.1 (by decide))
  obtain ⟨fs, hr, hrun, hended, hW, hsame⟩ := X'.leave (v := v) (fun hh => hv (by rw [← Bd.returns]; exact hh))
  refine ⟨_, _, castTop (hent m) (stp fs hr), hrun, hended, v, L', rfl, ⟨q, N'⟩, ⟨_, rfl⟩, hW, hsame.mono b1 b2⟩


theorem Go.getfield {i : Nat} {O nm d : String} {a : Addr} {v : Value} (q : Nat) (hd : decode code pc = .ok (.getfield i, 3)) (w : (Cond.fieldLink y.cls i O nm d).before a0 Z = true) (F : Fld Z h a O nm d v) (hq : pc + 3 = q) (g : GoB wf l Z y code ml ret R Q k n h q Ls (v :: st)) : GoB wf l Z y code ml ret R Q k n h pc Ls (.ref a :: st) := by
  subst hq
  refine GoB.move (P := fun h' => h' = h) (kk := k) (nn := n) (fun h' e => e ▸ g) ?_
  intro p e s m args below meth c K T L k' n' X h1 h2 N hT
  obtain ⟨T', X', e', s'⟩ := getF X K.1 K.2.2.1 K.2.2.2.1 (host := "") (Or.inl w) Via.refl hT F (g := mkF m pc Ls (.ref a :: st)) rfl rfl (hb K.2.1 hd)
  exact ⟨T', L, k', n', X', h1, h2, N, e', s'⟩
theorem Go.getfieldN {i : Nat} {O nm d host : String} {a : Addr} {v : Value} (q : Nat) (hd : decode code pc = .ok (.getfield i, 3)) (w : (Cond.fieldLinkNest y.cls i O nm d host).before a0 Z = true) (F : Fld Z h a O nm d v) (hq : pc + 3 = q) (g : GoB wf l Z y code ml ret R Q k n h q Ls (v :: st)) : GoB wf l Z y code ml ret R Q k n h pc Ls (.ref a :: st) := by
  subst hq
  refine GoB.move (P := fun h' => h' = h) (kk := k) (nn := n) (fun h' e => e ▸ g) ?_
  intro p e s m args below meth c K T L k' n' X h1 h2 N hT
  obtain ⟨T', X', e', s'⟩ := getF X K.1 K.2.2.1 K.2.2.2.1 (host := host) (Or.inr w) Via.refl hT F (g := mkF m pc Ls (.ref a :: st)) rfl rfl (hb K.2.1 hd)
  exact ⟨T', L, k', n', X', h1, h2, N, e', s'⟩
theorem Go.getfieldU {i : Nat} {R0 O nm d : String} {a : Addr} {v : Value} (q : Nat) (hd : decode code pc = .ok (.getfield i, 3)) (w : (Cond.fieldLink y.cls i R0 nm d).before a0 Z = true) (via : Via Z R0 O nm d) (F : Fld Z h a O nm d v) (hq : pc + 3 = q) (g : GoB wf l Z y code ml ret R Q k n h q Ls (v :: st)) : GoB wf l Z y code ml ret R Q k n h pc Ls (.ref a :: st) := by
  subst hq
  refine GoB.move (P := fun h' => h' = h) (kk := k) (nn := n) (fun h' e => e ▸ g) ?_
  intro p e s m args below meth c K T L k' n' X h1 h2 N hT
  obtain ⟨T', X', e', s'⟩ := getF X K.1 K.2.2.1 K.2.2.2.1 (host := "") (Or.inl w) via hT F (g := mkF m pc Ls (.ref a :: st)) rfl rfl (hb K.2.1 hd)
  exact ⟨T', L, k', n', X', h1, h2, N, e', s'⟩
theorem Go.getstatic {i : Nat} {O nm d : String} {v : Value} (q : Nat) (hd : decode code pc = .ok (.getstatic i, 3)) (w : (Cond.fieldLink y.cls i O nm d).before a0 Z = true) (F : Sta Z h O nm d v) (hq : pc + 3 = q) (g : GoB wf l Z y code ml ret R Q k n h q Ls (v :: st)) : GoB wf l Z y code ml ret R Q k n h pc Ls st := by
  subst hq
  refine GoB.move (P := fun h' => h' = h) (kk := k) (nn := n) (fun h' e => e ▸ g) ?_
  intro p e s m args below meth c K T L k' n' X h1 h2 N hT
  obtain ⟨T', X', e', s'⟩ := getS X K.1 K.2.2.1 (host := "") K.2.2.2.1 w Via.refl hT F (g := mkF m pc Ls st) rfl (hb K.2.1 hd)
  exact ⟨T', L, k', n', X', h1, h2, N, e', s'⟩
theorem Go.putfield {i kk : Nat} {C O nm d : String} {ty : FieldType} {a : Addr} {v old : Value} (q : Nat) (hd : decode code pc = .ok (.putfield i, 3)) (w : (Cond.fieldLink y.cls i O nm d).before a0 Z = true) (F : Fld Z h a O nm d old) (E : Exa Z h a C) (hL : (Cond.lays C O nm d).before a0 Z = true ∨ ((Cond.laysFinal C O nm d).before a0 Z = true ∧ y.cls = O ∧ y.name = "<init>"))
    (wi : (Cond.instantiable C kk).before a0 Z = true) (hty : parseFieldDescriptor d = some ty) (hn : narrow ty v = v) (hf : fits ty v = true) (hge : Z.heap.size ≤ a) (hq : pc + 3 = q)
    (g : ∀ h', Wr h h' a (Jvm.RoadKit.slotOf Z O nm d) v → GoB wf l Z y code ml ret R Q k n h' q Ls st) : GoB wf l Z y code ml ret R Q k n h pc Ls (v :: .ref a :: st) := by
  subst hq
  refine GoB.move (P := fun h' => Wr h h' a (Jvm.RoadKit.slotOf Z O nm d) v) (kk := k) (nn := n) g ?_
  intro p e s m args below meth c K T L k' n' X h1 h2 N hT
  obtain ⟨T', h', X', e', W', s'⟩ := putF X K.1 K.2.2.1 K.2.2.2.1 (host := "") (Or.inl w) Via.refl hT F E (hL.imp id fun ⟨a1, a2, a3⟩ => ⟨a1, a2, K.2.2.2.2.2.2.2.trans a3⟩) wi hty hn hf (g := mkF m pc Ls (v :: .ref a :: st)) rfl rfl (hb K.2.1 hd)
  exact ⟨T', _, k', n', X', h1, h2, Fr.snoc X' N hge, e' ▸ W', s'⟩
theorem Go.putfieldU {i kk : Nat} {R0 C O nm d : String} {ty : FieldType} {a : Addr} {v old : Value} (q : Nat) (hd : decode code pc = .ok (.putfield i, 3)) (w : (Cond.fieldLink y.cls i R0 nm d).before a0 Z = true) (via : Via Z R0 O nm d) (F : Fld Z h a O nm d old) (E : Exa Z h a C) (hL : (Cond.lays C O nm d).before a0 Z = true ∨ ((Cond.laysFinal C O nm d).before a0 Z = true ∧ y.cls = O ∧ y.name = "<init>"))
    (wi : (Cond.instantiable C kk).before a0 Z = true) (hty : parseFieldDescriptor d = some ty) (hn : narrow ty v = v) (hf : fits ty v = true) (hge : Z.heap.size ≤ a) (hq : pc + 3 = q)
    (g : ∀ h', Wr h h' a (Jvm.RoadKit.slotOf Z O nm d) v → GoB wf l Z y code ml ret R Q k n h' q Ls st) : GoB wf l Z y code ml ret R Q k n h pc Ls (v :: .ref a :: st) := by
  subst hq
  refine GoB.move (P := fun h' => Wr h h' a (Jvm.RoadKit.slotOf Z O nm d) v) (kk := k) (nn := n) g ?_
  intro p e s m args below meth c K T L k' n' X h1 h2 N hT
  obtain ⟨T', h', X', e', W', s'⟩ := putF X K.1 K.2.2.1 K.2.2.2.1 (host := "") (Or.inl w) via hT F E (hL.imp id fun ⟨a1, a2, a3⟩ => ⟨a1, a2, K.2.2.2.2.2.2.2.trans a3⟩) wi hty hn hf (g := mkF m pc Ls (v :: .ref a :: st)) rfl rfl (hb K.2.1 hd)
  exact ⟨T', _, k', n', X', h1, h2, Fr.snoc X' N hge, e' ▸ W', s'⟩
/-- a field that narrows (boolean, byte, char, short) -/
theorem Go.putfieldN {i kk : Nat} {C O nm d : String} {ty : FieldType} {a : Addr} {v v' old : Value} (q : Nat) (hd : decode code pc = .ok (.putfield i, 3)) (w : (Cond.fieldLink y.cls i O nm d).before a0 Z = true) (F : Fld Z h a O nm d old) (E : Exa Z h a C) (hL : (Cond.lays C O nm d).before a0 Z = true ∨ ((Cond.laysFinal C O nm d).before a0 Z = true ∧ y.cls = O ∧ y.name = "<init>"))
    (wi : (Cond.instantiable C kk).before a0 Z = true) (hty : parseFieldDescriptor d = some ty) (hn : narrow ty v = v') (hf : fits ty v' = true) (hge : Z.heap.size ≤ a) (hq : pc + 3 = q)
    (g : ∀ h', Wr h h' a (Jvm.RoadKit.slotOf Z O nm d) v' → GoB wf l Z y code ml ret R Q k n h' q Ls st) : GoB wf l Z y code ml ret R Q k n h pc Ls (v :: .ref a :: st) := by
  subst hq
  refine GoB.move (P := fun h' => Wr h h' a (Jvm.RoadKit.slotOf Z O nm d) v') (kk := k) (nn := n) g ?_
  intro p e s m args below meth c K T L k' n' X h1 h2 N hT
  obtain ⟨T', h', X', e', W', s'⟩ := putFN X K.1 K.2.2.1 K.2.2.2.1 w Via.refl hT F E (hL.imp id fun ⟨a1, a2, a3⟩ => ⟨a1, a2, K.2.2.2.2.2.2.2.trans a3⟩) wi hty hn hf (g := mkF m pc Ls (v :: .ref a :: st)) rfl rfl (hb K.2.1 hd)
  exact ⟨T', _, k', n', X', h1, h2, Fr.snoc X' N hge, e' ▸ W', s'⟩
theorem Go.new {i sz : Nat} {C : String} (q : Nat) (hd : decode code pc = .ok (.new i, 3)) (w : (Cond.classLink y.cls i C).before a0 Z = true) (wi : (Cond.instantiable C sz).before a0 Z = true) (wz : (Cond.initialized C).before a0 Z = true) (hk : k + 1 ≤ R.cells) (hN : n + sz ≤ R.slots) (hq : pc + 3 = q)
    (g : ∀ (a : Addr) h', a = h.size → Ext h h' → Exa Z h' a C → (∀ {O nm d : String} {ty : FieldType}, Laid Z a0 C O nm d → parseFieldDescriptor d = some ty → Fld Z h' a O nm d (defaultValue ty)) → GoB wf l Z y code ml ret R Q (k + 1) (n + sz) h' q Ls (.ref a :: st)) : GoB wf l Z y code ml ret R Q k n h pc Ls st := by
  subst hq
  refine GoB.move (P := fun h' => Ext h h' ∧ Exa Z h' h.size C ∧ (∀ {O nm d : String} {ty : FieldType}, Laid Z a0 C O nm d → parseFieldDescriptor d = some ty → Fld Z h' h.size O nm d (defaultValue ty))) (kk := k + 1) (nn := n + sz) (fun h' p => g h.size h' rfl p.1 p.2.1 p.2.2) ?_
  intro p e s m args below meth c K T L k' n' X h1 h2 N hT
  obtain ⟨T', h', X', e', E', A', D', -, s'⟩ := newO X K.1 K.2.2.1 K.2.2.2.1 w wi wz hT (g := mkF m pc Ls st) rfl (hb K.2.1 hd) (Nat.le_trans (Nat.add_le_add_right h1 1) hk) (Nat.le_trans (Nat.add_le_add_right h2 sz) hN)
  subst e'
  exact ⟨T', L, k' + 1, n' + sz, X', Nat.add_le_add_right h1 1, Nat.add_le_add_right h2 sz, N, ⟨E', A', D'⟩, s'⟩
theorem Go.initO {i : Nat} {a : Addr} (W : Nat) (q : Nat) (hd : decode code pc = .ok (.invokespecial i, 3)) (w1 : (Cond.methodLink y.cls i Lib.objectInit).before a0 Z = true) (w2 : (Cond.instanceMethod Lib.objectInit).before a0 Z = true) (w3 : (Cond.code Lib.objectInit ⟨#[0xb1]⟩ 1 none).before a0 Z = true)
    (hsz : Ls.size = ml) (hf : 1 ≤ R.frames) (hW : (st.map fun v => v.category).sum ≤ W) (hl : W + 12 ≤ R.locals) (hq : pc + 3 = q) (g : GoB wf l Z y code ml ret R Q k n h q Ls st) : GoB wf l Z y code ml ret R Q k n h pc Ls (.ref a :: st) := by
  subst hq
  refine GoB.move (P := fun h' => h' = h) (kk := k) (nn := n) (fun h' e => e ▸ g) ?_
  intro p e s m args below meth c K T L k' n' X h1 h2 N hT
  obtain ⟨T', X', e', s'⟩ := Jvm.RoadKit.initO X K.1 K.2.2.1 K.2.2.2.1 w1 w2 w3 hT (g := mkF m pc Ls (.ref a :: st)) rfl (hsz.trans K.2.2.2.2.1.symm) rfl (hb K.2.1 hd) hf (W := W) (by show 2 * 0 + _ ≤ _; rw [Nat.mul_zero, Nat.zero_add]; exact hW) hl
  exact ⟨T', L, k', n', X', h1, h2, N, e', s'⟩


section Calls
variable {y' : MethodName} {code' : ByteArray} {ml' : Nat} {ret' : Option FieldType} {R' : Room} {Q' : Option Value → Heap → Prop} {Ls' : Array Slot} {i W : Nat}
theorem Go.callS (argsL : List Value) (rest : List Value) (q : Nat) (hd : decode code pc = .ok (.invokestatic i, 3)) (w1 : (Cond.methodLink y.cls i y').before a0 Z = true) (w2 : (Cond.static y').before a0 Z = true) (w3 : (Cond.initialized y'.cls).before a0 Z = true) (w4 : (Cond.code y' code' ml' ret').before a0 Z = true)
    (hpl : plainFor y' = true) (hy : y'.cls ≠ "java/lang/invoke/MethodHandle" ∧ y'.cls ≠ "java/lang/invoke/VarHandle") (hlen : ∀ sig, parseMethodDescriptor y'.desc = some sig → argsL.length = sig.parameters.length) (hst : st = argsL.reverse ++ rest) (hent : ∀ m, entryFrame m argsL.toArray ml' = mkF m 0 Ls' [])
    (G : Go l Z y' code' ml' ret' R' Q' 0 0 h 0 Ls' []) (W : Nat) (hsz : Ls.size = ml) (hW : (rest.map fun v => v.category).sum ≤ W) (hf : R'.frames + 1 ≤ R.frames) (hl : W + (ml' + 11) + R'.locals ≤ R.locals) (hk : k + R'.cells ≤ R.cells) (hN : n + R'.slots ≤ R.slots) (hq : pc + 3 = q)
    (g : ∀ v h', Q' v h' → GoB wf l Z y code ml ret R Q (k + R'.cells) (n + R'.slots) h' q Ls (v.toList ++ rest)) : GoB wf l Z y code ml ret R Q k n h pc Ls st := by
  subst hq
  intro p e s m args below meth c K T L k' n' X h1 h2 N hT
  obtain ⟨v, vm₁, ⟨T', L', k'', n''⟩, -, X', ⟨Lc, ⟨hQ, N'⟩, e1, e2, e3⟩, s'⟩ := Jvm.LawKit.callS X K.1 K.2.2.2.1 (mvT K.2.2.1 w1) (mvT K.2.2.1 w2) (mvT K.2.2.1 w3) (mvT K.2.2.1 w4) hy (backOf (W := W) (Q := fun v h L => Q' v h ∧ Fr Z.heap.size L) (Go.met hpl hent G []) K.2.2.1 w4 w3 hf hl) (g := mkF m pc Ls st) rfl (hsz.trans K.2.2.2.2.1.symm) (argsL := argsL) (rest := rest) hlen hst (by show 2 * 0 + _ ≤ _; rw [Nat.mul_zero, Nat.zero_add]; exact hW) (hb K.2.1 hd) (fun _ _ => ⟨rfl, hT, Nat.le_trans (Nat.add_le_add_right h1 _) hk, Nat.le_trans (Nat.add_le_add_right h2 _) hN⟩)
  dsimp only [Pt.U, Pt.locs, Pt.cells, Pt.slots] at X' e1 e2 e3 s' hQ
  subst e1 e2 e3
  obtain ⟨s2, v2, T2, L2, k2, n2, ok2, X2, b1, b2, N2, q2, hv, stp⟩ := g v _ hQ p e s m args below meth c K T' _ _ _ X' (Nat.add_le_add_right h1 _) (Nat.add_le_add_right h2 _) (Fr.app N N') rfl
  exact ⟨s2, v2, T2, L2, k2, n2, ok2, X2, b1, b2, N2, q2, hv, fun fs hl => s' _ (stp fs hl)⟩
theorem Go.callC {a : Addr} (argsL : List Value) (rest : List Value) (q : Nat) (hd : decode code pc = .ok (.invokespecial i, 3)) (hy1 : y'.name = "<init>") (w1 : (Cond.methodLink y.cls i y').before a0 Z = true) (w2 : (Cond.instanceMethod y').before a0 Z = true) (w3 : (Cond.initialized y'.cls).before a0 Z = true) (w4 : (Cond.code y' code' ml' none).before a0 Z = true)
    (hpl : plainFor y' = true) (hy : y'.cls ≠ "java/lang/invoke/MethodHandle" ∧ y'.cls ≠ "java/lang/invoke/VarHandle") (hlen : ∀ sig, parseMethodDescriptor y'.desc = some sig → argsL.length = sig.parameters.length) (hst : st = argsL.reverse ++ .ref a :: rest) (hent : ∀ m, entryFrame m (.ref a :: argsL).toArray ml' = mkF m 0 Ls' [])
    (P' : Heap → Prop) (G : Go l Z y' code' ml' none R' (QV P') 0 0 h 0 Ls' []) (W : Nat) (hsz : Ls.size = ml) (hW : (rest.map fun v => v.category).sum ≤ W) (hf : R'.frames + 1 ≤ R.frames) (hl : W + (ml' + 11) + R'.locals ≤ R.locals) (hk : k + R'.cells ≤ R.cells) (hN : n + R'.slots ≤ R.slots) (hq : pc + 3 = q)
    (g : ∀ h', P' h' → GoB wf l Z y code ml ret R Q (k + R'.cells) (n + R'.slots) h' q Ls rest) : GoB wf l Z y code ml ret R Q k n h pc Ls st := by
  subst hq
  intro p e s m args below meth c K T L k' n' X h1 h2 N hT
  obtain ⟨v, vm₁, ⟨T', L', k'', n''⟩, -, X', ⟨Lc, ⟨⟨rfl, hQ⟩, N'⟩, e1, e2, e3⟩, s'⟩ := X.specialBack K.1 hy1 K.2.2.2.1 (mvT K.2.2.1 w1) (mvT K.2.2.1 w2) (mvT K.2.2.1 w4) hy (backOf (W := W) (Q := fun v h L => QV P' v h ∧ Fr Z.heap.size L) (Go.met hpl hent G []) K.2.2.1 w4 w3 hf hl) (g := mkF m pc Ls st) rfl (hsz.trans K.2.2.2.2.1.symm) (Steps.refl _) (a := a) (argsL := argsL) (rest := rest) hlen hst (by show 2 * 0 + _ ≤ _; rw [Nat.mul_zero, Nat.zero_add]; exact hW) (hb K.2.1 hd) (fun _ _ => ⟨rfl, hT, Nat.le_trans (Nat.add_le_add_right h1 _) hk, Nat.le_trans (Nat.add_le_add_right h2 _) hN⟩)
  dsimp only [Pt.U, Pt.locs, Pt.cells, Pt.slots] at X' e1 e2 e3 s' hQ
  subst e1 e2 e3
  obtain ⟨s2, v2, T2, L2, k2, n2, ok2, X2, b1, b2, N2, q2, hv, stp⟩ := g _ hQ p e s m args below meth c K T' _ _ _ X' (Nat.add_le_add_right h1 _) (Nat.add_le_add_right h2 _) (Fr.app N N') rfl
  exact ⟨s2, v2, T2, L2, k2, n2, ok2, X2, b1, b2, N2, q2, hv, fun fs hl => s'.trans (stp fs hl)⟩
theorem Go.callV {a : Addr} {C : String} (argsL : List Value) (rest : List Value) (q : Nat) (hd : decode code pc = .ok (.invokevirtual i, 3)) (w1 : (Cond.methodLink y.cls i y').before a0 Z = true) (w1' : (Cond.declares y').before a0 Z = true) (w1s : (Cond.selects C y' y').before a0 Z = true) (w2 : (Cond.instanceMethod y').before a0 Z = true) (w3 : (Cond.initialized y'.cls).before a0 Z = true) (w4 : (Cond.code y' code' ml' ret').before a0 Z = true) (E : Exa Z h a C)
    (hpl : plainFor y' = true) (hy : y'.cls ≠ "java/lang/invoke/MethodHandle" ∧ y'.cls ≠ "java/lang/invoke/VarHandle") (hlen : ∀ sig, parseMethodDescriptor y'.desc = some sig → argsL.length = sig.parameters.length) (hst : st = argsL.reverse ++ .ref a :: rest) (hent : ∀ m, entryFrame m (.ref a :: argsL).toArray ml' = mkF m 0 Ls' [])
    (G : Go l Z y' code' ml' ret' R' Q' 0 0 h 0 Ls' []) (W : Nat) (hsz : Ls.size = ml) (hW : (rest.map fun v => v.category).sum ≤ W) (hf : R'.frames + 1 ≤ R.frames) (hl : W + (ml' + 11) + R'.locals ≤ R.locals) (hk : k + R'.cells ≤ R.cells) (hN : n + R'.slots ≤ R.slots) (hq : pc + 3 = q)
    (g : ∀ v h', Q' v h' → GoB wf l Z y code ml ret R Q (k + R'.cells) (n + R'.slots) h' q Ls (v.toList ++ rest)) : GoB wf l Z y code ml ret R Q k n h pc Ls st := by
  subst hq
  intro p e s m args below meth c K T L k' n' X h1 h2 N hT
  obtain ⟨cq, kq, qa, qb, qc⟩ := isOf K.2.2.1 hT E
  obtain ⟨v, vm₁, ⟨T', L', k'', n''⟩, -, X', ⟨Lc, ⟨hQ, N'⟩, e1, e2, e3⟩, s'⟩ := X.virtualBack K.1 K.2.2.2.1 (mvT K.2.2.1 w1) (mvT K.2.2.1 w1') (notFace_of_selects (args := #[]) (mvT K.2.2.1 w1s)) (mvT K.2.2.1 w1s) (mvT K.2.2.1 w2) hy (backOf (W := W) (Q := fun v h L => Q' v h ∧ Fr Z.heap.size L) (Go.met hpl hent G []) K.2.2.1 w4 w3 hf hl) qa qc (g := mkF m pc Ls st) rfl (hsz.trans K.2.2.2.2.1.symm) (Steps.refl _) (argsL := argsL) (rest := rest) hlen hst (by show 2 * 0 + _ ≤ _; rw [Nat.mul_zero, Nat.zero_add]; exact hW) (hb K.2.1 hd) (fun _ _ => ⟨rfl, hT, Nat.le_trans (Nat.add_le_add_right h1 _) hk, Nat.le_trans (Nat.add_le_add_right h2 _) hN⟩)
  dsimp only [Pt.U, Pt.locs, Pt.cells, Pt.slots] at X' e1 e2 e3 s' hQ
  subst e1 e2 e3
  obtain ⟨s2, v2, T2, L2, k2, n2, ok2, X2, b1, b2, N2, q2, hv, stp⟩ := g v _ hQ p e s m args below meth c K T' _ _ _ X' (Nat.add_le_add_right h1 _) (Nat.add_le_add_right h2 _) (Fr.app N N') rfl
  exact ⟨s2, v2, T2, L2, k2, n2, ok2, X2, b1, b2, N2, q2, hv, fun fs hl => s'.trans (stp fs hl)⟩
theorem Go.callU {a : Addr} {C owner : String} {yr : MethodName} (argsL : List Value) (rest : List Value) (q : Nat) (hd : decode code pc = .ok (.invokevirtual i, 3)) (w1 : (Cond.methodLink y.cls i yr).before a0 Z = true) (w1m : (Cond.sameMethod yr.cls owner yr.name yr.desc).before a0 Z = true) (w1' : (Cond.declares ⟨owner, yr.name, yr.desc⟩).before a0 Z = true) (w1s : (Cond.selects C yr y').before a0 Z = true) (w2 : (Cond.instanceMethod y').before a0 Z = true) (w3 : (Cond.initialized y'.cls).before a0 Z = true) (w4 : (Cond.code y' code' ml' ret').before a0 Z = true) (E : Exa Z h a C)
    (hpl : plainFor y' = true) (hy : owner ≠ "java/lang/invoke/MethodHandle" ∧ owner ≠ "java/lang/invoke/VarHandle") (hlen : ∀ sig, parseMethodDescriptor yr.desc = some sig → argsL.length = sig.parameters.length) (hst : st = argsL.reverse ++ .ref a :: rest) (hent : ∀ m, entryFrame m (.ref a :: argsL).toArray ml' = mkF m 0 Ls' [])
    (G : Go l Z y' code' ml' ret' R' Q' 0 0 h 0 Ls' []) (W : Nat) (hsz : Ls.size = ml) (hW : (rest.map fun v => v.category).sum ≤ W) (hf : R'.frames + 1 ≤ R.frames) (hl : W + (ml' + 11) + R'.locals ≤ R.locals) (hk : k + R'.cells ≤ R.cells) (hN : n + R'.slots ≤ R.slots) (hq : pc + 3 = q)
    (g : ∀ v h', Q' v h' → GoB wf l Z y code ml ret R Q (k + R'.cells) (n + R'.slots) h' q Ls (v.toList ++ rest)) : GoB wf l Z y code ml ret R Q k n h pc Ls st := by
  subst hq
  intro p e s m args below meth c K T L k' n' X h1 h2 N hT
  obtain ⟨cq, kq, qa, qb, qc⟩ := isOf K.2.2.1 hT E
  obtain ⟨v, vm₁, ⟨T', L', k'', n''⟩, -, X', ⟨Lc, ⟨hQ, N'⟩, e1, e2, e3⟩, s'⟩ := X.virtualBackUp K.1 K.2.2.2.1 (mvT K.2.2.1 w1) (mvT K.2.2.1 w1m) (mvT K.2.2.1 w1') hy (mvT K.2.2.1 w1s) (mvT K.2.2.1 w2) (backOf (W := W) (Q := fun v h L => Q' v h ∧ Fr Z.heap.size L) (Go.met hpl hent G []) K.2.2.1 w4 w3 hf hl) qa qc (g := mkF m pc Ls st) rfl (hsz.trans K.2.2.2.2.1.symm) (Steps.refl _) (argsL := argsL) (rest := rest) hlen hst (by show 2 * 0 + _ ≤ _; rw [Nat.mul_zero, Nat.zero_add]; exact hW) (hb K.2.1 hd) (fun _ _ => ⟨rfl, hT, Nat.le_trans (Nat.add_le_add_right h1 _) hk, Nat.le_trans (Nat.add_le_add_right h2 _) hN⟩)
  dsimp only [Pt.U, Pt.locs, Pt.cells, Pt.slots] at X' e1 e2 e3 s' hQ
  subst e1 e2 e3
  obtain ⟨s2, v2, T2, L2, k2, n2, ok2, X2, b1, b2, N2, q2, hv, stp⟩ := g v _ hQ p e s m args below meth c K T' _ _ _ X' (Nat.add_le_add_right h1 _) (Nat.add_le_add_right h2 _) (Fr.app N N') rfl
  exact ⟨s2, v2, T2, L2, k2, n2, ok2, X2, b1, b2, N2, q2, hv, fun fs hl => s'.trans (stp fs hl)⟩
theorem own_ni {C : String} {z z' : MethodName} (ws : (Cond.selects C z z').before a0 Z = true) : ∃ (c : ClassId) (kk : Class), Z.vm.findClass z'.cls = some c ∧ Z.vm.classes[c]? = some kk ∧ kk.isInterface = false := by
  obtain ⟨c2, r2, m2, -, -, q3, -, kP, hkP, hkPi⟩ := Cond.selects_spec ws
  exact ⟨_, kP, findClass_of_methodNamed q3, hkP, hkPi⟩
theorem own_same {C : String} {z z' y' : MethodName} (ws : (Cond.selects C z z').before a0 Z = true) (hz : z'.cls = y'.cls) (wi : (Cond.instanceMethod y').before a0 Z = true) (hy : y'.cls ≠ "java/lang/invoke/MethodHandle" ∧ y'.cls ≠ "java/lang/invoke/VarHandle") : (Cond.sameMethod y'.cls y'.cls y'.name y'.desc).before a0 Z = true := by
  obtain ⟨c, kk, h1, h2, h3⟩ := own_ni ws
  rw [hz] at h1
  obtain ⟨mk, methM, hnamed, -, -, -⟩ := Cond.instanceMethod_spec wi
  have hfound := State.methodFound?_of_named hnamed hy
  simp only [Cond.before, Cond.holds, Cond.value, h1, hfound, hnamed, h2]
  simp; exact h3
theorem own_selp {C : String} {z z' y' : MethodName} (ws : (Cond.selects C z z').before a0 Z = true) (hz : z'.cls = y'.cls) (wi : (Cond.instanceMethod y').before a0 Z = true) (wp : (Cond.privateMethod y').before a0 Z = true) (hy : y'.cls ≠ "java/lang/invoke/MethodHandle" ∧ y'.cls ≠ "java/lang/invoke/VarHandle") : (Cond.selects y'.cls y' y').before a0 Z = true := by
  obtain ⟨c, kk, h1, h2, h3⟩ := own_ni ws
  rw [hz] at h1
  exact selects_self_of_private h1 h2 h3 (Cond.privateMethod_at wp) wi hy
theorem Go.callP {a : Addr} {C : String} (argsL : List Value) (rest : List Value) (q : Nat) (hd : decode code pc = .ok (.invokespecial i, 3)) (hn : y'.name ≠ "<init>") (w1 : (Cond.methodLink y.cls i y').before a0 Z = true) (w1m : (Cond.sameMethod y'.cls y'.cls y'.name y'.desc).before a0 Z = true) (w1s : (Cond.superclass y.cls y'.cls).before a0 Z = true) (w2 : (Cond.instanceMethod y').before a0 Z = true) (w3 : (Cond.initialized y'.cls).before a0 Z = true) (w4 : (Cond.code y' code' ml' ret').before a0 Z = true) (E : Exa Z h a C)
    (hpl : plainFor y' = true) (hy : y'.cls ≠ "java/lang/invoke/MethodHandle" ∧ y'.cls ≠ "java/lang/invoke/VarHandle") (hlen : ∀ sig, parseMethodDescriptor y'.desc = some sig → argsL.length = sig.parameters.length) (hst : st = argsL.reverse ++ .ref a :: rest) (hent : ∀ m, entryFrame m (.ref a :: argsL).toArray ml' = mkF m 0 Ls' [])
    (G : Go l Z y' code' ml' ret' R' Q' 0 0 h 0 Ls' []) (W : Nat) (hsz : Ls.size = ml) (hW : (rest.map fun v => v.category).sum ≤ W) (hf : R'.frames + 1 ≤ R.frames) (hl : W + (ml' + 11) + R'.locals ≤ R.locals) (hk : k + R'.cells ≤ R.cells) (hN : n + R'.slots ≤ R.slots) (hq : pc + 3 = q)
    (g : ∀ v h', Q' v h' → GoB wf l Z y code ml ret R Q (k + R'.cells) (n + R'.slots) h' q Ls (v.toList ++ rest)) : GoB wf l Z y code ml ret R Q k n h pc Ls st := by
  subst hq
  intro p e s m args below meth c K T L k' n' X h1 h2 N hT
  obtain ⟨v, vm₁, ⟨T', L', k'', n''⟩, -, X', ⟨Lc, ⟨hQ, N'⟩, e1, e2, e3⟩, s'⟩ := superBack X K.1 K.2.2.1 K.2.2.2.1 w1 w1m w2 w1s hn (backOf (W := W) (Q := fun v h L => Q' v h ∧ Fr Z.heap.size L) (Go.met hpl hent G []) K.2.2.1 w4 w3 hf hl) hT (Ins.self E) (g := mkF m pc Ls st) rfl (hsz.trans K.2.2.2.2.1.symm) w4 (argsL := argsL) (rest := rest) hlen hst (by show 2 * 0 + _ ≤ _; rw [Nat.mul_zero, Nat.zero_add]; exact hW) (hb K.2.1 hd) (fun _ _ => ⟨rfl, hT, Nat.le_trans (Nat.add_le_add_right h1 _) hk, Nat.le_trans (Nat.add_le_add_right h2 _) hN⟩)
  dsimp only [Pt.U, Pt.locs, Pt.cells, Pt.slots] at X' e1 e2 e3 s' hQ
  subst e1 e2 e3
  obtain ⟨s2, v2, T2, L2, k2, n2, ok2, X2, b1, b2, N2, q2, hv, stp⟩ := g v _ hQ p e s m args below meth c K T' _ _ _ X' (Nat.add_le_add_right h1 _) (Nat.add_le_add_right h2 _) (Fr.app N N') rfl
  exact ⟨s2, v2, T2, L2, k2, n2, ok2, X2, b1, b2, N2, q2, hv, fun fs hl => s'.trans (stp fs hl)⟩
theorem Go.callQ {a : Addr} {C : String} (argsL : List Value) (rest : List Value) (q : Nat) (hd : decode code pc = .ok (.invokevirtual i, 3)) (w1 : (Cond.methodLink y.cls i y').before a0 Z = true) (w1p : (Cond.privateMethod y').before a0 Z = true) (w1s : (Cond.selects y'.cls y' y').before a0 Z = true) (w2 : (Cond.instanceMethod y').before a0 Z = true) (w3 : (Cond.initialized y'.cls).before a0 Z = true) (w4 : (Cond.code y' code' ml' ret').before a0 Z = true) (E : Exa Z h a C)
    (hpl : plainFor y' = true) (hy : y'.cls ≠ "java/lang/invoke/MethodHandle" ∧ y'.cls ≠ "java/lang/invoke/VarHandle") (hlen : ∀ sig, parseMethodDescriptor y'.desc = some sig → argsL.length = sig.parameters.length) (hst : st = argsL.reverse ++ .ref a :: rest) (hent : ∀ m, entryFrame m (.ref a :: argsL).toArray ml' = mkF m 0 Ls' [])
    (G : Go l Z y' code' ml' ret' R' Q' 0 0 h 0 Ls' []) (W : Nat) (hsz : Ls.size = ml) (hW : (rest.map fun v => v.category).sum ≤ W) (hf : R'.frames + 1 ≤ R.frames) (hl : W + (ml' + 11) + R'.locals ≤ R.locals) (hk : k + R'.cells ≤ R.cells) (hN : n + R'.slots ≤ R.slots) (hq : pc + 3 = q)
    (g : ∀ v h', Q' v h' → GoB wf l Z y code ml ret R Q (k + R'.cells) (n + R'.slots) h' q Ls (v.toList ++ rest)) : GoB wf l Z y code ml ret R Q k n h pc Ls st := by
  subst hq
  intro p e s m args below meth c K T L k' n' X h1 h2 N hT
  obtain ⟨cell, qa, qb⟩ := E.cell
  obtain ⟨v, vm₁, ⟨T', L', k'', n''⟩, -, X', ⟨Lc, ⟨hQ, N'⟩, e1, e2, e3⟩, s'⟩ := X.privateBack K.1 K.2.2.2.1 (mvT K.2.2.1 w1) (mvT K.2.2.1 w2) (mvT K.2.2.1 w1s) (Cond.privateMethod_at (args := #[]) (mvP K.2.2.1 w1p)) (mvT K.2.2.1 w4) hy (backOf (W := W) (Q := fun v h L => Q' v h ∧ Fr Z.heap.size L) (Go.met hpl hent G []) K.2.2.1 w4 w3 hf hl) (g := mkF m pc Ls st) rfl (hsz.trans K.2.2.2.2.1.symm) (Steps.refl _) (a := a) (cell := cell) (by rw [hT]; exact qa) qb (argsL := argsL) (rest := rest) hlen hst (by show 2 * 0 + _ ≤ _; rw [Nat.mul_zero, Nat.zero_add]; exact hW) (hb K.2.1 hd) (fun _ _ => ⟨rfl, hT, Nat.le_trans (Nat.add_le_add_right h1 _) hk, Nat.le_trans (Nat.add_le_add_right h2 _) hN⟩)
  dsimp only [Pt.U, Pt.locs, Pt.cells, Pt.slots] at X' e1 e2 e3 s' hQ
  subst e1 e2 e3
  obtain ⟨s2, v2, T2, L2, k2, n2, ok2, X2, b1, b2, N2, q2, hv, stp⟩ := g v _ hQ p e s m args below meth c K T' _ _ _ X' (Nat.add_le_add_right h1 _) (Nat.add_le_add_right h2 _) (Fr.app N N') rfl
  exact ⟨s2, v2, T2, L2, k2, n2, ok2, X2, b1, b2, N2, q2, hv, fun fs hl => s'.trans (stp fs hl)⟩
theorem own_nf {s : State} {args : Array Value} {C : String} {z z' yr : MethodName} (ws : (Cond.selects C z z').before args s = true) (hz : z'.cls = yr.cls) : NotFace s yr := fun r0 hn => by
  obtain ⟨c2, r2, m2, -, -, q3, -, kP, hkP, hkPi⟩ := Cond.selects_spec ws
  have e1 := findClass_of_methodNamed q3
  have e2 := findClass_of_methodNamed hn
  rw [hz] at e1
  have e3 := Option.some.inj (e1.symm.trans e2)
  rw [e3] at hkP
  exact ⟨kP, hkP, hkPi⟩
theorem Go.callO {a : Addr} {C : String} {yr z z' : MethodName} {C2 : String} (argsL : List Value) (rest : List Value) (q : Nat) (hd : decode code pc = .ok (.invokevirtual i, 3)) (w1 : (Cond.methodLink y.cls i yr).before a0 Z = true) (w1' : (Cond.declares yr).before a0 Z = true) (w1s : (Cond.selects C yr y').before a0 Z = true) (wnf : (Cond.selects C2 z z').before a0 Z = true) (hz : z'.cls = yr.cls) (w2 : (Cond.instanceMethod y').before a0 Z = true) (w3 : (Cond.initialized y'.cls).before a0 Z = true) (w4 : (Cond.code y' code' ml' ret').before a0 Z = true) (E : Exa Z h a C)
    (hpl : plainFor y' = true) (hy : yr.cls ≠ "java/lang/invoke/MethodHandle" ∧ yr.cls ≠ "java/lang/invoke/VarHandle") (hlen : ∀ sig, parseMethodDescriptor yr.desc = some sig → argsL.length = sig.parameters.length) (hst : st = argsL.reverse ++ .ref a :: rest) (hent : ∀ m, entryFrame m (.ref a :: argsL).toArray ml' = mkF m 0 Ls' [])
    (G : Go l Z y' code' ml' ret' R' Q' 0 0 h 0 Ls' []) (W : Nat) (hsz : Ls.size = ml) (hW : (rest.map fun v => v.category).sum ≤ W) (hf : R'.frames + 1 ≤ R.frames) (hl : W + (ml' + 11) + R'.locals ≤ R.locals) (hk : k + R'.cells ≤ R.cells) (hN : n + R'.slots ≤ R.slots) (hq : pc + 3 = q)
    (g : ∀ v h', Q' v h' → GoB wf l Z y code ml ret R Q (k + R'.cells) (n + R'.slots) h' q Ls (v.toList ++ rest)) : GoB wf l Z y code ml ret R Q k n h pc Ls st := by
  subst hq
  intro p e s m args below meth c K T L k' n' X h1 h2 N hT
  obtain ⟨cq, kq, qa, qb, qc⟩ := isOf K.2.2.1 hT E
  obtain ⟨v, vm₁, ⟨T', L', k'', n''⟩, -, X', ⟨Lc, ⟨hQ, N'⟩, e1, e2, e3⟩, s'⟩ := X.virtualBack K.1 K.2.2.2.1 (mvT K.2.2.1 w1) (mvT K.2.2.1 w1') (own_nf (args := #[]) (mvT K.2.2.1 wnf) hz) (mvT K.2.2.1 w1s) (mvT K.2.2.1 w2) hy (backOf (W := W) (Q := fun v h L => Q' v h ∧ Fr Z.heap.size L) (Go.met hpl hent G []) K.2.2.1 w4 w3 hf hl) qa qc (g := mkF m pc Ls st) rfl (hsz.trans K.2.2.2.2.1.symm) (Steps.refl _) (argsL := argsL) (rest := rest) hlen hst (by show 2 * 0 + _ ≤ _; rw [Nat.mul_zero, Nat.zero_add]; exact hW) (hb K.2.1 hd) (fun _ _ => ⟨rfl, hT, Nat.le_trans (Nat.add_le_add_right h1 _) hk, Nat.le_trans (Nat.add_le_add_right h2 _) hN⟩)
  dsimp only [Pt.U, Pt.locs, Pt.cells, Pt.slots] at X' e1 e2 e3 s' hQ
  subst e1 e2 e3
  obtain ⟨s2, v2, T2, L2, k2, n2, ok2, X2, b1, b2, N2, q2, hv, stp⟩ := g v _ hQ p e s m args below meth c K T' _ _ _ X' (Nat.add_le_add_right h1 _) (Nat.add_le_add_right h2 _) (Fr.app N N') rfl
  exact ⟨s2, v2, T2, L2, k2, n2, ok2, X2, b1, b2, N2, q2, hv, fun fs hl => s'.trans (stp fs hl)⟩
theorem Go.callCp {a : Addr} (argsL : List Value) (rest : List Value) (q : Nat) (hd : decode code pc = .ok (.invokespecial i, 3)) (hy1 : y'.name = "<init>") (w1 : (Cond.methodLink y.cls i y').before a0 Z = true) (w2 : (Cond.instanceMethod y').before a0 Z = true) (w3 : (Cond.initialized y'.cls).before a0 Z = true) (w4 : (Cond.code y' code' ml' none).before a0 Z = true)
    (hpl : plainFor y' = true) (hy : y'.cls ≠ "java/lang/invoke/MethodHandle" ∧ y'.cls ≠ "java/lang/invoke/VarHandle") (hlen : ∀ sig, parseMethodDescriptor y'.desc = some sig → argsL.length = sig.parameters.length) (hst : st = argsL.reverse ++ .ref a :: rest) (hent : ∀ m, entryFrame m (.ref a :: argsL).toArray ml' = mkF m 0 Ls' [])
    (G : Go l Z y' code' ml' none R' (QV fun h' => h' = h) 0 0 h 0 Ls' []) (W : Nat) (hsz : Ls.size = ml) (hW : (rest.map fun v => v.category).sum ≤ W) (hf : R'.frames + 1 ≤ R.frames) (hl : W + (ml' + 11) + R'.locals ≤ R.locals) (hk : k + R'.cells ≤ R.cells) (hN : n + R'.slots ≤ R.slots) (hq : pc + 3 = q)
    (g : GoB wf l Z y code ml ret R Q (k + R'.cells) (n + R'.slots) h q Ls rest) : GoB wf l Z y code ml ret R Q k n h pc Ls st :=
  Go.callC argsL rest q hd hy1 w1 w2 w3 w4 hpl hy hlen hst hent _ G W hsz hW hf hl hk hN hq (fun h' e => by subst e; exact g)
end Calls


section
variable {y' : MethodName} {code' : ByteArray} {ml' : Nat} {ret' : Option FieldType} {R' : Room} {Ls' : Array Slot} {i : Nat}
theorem Go.callSIp (argsL : List Value) (rest : List Value) (q : Nat) (hd : decode code pc = .ok (.invokestatic i, 3)) (w1 : (Cond.methodLink y.cls i y').before a0 Z = true) (w2 : (Cond.static y').before a0 Z = true) (w3 : (Cond.initialized y'.cls).before a0 Z = true) (w4 : (Cond.code y' code' ml' ret').before a0 Z = true)
    (hpl : plainFor y' = true) (hy : y'.cls ≠ "java/lang/invoke/MethodHandle" ∧ y'.cls ≠ "java/lang/invoke/VarHandle") (hlen : ∀ sig, parseMethodDescriptor y'.desc = some sig → argsL.length = sig.parameters.length) (hst : st = argsL.reverse ++ rest) (hent : ∀ m, entryFrame m argsL.toArray ml' = mkF m 0 Ls' [])
    (F : Int32) (G : Go l Z y' code' ml' ret' R' (QI fun z h' => z = F ∧ h' = h) 0 0 h 0 Ls' []) (W : Nat) (hsz : Ls.size = ml) (hW : (rest.map fun v => v.category).sum ≤ W) (hf : R'.frames + 1 ≤ R.frames) (hl : W + (ml' + 11) + R'.locals ≤ R.locals) (hk : k + R'.cells ≤ R.cells) (hN : n + R'.slots ≤ R.slots) (hq : pc + 3 = q)
    (g : GoB wf l Z y code ml ret R Q (k + R'.cells) (n + R'.slots) h q Ls (.int F :: rest)) : GoB wf l Z y code ml ret R Q k n h pc Ls st := by
  exact Go.callS argsL rest q hd w1 w2 w3 w4 hpl hy hlen hst hent G W hsz hW hf hl hk hN hq (fun v h' hq' => by obtain ⟨z, e, hp, hh⟩ := hq'; subst e; subst hh; rw [hp]; exact g)
end




section
variable {y' : MethodName} {code' : ByteArray} {ml' : Nat} {ret' : Option FieldType} {R' : Room} {Ls' : Array Slot} {i : Nat}
theorem Go.callSR (argsL : List Value) (rest : List Value) (q : Nat) (hd : decode code pc = .ok (.invokestatic i, 3)) (w1 : (Cond.methodLink y.cls i y').before a0 Z = true) (w2 : (Cond.static y').before a0 Z = true) (w3 : (Cond.initialized y'.cls).before a0 Z = true) (w4 : (Cond.code y' code' ml' ret').before a0 Z = true)
    (hpl : plainFor y' = true) (hy : y'.cls ≠ "java/lang/invoke/MethodHandle" ∧ y'.cls ≠ "java/lang/invoke/VarHandle") (hlen : ∀ sig, parseMethodDescriptor y'.desc = some sig → argsL.length = sig.parameters.length) (hst : st = argsL.reverse ++ rest) (hent : ∀ m, entryFrame m argsL.toArray ml' = mkF m 0 Ls' [])
    (P' : Value → Heap → Prop) (G : Go l Z y' code' ml' ret' R' (QR P') 0 0 h 0 Ls' []) (W : Nat) (hsz : Ls.size = ml) (hW : (rest.map fun v => v.category).sum ≤ W) (hf : R'.frames + 1 ≤ R.frames) (hl : W + (ml' + 11) + R'.locals ≤ R.locals) (hk : k + R'.cells ≤ R.cells) (hN : n + R'.slots ≤ R.slots) (hq : pc + 3 = q)
    (g : ∀ (z : Value) h', P' z h' → GoB wf l Z y code ml ret R Q (k + R'.cells) (n + R'.slots) h' q Ls ( z :: rest)) : GoB wf l Z y code ml ret R Q k n h pc Ls st := by
  exact Go.callS argsL rest q hd w1 w2 w3 w4 hpl hy hlen hst hent G W hsz hW hf hl hk hN hq (fun v h' hq' => by obtain ⟨z, e, hp⟩ := hq'; subst e; exact g z h' hp)
end





section
variable {y' : MethodName} {code' : ByteArray} {ml' : Nat} {ret' : Option FieldType} {R' : Room} {Ls' : Array Slot} {i : Nat}
theorem Go.callVIp {a : Addr} {C : String} (argsL : List Value) (rest : List Value) (q : Nat) (hd : decode code pc = .ok (.invokevirtual i, 3)) (w1 : (Cond.methodLink y.cls i y').before a0 Z = true) (w1' : (Cond.declares y').before a0 Z = true) (w1s : (Cond.selects C y' y').before a0 Z = true) (w2 : (Cond.instanceMethod y').before a0 Z = true) (w3 : (Cond.initialized y'.cls).before a0 Z = true) (w4 : (Cond.code y' code' ml' ret').before a0 Z = true) (E : Exa Z h a C)
    (hpl : plainFor y' = true) (hy : y'.cls ≠ "java/lang/invoke/MethodHandle" ∧ y'.cls ≠ "java/lang/invoke/VarHandle") (hlen : ∀ sig, parseMethodDescriptor y'.desc = some sig → argsL.length = sig.parameters.length) (hst : st = argsL.reverse ++ .ref a :: rest) (hent : ∀ m, entryFrame m (.ref a :: argsL).toArray ml' = mkF m 0 Ls' [])
    (F : Int32) (G : Go l Z y' code' ml' ret' R' (QI fun z h' => z = F ∧ h' = h) 0 0 h 0 Ls' []) (W : Nat) (hsz : Ls.size = ml) (hW : (rest.map fun v => v.category).sum ≤ W) (hf : R'.frames + 1 ≤ R.frames) (hl : W + (ml' + 11) + R'.locals ≤ R.locals) (hk : k + R'.cells ≤ R.cells) (hN : n + R'.slots ≤ R.slots) (hq : pc + 3 = q)
    (g : GoB wf l Z y code ml ret R Q (k + R'.cells) (n + R'.slots) h q Ls (.int F :: rest)) : GoB wf l Z y code ml ret R Q k n h pc Ls st := by
  exact Go.callV argsL rest q hd w1 w1' w1s w2 w3 w4 E hpl hy hlen hst hent G W hsz hW hf hl hk hN hq (fun v h' hq' => by obtain ⟨z, e, hp, hh⟩ := hq'; subst e; subst hh; rw [hp]; exact g)
end


section
variable {y' : MethodName} {code' : ByteArray} {ml' : Nat} {ret' : Option FieldType} {R' : Room} {Ls' : Array Slot} {i : Nat}
theorem Go.callVJp {a : Addr} {C : String} (argsL : List Value) (rest : List Value) (q : Nat) (hd : decode code pc = .ok (.invokevirtual i, 3)) (w1 : (Cond.methodLink y.cls i y').before a0 Z = true) (w1' : (Cond.declares y').before a0 Z = true) (w1s : (Cond.selects C y' y').before a0 Z = true) (w2 : (Cond.instanceMethod y').before a0 Z = true) (w3 : (Cond.initialized y'.cls).before a0 Z = true) (w4 : (Cond.code y' code' ml' ret').before a0 Z = true) (E : Exa Z h a C)
    (hpl : plainFor y' = true) (hy : y'.cls ≠ "java/lang/invoke/MethodHandle" ∧ y'.cls ≠ "java/lang/invoke/VarHandle") (hlen : ∀ sig, parseMethodDescriptor y'.desc = some sig → argsL.length = sig.parameters.length) (hst : st = argsL.reverse ++ .ref a :: rest) (hent : ∀ m, entryFrame m (.ref a :: argsL).toArray ml' = mkF m 0 Ls' [])
    (F : Int64) (G : Go l Z y' code' ml' ret' R' (QJ fun z h' => z = F ∧ h' = h) 0 0 h 0 Ls' []) (W : Nat) (hsz : Ls.size = ml) (hW : (rest.map fun v => v.category).sum ≤ W) (hf : R'.frames + 1 ≤ R.frames) (hl : W + (ml' + 11) + R'.locals ≤ R.locals) (hk : k + R'.cells ≤ R.cells) (hN : n + R'.slots ≤ R.slots) (hq : pc + 3 = q)
    (g : GoB wf l Z y code ml ret R Q (k + R'.cells) (n + R'.slots) h q Ls (.long F :: rest)) : GoB wf l Z y code ml ret R Q k n h pc Ls st := by
  exact Go.callV argsL rest q hd w1 w1' w1s w2 w3 w4 E hpl hy hlen hst hent G W hsz hW hf hl hk hN hq (fun v h' hq' => by obtain ⟨z, e, hp, hh⟩ := hq'; subst e; subst hh; rw [hp]; exact g)
end







section
variable {y' : MethodName} {code' : ByteArray} {ml' : Nat} {ret' : Option FieldType} {R' : Room} {Ls' : Array Slot} {i : Nat}
theorem Go.callUIp {a : Addr} {C owner : String} {yr : MethodName} (argsL : List Value) (rest : List Value) (q : Nat) (hd : decode code pc = .ok (.invokevirtual i, 3)) (w1 : (Cond.methodLink y.cls i yr).before a0 Z = true) (w1m : (Cond.sameMethod yr.cls owner yr.name yr.desc).before a0 Z = true) (w1' : (Cond.declares ⟨owner, yr.name, yr.desc⟩).before a0 Z = true) (w1s : (Cond.selects C yr y').before a0 Z = true) (w2 : (Cond.instanceMethod y').before a0 Z = true) (w3 : (Cond.initialized y'.cls).before a0 Z = true) (w4 : (Cond.code y' code' ml' ret').before a0 Z = true) (E : Exa Z h a C)
    (hpl : plainFor y' = true) (hy : owner ≠ "java/lang/invoke/MethodHandle" ∧ owner ≠ "java/lang/invoke/VarHandle") (hlen : ∀ sig, parseMethodDescriptor yr.desc = some sig → argsL.length = sig.parameters.length) (hst : st = argsL.reverse ++ .ref a :: rest) (hent : ∀ m, entryFrame m (.ref a :: argsL).toArray ml' = mkF m 0 Ls' [])
    (F : Int32) (G : Go l Z y' code' ml' ret' R' (QI fun z h' => z = F ∧ h' = h) 0 0 h 0 Ls' []) (W : Nat) (hsz : Ls.size = ml) (hW : (rest.map fun v => v.category).sum ≤ W) (hf : R'.frames + 1 ≤ R.frames) (hl : W + (ml' + 11) + R'.locals ≤ R.locals) (hk : k + R'.cells ≤ R.cells) (hN : n + R'.slots ≤ R.slots) (hq : pc + 3 = q)
    (g : GoB wf l Z y code ml ret R Q (k + R'.cells) (n + R'.slots) h q Ls (.int F :: rest)) : GoB wf l Z y code ml ret R Q k n h pc Ls st := by
  exact Go.callU argsL rest q hd w1 w1m w1' w1s w2 w3 w4 E hpl hy hlen hst hent G W hsz hW hf hl hk hN hq (fun v h' hq' => by obtain ⟨z, e, hp, hh⟩ := hq'; subst e; subst hh; rw [hp]; exact g)
end













































theorem own_eqf {args : Array Value} {s : State} {t : Term} {O n d : String} {v : Int32} {x : Addr} (ht : t.eval args s none [] s = some (.ref x)) (h : (Jvm.Cond.eq (Term.field t O n d) (Term.int v)).value args s none s [] = some true) : Fld s s.heap x O n d (.int v) := by
  apply Fld.start
  have e := fld_at (C := O) (n := n) (dd := d) ht
  have i : (Term.int v).eval args s none [] s = some (.int v) := Term.int_eval v
  simp only [Jvm.Cond.value, e, i] at h
  cases q : s.fieldOf? x O n d with
  | none => rw [q] at h; simp at h
  | some w =>
    rw [q] at h
    cases w <;> simp at h
    rw [h]
/-- an array of ints, shorts, chars, bytes or booleans, with its elements -/
def Ari (Z : State) (h : Heap) (a : Addr) (ty : FieldType) (xs : List Int32) : Prop := ∃ c : Cell, Arr Z h a c ty ∧ c.slots.toList = xs.map Value.int ∧ xs.length < 2147483648
def Arj (Z : State) (h : Heap) (a : Addr) (xs : List Int64) : Prop := ∃ c : Cell, Arr Z h a c .long ∧ c.slots.toList = xs.map Value.long ∧ xs.length < 2147483648
theorem Ari.lt {a : Addr} {ty : FieldType} {xs : List Int32} (F : Ari Z h a ty xs) : a < h.size := by obtain ⟨c, A, -⟩ := F; exact A.lt
theorem Arj.lt {a : Addr} {xs : List Int64} (F : Arj Z h a xs) : a < h.size := by obtain ⟨c, A, -⟩ := F; exact A.lt
theorem Ari.ext {h' : Heap} {a : Addr} {ty : FieldType} {xs : List Int32} (F : Ari Z h a ty xs) (E : Ext h h') : Ari Z h' a ty xs := by obtain ⟨c, A, r⟩ := F; exact ⟨c, A.ext E, r⟩
theorem Arj.ext {h' : Heap} {a : Addr} {xs : List Int64} (F : Arj Z h a xs) (E : Ext h h') : Arj Z h' a xs := by obtain ⟨c, A, r⟩ := F; exact ⟨c, A.ext E, r⟩
theorem Ari.other {h' : Heap} {a b : Addr} {sl : Nat} {v : Value} {ty : FieldType} {xs : List Int32} (F : Ari Z h b ty xs) (W : Wr h h' a sl v) (q : b ≠ a) : Ari Z h' b ty xs := by obtain ⟨c, A, r⟩ := F; exact ⟨c, A.other W q, r⟩
theorem Arj.other {h' : Heap} {a b : Addr} {sl : Nat} {v : Value} {xs : List Int64} (F : Arj Z h b xs) (W : Wr h h' a sl v) (q : b ≠ a) : Arj Z h' b xs := by obtain ⟨c, A, r⟩ := F; exact ⟨c, A.other W q, r⟩
theorem Ari.keep {h' : Heap} {a : Addr} {ws : List Addr} {ty : FieldType} {xs : List Int32} (F : Ari Z h a ty xs) (K : Keep h h' ws) (q : a ∉ ws) : Ari Z h' a ty xs := by obtain ⟨c, A, r⟩ := F; exact ⟨c, ⟨K.2.1 _ _ A.1 q, A.2⟩, r⟩
theorem Arj.keep {h' : Heap} {a : Addr} {ws : List Addr} {xs : List Int64} (F : Arj Z h a xs) (K : Keep h h' ws) (q : a ∉ ws) : Arj Z h' a xs := by obtain ⟨c, A, r⟩ := F; exact ⟨c, ⟨K.2.1 _ _ A.1 q, A.2⟩, r⟩
theorem own_size {c : Cell} {α : Type} {f : α → Value} {xs : List α} (e : c.slots.toList = xs.map f) : c.slots.size = xs.length := by
  have q := congrArg List.length e
  simpa using q
theorem own_at {c : Cell} {α : Type} {f : α → Value} {xs : List α} (e : c.slots.toList = xs.map f) {i : Nat} {x : α} (hx : xs[i]? = some x) : c.slots[i]? = some (f x) := by
  have q : c.slots.toList[i]? = some (f x) := by rw [e, List.getElem?_map, hx]; rfl
  simpa using q
theorem own_in {c : Cell} {α : Type} {f : α → Value} {xs : List α} (e : c.slots.toList = xs.map f) {i : Nat} {j : Int32} (hj : ¬ j < 0) (hi : j.toNatClampNeg = i) (hx : i < xs.length) : ¬ (j < 0 ∨ c.slots.size ≤ j.toNatClampNeg) := by
  rw [own_size e, hi]; intro q; rcases q with q | q
  · exact hj q
  · exact absurd hx (Nat.not_lt.mpr q)
theorem own_set {c : Cell} {α : Type} {f : α → Value} {xs : List α} (e : c.slots.toList = xs.map f) (i : Nat) (x : α) : (c.setSlot i (f x)).slots.toList = (xs.set i x).map f := by
  show (c.slots.setIfInBounds i (f x)).toList = _
  rw [Array.toList_setIfInBounds, e, List.map_set]
theorem Ari.set {h' : Heap} {a : Addr} {ty : FieldType} {xs xs' : List Int32} {i : Nat} {x : Int32} (F : Ari Z h a ty xs) (W : Wr h h' a i (.int x)) (e : xs.set i x = xs') : Ari Z h' a ty xs' := by
  subst e
  obtain ⟨c, A, r, r2⟩ := F
  exact ⟨_, A.same W, own_set r i x, by rw [List.length_set]; exact r2⟩
theorem Arj.set {h' : Heap} {a : Addr} {xs xs' : List Int64} {i : Nat} {x : Int64} (F : Arj Z h a xs) (W : Wr h h' a i (.long x)) (e : xs.set i x = xs') : Arj Z h' a xs' := by
  subst e
  obtain ⟨c, A, r, r2⟩ := F
  exact ⟨_, A.same W, own_set r i x, by rw [List.length_set]; exact r2⟩

theorem Go.iaload {a : Addr} {j x : Int32} {xs : List Int32} (i : Nat) (q : Nat) (hd : decode code pc = .ok (.iaload, 1)) (A : Ari Z h a .int xs) (hj : ¬ j < 0) (hi : j.toNatClampNeg = i) (hx : xs[i]? = some x) (hq : pc + 1 = q) (g : GoB wf l Z y code ml ret R Q k n h q Ls (.int x :: st)) : GoB wf l Z y code ml ret R Q k n h pc Ls (.int j :: .ref a :: st) := by
  subst hq hi
  obtain ⟨cl, A, r, r2⟩ := A
  have hv := own_at r hx
  have hin := own_in r hj rfl (List.getElem?_eq_some_iff.mp hx).1
  exact g.pure fun p e s m args below meth c K T L k' n' X hT t rr => X.iaload K.1 (cell := cl) (v := .int x) (by rw [hT]; exact A.1) (State.isArrayOf_alike K.2.2.1.alike A.2.1) A.2.2 hin hv (g := mkF m pc Ls (.int j :: .ref a :: st)) rfl rfl (hb K.2.1 hd) t rr
theorem Go.baload {a : Addr} {j x : Int32} {xs : List Int32} (i : Nat) (q : Nat) (hd : decode code pc = .ok (.baload, 1)) (A : Ari Z h a .byte xs) (hj : ¬ j < 0) (hi : j.toNatClampNeg = i) (hx : xs[i]? = some x) (hq : pc + 1 = q) (g : GoB wf l Z y code ml ret R Q k n h q Ls (.int x :: st)) : GoB wf l Z y code ml ret R Q k n h pc Ls (.int j :: .ref a :: st) := by
  subst hq hi
  obtain ⟨cl, A, r, r2⟩ := A
  have hv := own_at r hx
  have hin := own_in r hj rfl (List.getElem?_eq_some_iff.mp hx).1
  exact g.pure fun p e s m args below meth c K T L k' n' X hT t rr => X.baloadBytes K.1 (cell := cl) (v := .int x) (by rw [hT]; exact A.1) (State.isArrayOf_alike K.2.2.1.alike A.2.1) A.2.2 hin hv (g := mkF m pc Ls (.int j :: .ref a :: st)) rfl rfl (hb K.2.1 hd) t rr
theorem Go.zaload {a : Addr} {j x : Int32} {xs : List Int32} (i : Nat) (q : Nat) (hd : decode code pc = .ok (.baload, 1)) (A : Ari Z h a .boolean xs) (hj : ¬ j < 0) (hi : j.toNatClampNeg = i) (hx : xs[i]? = some x) (hq : pc + 1 = q) (g : GoB wf l Z y code ml ret R Q k n h q Ls (.int x :: st)) : GoB wf l Z y code ml ret R Q k n h pc Ls (.int j :: .ref a :: st) := by
  subst hq hi
  obtain ⟨cl, A, r, r2⟩ := A
  have hv := own_at r hx
  have hin := own_in r hj rfl (List.getElem?_eq_some_iff.mp hx).1
  exact g.pure fun p e s m args below meth c K T L k' n' X hT t rr => X.baloadBooleans K.1 (cell := cl) (v := .int x) (by rw [hT]; exact A.1) (State.isArrayOf_alike K.2.2.1.alike A.2.1) A.2.2 hin hv (g := mkF m pc Ls (.int j :: .ref a :: st)) rfl rfl (hb K.2.1 hd) t rr
theorem Go.caload {a : Addr} {j x : Int32} {xs : List Int32} (i : Nat) (q : Nat) (hd : decode code pc = .ok (.caload, 1)) (A : Ari Z h a .char xs) (hj : ¬ j < 0) (hi : j.toNatClampNeg = i) (hx : xs[i]? = some x) (hq : pc + 1 = q) (g : GoB wf l Z y code ml ret R Q k n h q Ls (.int x :: st)) : GoB wf l Z y code ml ret R Q k n h pc Ls (.int j :: .ref a :: st) := by
  subst hq hi
  obtain ⟨cl, A, r, r2⟩ := A
  have hv := own_at r hx
  have hin := own_in r hj rfl (List.getElem?_eq_some_iff.mp hx).1
  exact g.pure fun p e s m args below meth c K T L k' n' X hT t rr => X.caload K.1 (cell := cl) (v := .int x) (by rw [hT]; exact A.1) (State.isArrayOf_alike K.2.2.1.alike A.2.1) A.2.2 hin hv (g := mkF m pc Ls (.int j :: .ref a :: st)) rfl rfl (hb K.2.1 hd) t rr
theorem Go.laload {a : Addr} {j : Int32} {x : Int64} {xs : List Int64} (i : Nat) (q : Nat) (hd : decode code pc = .ok (.laload, 1)) (A : Arj Z h a xs) (hj : ¬ j < 0) (hi : j.toNatClampNeg = i) (hx : xs[i]? = some x) (hq : pc + 1 = q) (g : GoB wf l Z y code ml ret R Q k n h q Ls (.long x :: st)) : GoB wf l Z y code ml ret R Q k n h pc Ls (.int j :: .ref a :: st) := by
  subst hq hi
  obtain ⟨cl, A, r, r2⟩ := A
  have hv := own_at r hx
  have hin := own_in r hj rfl (List.getElem?_eq_some_iff.mp hx).1
  exact g.pure fun p e s m args below meth c K T L k' n' X hT t rr => X.laload K.1 (cell := cl) (v := .long x) (by rw [hT]; exact A.1) (State.isArrayOf_alike K.2.2.1.alike A.2.1) A.2.2 hin hv (g := mkF m pc Ls (.int j :: .ref a :: st)) rfl rfl (hb K.2.1 hd) t rr
theorem Go.arraylength {a : Addr} {ty : FieldType} {xs : List Int32} {z : Int32} (q : Nat) (hd : decode code pc = .ok (.arraylength, 1)) (A : Ari Z h a ty xs) (hz : xs.length.toInt32 = z) (hq : pc + 1 = q) (g : GoB wf l Z y code ml ret R Q k n h q Ls (.int z :: st)) : GoB wf l Z y code ml ret R Q k n h pc Ls (.ref a :: st) := by
  subst hq
  obtain ⟨cl, A, r, r2⟩ := A
  subst hz
  exact g.pure fun p e s m args below meth c K T L k' n' X hT t rr => X.arraylength K.1 (cell := cl) (by rw [hT]; exact A.1) (State.isArrayOf_alike K.2.2.1.alike A.2.1) (g := mkF m pc Ls (.ref a :: st)) rfl rfl (hb K.2.1 hd) t (by rw [own_size r]; exact rr)
theorem Go.arraylengthJ {a : Addr} {xs : List Int64} {z : Int32} (q : Nat) (hd : decode code pc = .ok (.arraylength, 1)) (A : Arj Z h a xs) (hz : xs.length.toInt32 = z) (hq : pc + 1 = q) (g : GoB wf l Z y code ml ret R Q k n h q Ls (.int z :: st)) : GoB wf l Z y code ml ret R Q k n h pc Ls (.ref a :: st) := by
  subst hq
  obtain ⟨cl, A, r, r2⟩ := A
  subst hz
  exact g.pure fun p e s m args below meth c K T L k' n' X hT t rr => X.arraylength K.1 (cell := cl) (by rw [hT]; exact A.1) (State.isArrayOf_alike K.2.2.1.alike A.2.1) (g := mkF m pc Ls (.ref a :: st)) rfl rfl (hb K.2.1 hd) t (by rw [own_size r]; exact rr)
theorem Go.iastore {a : Addr} {j x : Int32} {xs : List Int32} (i : Nat) (xs' : List Int32) (q : Nat) (hd : decode code pc = .ok (.iastore, 1)) (A : Ari Z h a .int xs) (hj : ¬ j < 0) (hi : j.toNatClampNeg = i) (hx : i < xs.length) (he : xs.set i (x) = xs') (hge : Z.heap.size ≤ a) (hq : pc + 1 = q)
    (g : ∀ h', Wr h h' a i (.int (x)) → Ari Z h' a .int xs' → GoB wf l Z y code ml ret R Q k n h' q Ls st) : GoB wf l Z y code ml ret R Q k n h pc Ls (.int x :: .int j :: .ref a :: st) := by
  subst hq hi
  refine GoB.move (P := fun h' => Wr h h' a j.toNatClampNeg (.int (x))) (kk := k) (nn := n) (fun h' W => g h' W (A.set W he)) ?_
  obtain ⟨cl, A, r, r2⟩ := A
  intro p e s m args below meth c K T L k' n' X h1 h2 N hT
  obtain ⟨T', h', X', e', W', s'⟩ := stI X K.1 K.2.2.1 hT A (own_in r hj rfl hx) (g := mkF m pc Ls (.int x :: .int j :: .ref a :: st)) rfl rfl (hb K.2.1 hd)
  exact ⟨T', _, k', n', X', h1, h2, Fr.snoc X' N hge, e' ▸ W', s'⟩
theorem Go.bastore {a : Addr} {j x : Int32} {xs : List Int32} (i : Nat) (xs' : List Int32) (q : Nat) (hd : decode code pc = .ok (.bastore, 1)) (A : Ari Z h a .byte xs) (hj : ¬ j < 0) (hi : j.toNatClampNeg = i) (hx : i < xs.length) (he : xs.set i (nar .byte x) = xs') (hge : Z.heap.size ≤ a) (hq : pc + 1 = q)
    (g : ∀ h', Wr h h' a i (.int (nar .byte x)) → Ari Z h' a .byte xs' → GoB wf l Z y code ml ret R Q k n h' q Ls st) : GoB wf l Z y code ml ret R Q k n h pc Ls (.int x :: .int j :: .ref a :: st) := by
  subst hq hi
  refine GoB.move (P := fun h' => Wr h h' a j.toNatClampNeg (.int (nar .byte x))) (kk := k) (nn := n) (fun h' W => g h' W (A.set W he)) ?_
  obtain ⟨cl, A, r, r2⟩ := A
  intro p e s m args below meth c K T L k' n' X h1 h2 N hT
  obtain ⟨T', h', X', e', W', s'⟩ := stB X K.1 K.2.2.1 hT A (own_in r hj rfl hx) (g := mkF m pc Ls (.int x :: .int j :: .ref a :: st)) rfl rfl (hb K.2.1 hd)
  exact ⟨T', _, k', n', X', h1, h2, Fr.snoc X' N hge, e' ▸ W', s'⟩
theorem Go.zastore {a : Addr} {j x : Int32} {xs : List Int32} (i : Nat) (xs' : List Int32) (q : Nat) (hd : decode code pc = .ok (.bastore, 1)) (A : Ari Z h a .boolean xs) (hj : ¬ j < 0) (hi : j.toNatClampNeg = i) (hx : i < xs.length) (he : xs.set i (nar .boolean x) = xs') (hge : Z.heap.size ≤ a) (hq : pc + 1 = q)
    (g : ∀ h', Wr h h' a i (.int (nar .boolean x)) → Ari Z h' a .boolean xs' → GoB wf l Z y code ml ret R Q k n h' q Ls st) : GoB wf l Z y code ml ret R Q k n h pc Ls (.int x :: .int j :: .ref a :: st) := by
  subst hq hi
  refine GoB.move (P := fun h' => Wr h h' a j.toNatClampNeg (.int (nar .boolean x))) (kk := k) (nn := n) (fun h' W => g h' W (A.set W he)) ?_
  obtain ⟨cl, A, r, r2⟩ := A
  intro p e s m args below meth c K T L k' n' X h1 h2 N hT
  obtain ⟨T', h', X', e', W', s'⟩ := stZ X K.1 K.2.2.1 hT A (own_in r hj rfl hx) (g := mkF m pc Ls (.int x :: .int j :: .ref a :: st)) rfl rfl (hb K.2.1 hd)
  exact ⟨T', _, k', n', X', h1, h2, Fr.snoc X' N hge, e' ▸ W', s'⟩
theorem Go.castore {a : Addr} {j x : Int32} {xs : List Int32} (i : Nat) (xs' : List Int32) (q : Nat) (hd : decode code pc = .ok (.castore, 1)) (A : Ari Z h a .char xs) (hj : ¬ j < 0) (hi : j.toNatClampNeg = i) (hx : i < xs.length) (he : xs.set i (nar .char x) = xs') (hge : Z.heap.size ≤ a) (hq : pc + 1 = q)
    (g : ∀ h', Wr h h' a i (.int (nar .char x)) → Ari Z h' a .char xs' → GoB wf l Z y code ml ret R Q k n h' q Ls st) : GoB wf l Z y code ml ret R Q k n h pc Ls (.int x :: .int j :: .ref a :: st) := by
  subst hq hi
  refine GoB.move (P := fun h' => Wr h h' a j.toNatClampNeg (.int (nar .char x))) (kk := k) (nn := n) (fun h' W => g h' W (A.set W he)) ?_
  obtain ⟨cl, A, r, r2⟩ := A
  intro p e s m args below meth c K T L k' n' X h1 h2 N hT
  obtain ⟨T', h', X', e', W', s'⟩ := stC X K.1 K.2.2.1 hT A (own_in r hj rfl hx) (g := mkF m pc Ls (.int x :: .int j :: .ref a :: st)) rfl rfl (hb K.2.1 hd)
  exact ⟨T', _, k', n', X', h1, h2, Fr.snoc X' N hge, e' ▸ W', s'⟩
theorem Go.lastore {a : Addr} {j : Int32} {x : Int64} {xs : List Int64} (i : Nat) (xs' : List Int64) (q : Nat) (hd : decode code pc = .ok (.lastore, 1)) (A : Arj Z h a xs) (hj : ¬ j < 0) (hi : j.toNatClampNeg = i) (hx : i < xs.length) (he : xs.set i x = xs') (hge : Z.heap.size ≤ a) (hq : pc + 1 = q)
    (g : ∀ h', Wr h h' a i (.long x) → Arj Z h' a xs' → GoB wf l Z y code ml ret R Q k n h' q Ls st) : GoB wf l Z y code ml ret R Q k n h pc Ls (.long x :: .int j :: .ref a :: st) := by
  subst hq hi
  refine GoB.move (P := fun h' => Wr h h' a j.toNatClampNeg (.long x)) (kk := k) (nn := n) (fun h' W => g h' W (A.set W he)) ?_
  obtain ⟨cl, A, r, r2⟩ := A
  intro p e s m args below meth c K T L k' n' X h1 h2 N hT
  obtain ⟨T', h', X', e', W', s'⟩ := stJ X K.1 K.2.2.1 hT A (own_in r hj rfl hx) (g := mkF m pc Ls (.long x :: .int j :: .ref a :: st)) rfl rfl (hb K.2.1 hd)
  exact ⟨T', _, k', n', X', h1, h2, Fr.snoc X' N hge, e' ▸ W', s'⟩
theorem Go.newI {aty : ArrayType} {z : Int32} (cap : Nat) (xs : List Int32) (q : Nat) (hd : decode code pc = .ok (.newarray aty, 2)) (w : (Cond.arrayClass (newarray.typeOf aty)).before a0 Z = true) (hdv : defaultValue (newarray.typeOf aty) = .int 0) (hz : ¬ z < 0) (hcap : z.toNatClampNeg ≤ cap) (hbig : cap * 8 ≤ 536870912) (hxs : List.replicate z.toNatClampNeg 0 = xs) (hk : k + 1 ≤ R.cells) (hN : n + cap ≤ R.slots) (hq : pc + 2 = q)
    (g : ∀ (a : Addr) h', a = h.size → Ext h h' → Ari Z h' a (newarray.typeOf aty) xs → GoB wf l Z y code ml ret R Q (k + 1) (n + cap) h' q Ls (.ref a :: st)) : GoB wf l Z y code ml ret R Q k n h pc Ls (.int z :: st) := by
  subst hq hxs
  refine GoB.move (P := fun h' => Ext h h' ∧ Ari Z h' h.size (newarray.typeOf aty) (List.replicate z.toNatClampNeg 0)) (kk := k + 1) (nn := n + cap) (fun h' p => g h.size h' rfl p.1 p.2) ?_
  intro p e s m args below meth c K T L k' n' X h1 h2 N hT
  obtain ⟨T', h', cA, X', e', E', A', s'⟩ := newP X K.1 K.2.2.1 w hT (g := mkF m pc Ls (.int z :: st)) rfl (hb K.2.1 hd) rfl hz hcap hbig (Nat.le_trans (Nat.add_le_add_right h1 1) hk) (Nat.le_trans (Nat.add_le_add_right h2 cap) hN)
  subst e'
  refine ⟨T', L, k' + 1, n' + cap, X', Nat.add_le_add_right h1 1, Nat.add_le_add_right h2 cap, N, ⟨E', _, A', ?_, ?_⟩, s'⟩
  · show (Array.replicate z.toNatClampNeg (defaultValue (newarray.typeOf aty))).toList = _
    rw [hdv]; simp [List.map_replicate]
  · rw [List.length_replicate]; omega
theorem Go.newJ {aty : ArrayType} {z : Int32} (cap : Nat) (xs : List Int64) (q : Nat) (hd : decode code pc = .ok (.newarray aty, 2)) (w : (Cond.arrayClass (newarray.typeOf aty)).before a0 Z = true) (hdv : newarray.typeOf aty = .long) (hz : ¬ z < 0) (hcap : z.toNatClampNeg ≤ cap) (hbig : cap * 8 ≤ 536870912) (hxs : List.replicate z.toNatClampNeg 0 = xs) (hk : k + 1 ≤ R.cells) (hN : n + cap ≤ R.slots) (hq : pc + 2 = q)
    (g : ∀ (a : Addr) h', a = h.size → Ext h h' → Arj Z h' a xs → GoB wf l Z y code ml ret R Q (k + 1) (n + cap) h' q Ls (.ref a :: st)) : GoB wf l Z y code ml ret R Q k n h pc Ls (.int z :: st) := by
  subst hq hxs
  refine GoB.move (P := fun h' => Ext h h' ∧ Arj Z h' h.size (List.replicate z.toNatClampNeg 0)) (kk := k + 1) (nn := n + cap) (fun h' p => g h.size h' rfl p.1 p.2) ?_
  intro p e s m args below meth c K T L k' n' X h1 h2 N hT
  obtain ⟨T', h', cA, X', e', E', A', s'⟩ := newP X K.1 K.2.2.1 w hT (g := mkF m pc Ls (.int z :: st)) rfl (hb K.2.1 hd) rfl hz hcap hbig (Nat.le_trans (Nat.add_le_add_right h1 1) hk) (Nat.le_trans (Nat.add_le_add_right h2 cap) hN)
  subst e'
  refine ⟨T', L, k' + 1, n' + cap, X', Nat.add_le_add_right h1 1, Nat.add_le_add_right h2 cap, N, ⟨E', _, hdv ▸ A', ?_, ?_⟩, s'⟩
  · show (Array.replicate z.toNatClampNeg (defaultValue .long)).toList = _
    simp [List.map_replicate, defaultValue]
  · rw [List.length_replicate]; omega

theorem own_arv {a : Addr} {ty : FieldType} {xs : List Int32} (F : Ari Z h a ty xs) (hf : ∀ x ∈ xs, fits ty (.int x) = true) : ∃ k : ClassId, Arv Z h a k ty xs.length.toInt32 (xs.map Value.int) (.int 0) := by
  obtain ⟨c, A, r, r2⟩ := F
  have sz := own_size r
  have hz : ¬ xs.length.toInt32 < 0 := by
    have e := len_toInt (n := xs.length) (by omega)
    rw [Int32.lt_iff_toInt_lt, e]
    show ¬ (xs.length : Int) < 0
    omega
  have hn : xs.length.toInt32.toNatClampNeg = xs.length := by
    have e := nat_of hz
    have e2 := len_toInt (n := xs.length) (by omega)
    omega
  have hat : ∀ i, i < c.slots.size → ∃ x, xs[i]? = some x := fun i hi => ⟨xs[i]'(by omega), List.getElem?_eq_getElem (by omega)⟩
  refine ⟨c.cls, c, A, rfl, by rw [sz, hn], hz, fun i hi => ?_, fun i hi => ?_⟩
  · obtain ⟨x, hx⟩ := hat i hi
    rw [own_at r hx, List.getD_eq_getElem?_getD, List.getElem?_map, hx]; rfl
  · obtain ⟨x, hx⟩ := hat i hi
    rw [List.getD_eq_getElem?_getD, List.getElem?_map, hx]
    exact hf x (List.mem_of_getElem? hx)
theorem own_ari {a : Addr} {ty : FieldType} {k : ClassId} {z : Int32} {ys : List Int32} (F : Arv Z h a k ty z (ys.map Value.int) (.int 0)) (hl : z.toNatClampNeg = ys.length) (hb : ys.length < 2147483648) : Ari Z h a ty ys := by
  obtain ⟨c, A, -, sz, -, H, -⟩ := F
  refine ⟨c, A, ?_, hb⟩
  apply List.ext_getElem?
  intro i
  rw [List.getElem?_map]
  by_cases hi : i < c.slots.size
  · have q := H i hi
    rw [Array.getElem?_toList, q, List.getD_eq_getElem?_getD, List.getElem?_map, List.getElem?_eq_getElem (show i < ys.length by omega)]
    rfl
  · rw [List.getElem?_eq_none (by simpa using hi), List.getElem?_eq_none (show ys.length ≤ i by omega)]
    rfl
theorem Go.arraycopy {a b : Addr} {ty : FieldType} {xs ys ys' : List Int32} {sp dp nn : Int32} {i W : Nat} (sN dN n' : Nat) (q : Nat) (hd : decode code pc = .ok (.invokestatic i, 3)) (w1 : (Cond.methodLink y.cls i Jvm.Stand.acN).before a0 Z = true) (w2 : (Cond.native Jvm.Stand.acN).before a0 Z = true) (w3 : (Cond.static Jvm.Stand.acN).before a0 Z = true) (w4 : (Cond.initialized "java/lang/System").before a0 Z = true)
    (A : Ari Z h a ty xs) (B : Ari Z h b ty ys) (hfa : ∀ x ∈ xs, fits ty (.int x) = true) (hfb : ∀ x ∈ ys, fits ty (.int x) = true) (hty : refKind ty = false) (h1 : ¬ sp < 0) (h2 : ¬ dp < 0) (h3 : ¬ nn < 0) (e1 : sp.toNatClampNeg = sN) (e2 : dp.toNatClampNeg = dN) (e3 : nn.toNatClampNeg = n') (l1 : sN + n' ≤ xs.length) (l2 : dN + n' ≤ ys.length) (he : ys.take dN ++ (xs.drop sN).take n' ++ ys.drop (dN + n') = ys')
    (hge : Z.heap.size ≤ b) (hsz : Ls.size = ml) (hfr : 1 ≤ R.frames) (hW : (st.map fun v => v.category).sum ≤ W) (hlo : W + (nativeFrameWords "java/lang/System" "arraycopy" 5 + 11) ≤ R.locals) (hq : pc + 3 = q)
    (g : ∀ h', Keep h h' [b] → Ari Z h' b ty ys' → GoB wf l Z y code ml ret R Q k n h' q Ls st) : GoB wf l Z y code ml ret R Q k n h pc Ls (.int nn :: .int dp :: .ref b :: .int sp :: .ref a :: st) := by
  subst hq e1 e2 e3 he
  refine GoB.move (P := fun h' => Keep h h' [b] ∧ Ari Z h' b ty (ys.take dp.toNatClampNeg ++ (xs.drop sp.toNatClampNeg).take nn.toNatClampNeg ++ ys.drop (dp.toNatClampNeg + nn.toNatClampNeg))) (kk := k) (nn := n) (fun h' p => g h' p.1 p.2) ?_
  obtain ⟨ka, A'⟩ := own_arv A hfa
  obtain ⟨kb, B'⟩ := own_arv B hfb
  obtain ⟨_, _, _, bb⟩ := B
  obtain ⟨_, _, _, ba⟩ := A
  have na : xs.length.toInt32.toNatClampNeg = xs.length := by
    have hz : ¬ xs.length.toInt32 < 0 := A'.choose_spec.2.2.2.1
    have e := nat_of hz
    have e2 := len_toInt (n := xs.length) (by omega)
    omega
  have nb : ys.length.toInt32.toNatClampNeg = ys.length := by
    have hz : ¬ ys.length.toInt32 < 0 := B'.choose_spec.2.2.2.1
    have e := nat_of hz
    have e2 := len_toInt (n := ys.length) (by omega)
    omega
  have hus : ((xs.drop sp.toNatClampNeg).take nn.toNatClampNeg).map Value.int = (List.range nn.toNatClampNeg).map fun i => (xs.map Value.int).getD (sp.toNatClampNeg + i) (.int 0) := by
    apply List.ext_getElem?
    intro i
    simp only [List.getElem?_map, List.getElem?_take, List.getElem?_drop, List.getElem?_range']
    by_cases hi : i < nn.toNatClampNeg
    · rw [if_pos hi, List.getElem?_range hi, Option.map_some, List.getD_eq_getElem?_getD, List.getElem?_map, List.getElem?_eq_getElem (show sp.toNatClampNeg + i < xs.length by omega)]
      rfl
    · rw [if_neg hi, List.getElem?_eq_none (by simpa using hi)]
      rfl
  intro p e s m args below meth c K T L k' n' X h1' h2' N hT
  obtain ⟨T', h', L', X', e', N', K', B2, s'⟩ := cpA X K.1 K.2.2.1 K.2.2.2.1 w1 w2 w3 w4 hT A' B' (Or.inl ⟨rfl, hty⟩) h1 h2 h3 (by rw [na]; exact l1) (by rw [nb]; exact l2) hus (by rw [List.length_map]; exact l2) N hge (g := mkF m pc Ls (.int nn :: .int dp :: .ref b :: .int sp :: .ref a :: st)) rfl (hsz.trans K.2.2.2.2.1.symm) rfl (hb K.2.1 hd) hfr (W := W) (by show 2 * 0 + _ ≤ _; rw [Nat.mul_zero, Nat.zero_add]; exact hW) hlo
  subst e'
  refine ⟨T', L', k', n', X', h1', h2', N', ⟨K', own_ari (z := ys.length.toInt32) (k := kb) ?_ ?_ ?_⟩, s'⟩
  · rw [List.map_append, List.map_append, List.map_take, List.map_drop]; exact B2
  · rw [nb]; simp only [List.length_append, List.length_take, List.length_drop]; omega
  · simp only [List.length_append, List.length_take, List.length_drop]; omega


/-- a String constant: it may intern; the walk goes on over the re-based start -/
theorem Go.ldcS {i : Nat} {text : String} {P : Int32 → Heap → Prop} (nn : Nat) (q : Nat) (hd : decode code pc = .ok (.ldc i, 2)) (w1 : (Cond.stringLink y.cls i text).before a0 Z = true) (wS : ∀ a ∈ Bundle.stringAtoms, a.before a0 Z = true) (hn : 4 * text.toList.length ≤ nn) (hbig : nn ≤ 536870912) (hk : k + 2 ≤ R.cells) (hN : n + (nn + 4) ≤ R.slots) (hq : pc + 2 = q)
    (g : ∀ (a : Addr) h', Ext h h' → Go l Z y code ml ret R (QI fun z hf => P z hf ∧ h'.size ≤ hf.size) (k + 2) (n + (nn + 4)) h' q Ls (.ref a :: st)) : GoB true l Z y code ml ret R (QI P) k n h pc Ls st := by
  subst hq
  intro p e s m args below meth c K T L k' n' X h1 h2 N hT
  have hs0 : s.Since s.vm T.heap.size := State.WarmedH.since (State.WarmedH.refl s) _
  obtain ⟨a, T1, h', k1, X1, e1, E1, S1, l1, Z1, o1, st1⟩ := Jvm.RoadKit.ldcS (s := s) (vm0 := s.vm) X K.1 K.2.2.1 K.2.2.2.1 w1 wS hT hs0 (by rw [hT]; exact Nat.le_refl _) (g := mkF m pc Ls st) rfl (hb K.2.1 hd) hn hbig (Nat.le_trans (Nat.add_le_add_right h1 2) hk) (Nat.le_trans (Nat.add_le_add_right h2 _) hN)
  obtain ⟨s', v, T', L', k'', n'', ok', X', b1, b2, N', ⟨z, ez, q1, q2⟩, hv, stp⟩ := g a h' E1 p e (s.setVm T1.vm) m args below meth c ⟨K.1, K.2.1, Z1, o1, K.2.2.2.2⟩ T1 L (k' + 2) (n' + (nn + 4)) X1 (Nat.add_le_add_right h1 2) (Nat.add_le_add_right h2 _) N e1
  obtain rfl : s' = s.setVm T1.vm := ok'.elim id (fun q => absurd q.1 (by decide))
  exact ⟨_, v, T', L', k'', n'', Or.inr ⟨rfl, T1.vm, k1, rfl, S1, Nat.le_trans l1 q2⟩, X', b1, b2, N', ⟨z, ez, q1⟩, hv, fun fs hl => st1 _ (stp fs hl)⟩
/-- the whole body of a method that may intern -/
theorem Go.metW {as' : Array Value} (hx : plainFor y = true) (hent : ∀ m, entryFrame m as' ml = mkF m 0 Ls []) (G : GoB true l Z y code ml ret R Q 0 0 h 0 Ls []) (ws : List Jvm.Cond) :
    MetFree l y (head1 (Jvm.Cond.code y code ml ret :: ws) R) (fun a U => a = as' ∧ Z.Warmed39 U.vm ∧ U.heap = h) (fun _ _ _ _ _ => True) (fun _ U o U' => ∃ v L, o = .returned v ∧ (Q v U'.heap ∧ Fr Z.heap.size L) ∧ ((∃ v : Option Value, o = Outcome.returned v) ∧ U.Warmed39 U'.vm ∧ U.Booked U'.vm U'.heap.size ∧ U.sameButNew ({ U' with vm := U.vm } : State) L R.cells R.slots)) := by
  refine MetFree.of_bodySF hx hisR ?_
  intro p e s m args below meth c s₁ Bd hml hP hK
  obtain ⟨rfl, hZ, hh⟩ := hP
  have X0 : Stand p l e R s m args below meth c s₁ [] 0 0 := Stand.of_body Bd
  have e0 : s₁.heap = h := by rw [← hh, Bd.state]; rfl
  have hnm := (name_of_methodNamed Bd.named Bd.method).1
  have hlk := Bd.notSynchronized
  obtain ⟨s', v, T', L', k'', n'', ok', X', b1, b2, N', q, hv, stp⟩ := G p e s m args below meth c ⟨Bd.exec, Bd.bytes, hZ, findClass_of_methodNamed Bd.named, hml, Bd.returns, hlk, hnm⟩ s₁ [] 0 0 X0 (Nat.le_refl _) (Nat.le_refl _) (Fr.nil _) e0
  have hv' : meth.sig.returnType = none → v = none := fun hh => hv (by rw [← Bd.returns]; exact hh)
  rcases ok' with rfl | ⟨-, vm, k1, rfl, S1, l1⟩
  · obtain ⟨fs, hr, hrun, hended, hW, hsame⟩ := X'.leave (v := v) hv'
    obtain ⟨a1, a2, a3, a4⟩ := Jvm.RoadKit.wide (s := s') (o := .returned v) (L := L') (k := k'') (n := n'') ⟨⟨v, rfl⟩, hW, hsame⟩
    exact ⟨_, _, castTop (hent m) (stp fs hr), hrun, hended, v, L', rfl, ⟨q, N'⟩, ⟨_, rfl⟩, a2, a3, a4.mono b1 b2⟩
  · obtain ⟨fs, hr, hrun, hended, hW, hsame⟩ := X'.leave (v := v) hv' hlk
    obtain ⟨a1, a2, a3⟩ := S1.ended (U := T'.setFrames fs) hW l1 hsame
    exact ⟨_, _, castTop (hent m) (stp fs hr), hrun, hended, v, L', rfl, ⟨q, N'⟩, ⟨_, rfl⟩, a1, a2, a3.mono b1 b2⟩

theorem Go.istoreS {i : Nat} {v : Int32} {o : Slot} (q : Nat) (Ls' : Array Slot) (hd : decode code pc = .ok (.istore i, 2)) (hold : Ls[i]? = some o) (ho : o = .unset ∨ ∃ w, o = .val w ∧ w.category = 1) (he : Ls.setIfInBounds i (.val (.int v)) = Ls') (hq : pc + 2 = q) (g : GoB wf l Z y code ml ret R Q k n h q Ls' st) : GoB wf l Z y code ml ret R Q k n h pc Ls (.int v :: st) := by
  subst hq he; exact g.pure fun p e s m args below meth c K T L k' n' X hT t r => XS.istoreS X.here K.1 rfl (hb K.2.1 hd) rfl hold ho r
theorem Go.istoreNS {i : Fin 4} {v : Int32} {o : Slot} (q : Nat) (Ls' : Array Slot) (hd : decode code pc = .ok (.istore_n i, 1)) (hold : Ls[i.val]? = some o) (ho : o = .unset ∨ ∃ w, o = .val w ∧ w.category = 1) (he : Ls.setIfInBounds i.val (.val (.int v)) = Ls') (hq : pc + 1 = q) (g : GoB wf l Z y code ml ret R Q k n h q Ls' st) : GoB wf l Z y code ml ret R Q k n h pc Ls (.int v :: st) := by
  subst hq he; exact g.pure fun p e s m args below meth c K T L k' n' X hT t r => XS.istoreNS X.here K.1 rfl (hb K.2.1 hd) rfl hold ho r

theorem own_staK {h' : Heap} {C nm d : String} {v : Value} {ws : List Addr} (F : Sta Z h C nm d v) (K : Keep h h' ws) (hn : ∀ x ∈ ws, ∀ cell : Cell, h[x]? = some cell → cell.vm.isStatics = false) : Sta Z h' C nm d v := by
  obtain ⟨cf, i, k, f, st, cell, h1, h2, h3, h4, h5, h6, h7⟩ := F
  exact ⟨cf, i, k, f, st, cell, h1, h2, h3, h4, K.2.1 _ _ h5 (fun hm => by rw [hn _ hm _ h5] at h6; cases h6), h6, h7⟩
theorem Ari.nostat {a : Addr} {ty : FieldType} {xs : List Int32} (F : Ari Z h a ty xs) : ∀ cell : Cell, h[a]? = some cell → cell.vm.isStatics = false := fun cell q => by
  obtain ⟨c, A, -⟩ := F
  cases A.1.symm.trans q
  exact A.plain
theorem own_nost {a : Addr} {C : String} (E : Exa Z h a C) : ∀ cell : Cell, h[a]? = some cell → cell.vm.isStatics = false := fun cell q => by
  obtain ⟨c, k, h1, -, -, h4, -⟩ := E
  cases h1.symm.trans q
  exact h4
theorem own_nea {a b : Addr} {ty ty' : FieldType} {xs ys : List Int32} (F : Ari Z h a ty xs) (G : Ari Z h b ty' ys) (hn : ty ≠ ty') : a ≠ b := fun e => by
  subst e
  obtain ⟨c1, A1, -⟩ := F
  obtain ⟨c2, A2, -⟩ := G
  cases A1.1.symm.trans A2.1
  obtain ⟨-, k1, hk1, comp1, e1⟩ := A1.2.1
  obtain ⟨-, k2, hk2, comp2, e2⟩ := A2.2.1
  cases hk1.symm.trans hk2
  rw [e1] at e2
  cases e2
  exact hn rfl
theorem own_nef {a b : Addr} {O nm d : String} {v w : Value} (F : Fld Z h a O nm d v) (G : Fld Z h b O nm d w) (hn : v ≠ w) : a ≠ b := fun e => by
  subst e
  obtain ⟨c1, cf1, k1, i1, f1, a1, a2, -, -, -, -, a7⟩ := F
  obtain ⟨c2, cf2, k2, i2, f2, b1, b2, -, -, -, -, b7⟩ := G
  cases a1.symm.trans b1
  cases a2.symm.trans b2
  exact hn (Option.some.inj (a7.symm.trans b7))
/-- an array of references to objects of a class -/
def Aro (Z : State) (h : Heap) (a : Addr) (C : String) (vs : List Value) : Prop := ∃ c : Cell, Arr Z h a c (.object C) ∧ c.slots.toList = vs.map id ∧ Ovr Z c.cls C
theorem Aro.lt {a : Addr} {C : String} {vs : List Value} (F : Aro Z h a C vs) : a < h.size := by obtain ⟨c, A, -⟩ := F; exact A.lt
theorem Aro.ext {h' : Heap} {a : Addr} {C : String} {vs : List Value} (F : Aro Z h a C vs) (E : Ext h h') : Aro Z h' a C vs := by obtain ⟨c, A, r⟩ := F; exact ⟨c, A.ext E, r⟩
theorem Aro.other {h' : Heap} {a b : Addr} {sl : Nat} {v : Value} {C : String} {vs : List Value} (F : Aro Z h b C vs) (W : Wr h h' a sl v) (q : b ≠ a) : Aro Z h' b C vs := by obtain ⟨c, A, r⟩ := F; exact ⟨c, A.other W q, r⟩
theorem Aro.keep {h' : Heap} {a : Addr} {ws : List Addr} {C : String} {vs : List Value} (F : Aro Z h a C vs) (K : Keep h h' ws) (q : a ∉ ws) : Aro Z h' a C vs := by obtain ⟨c, A, r⟩ := F; exact ⟨c, ⟨K.2.1 _ _ A.1 q, A.2⟩, r⟩
theorem Aro.set {h' : Heap} {a : Addr} {C : String} {vs vs' : List Value} {i : Nat} {x : Value} (F : Aro Z h a C vs) (W : Wr h h' a i x) (e : vs.set i x = vs') : Aro Z h' a C vs' := by
  subst e
  obtain ⟨c, A, r, r2⟩ := F
  exact ⟨_, A.same W, own_set r i x, r2⟩
theorem Go.newR {i : Nat} {C : String} {z : Int32} (cap : Nat) (vs : List Value) (q : Nat) (hd : decode code pc = .ok (.anewarray i, 3)) (w1 : (Cond.classLink y.cls i C).before a0 Z = true) (w2 : (Cond.arrayOver (.object C)).before a0 Z = true) (hz : ¬ z < 0) (hcap : z.toNatClampNeg ≤ cap) (hbig : cap * 8 ≤ 536870912) (hxs : List.replicate z.toNatClampNeg Value.null = vs) (hk : k + 1 ≤ R.cells) (hN : n + cap ≤ R.slots) (hq : pc + 3 = q)
    (g : ∀ (a : Addr) h', a = h.size → Ext h h' → Aro Z h' a C vs → GoB wf l Z y code ml ret R Q (k + 1) (n + cap) h' q Ls (.ref a :: st)) : GoB wf l Z y code ml ret R Q k n h pc Ls (.int z :: st) := by
  subst hq hxs
  refine GoB.move (P := fun h' => Ext h h' ∧ Aro Z h' h.size C (List.replicate z.toNatClampNeg Value.null)) (kk := k + 1) (nn := n + cap) (fun h' p => g h.size h' rfl p.1 p.2) ?_
  intro p e s m args below meth c K T L k' n' X h1 h2 N hT
  obtain ⟨T', h', cA, X', e', E', A', O', s'⟩ := Jvm.RoadKit.newR X K.1 K.2.2.1 K.2.2.2.1 w1 w2 hT (g := mkF m pc Ls (.int z :: st)) rfl (hb K.2.1 hd) rfl hz hcap hbig (Nat.le_trans (Nat.add_le_add_right h1 1) hk) (Nat.le_trans (Nat.add_le_add_right h2 cap) hN)
  subst e'
  refine ⟨T', L, k' + 1, n' + cap, X', Nat.add_le_add_right h1 1, Nat.add_le_add_right h2 cap, N, ⟨E', _, A', ?_, O'⟩, s'⟩
  show (Array.replicate z.toNatClampNeg (defaultValue (.object C))).toList = _
  simp [defaultValue]
theorem Go.aastore {a b : Addr} {C : String} {j : Int32} {vs : List Value} (i : Nat) (vs' : List Value) (q : Nat) (hd : decode code pc = .ok (.aastore, 1)) (A : Aro Z h a C vs) (I : Ins Z h b C true) (hj : ¬ j < 0) (hi : j.toNatClampNeg = i) (hx : i < vs.length) (he : vs.set i (.ref b) = vs') (hge : Z.heap.size ≤ a) (hq : pc + 1 = q)
    (g : ∀ h', Wr h h' a i (.ref b) → Aro Z h' a C vs' → GoB wf l Z y code ml ret R Q k n h' q Ls st) : GoB wf l Z y code ml ret R Q k n h pc Ls (.ref b :: .int j :: .ref a :: st) := by
  subst hq hi
  refine GoB.move (P := fun h' => Wr h h' a j.toNatClampNeg (.ref b)) (kk := k) (nn := n) (fun h' W => g h' W (A.set W he)) ?_
  obtain ⟨cl, A, r, r2⟩ := A
  intro p e s m args below meth c K T L k' n' X h1 h2 N hT
  obtain ⟨T', h', X', e', W', s'⟩ := stR X K.1 K.2.2.1 hT A (own_in r hj rfl hx) rfl (Sto.of A r2 I) (g := mkF m pc Ls (.ref b :: .int j :: .ref a :: st)) rfl rfl (hb K.2.1 hd)
  exact ⟨T', _, k', n', X', h1, h2, Fr.snoc X' N hge, e' ▸ W', s'⟩
theorem Go.aaload {a : Addr} {C : String} {j : Int32} {x : Value} {vs : List Value} (i : Nat) (q : Nat) (hd : decode code pc = .ok (.aaload, 1)) (A : Aro Z h a C vs) (hj : ¬ j < 0) (hi : j.toNatClampNeg = i) (hx : vs[i]? = some x) (hq : pc + 1 = q) (g : GoB wf l Z y code ml ret R Q k n h q Ls (x :: st)) : GoB wf l Z y code ml ret R Q k n h pc Ls (.int j :: .ref a :: st) := by
  subst hq hi
  obtain ⟨cl, A, r, r2⟩ := A
  have hv := own_at r hx
  have hin := own_in r hj rfl (List.getElem?_eq_some_iff.mp hx).1
  exact g.pure fun p e s m args below meth c K T L k' n' X hT t rr => X.aaload K.1 (cell := cl) (v := x) (ty := .object C) (by rw [hT]; exact A.1) (State.isArrayOf_alike K.2.2.1.alike A.2.1) rfl A.2.2 hin hv (g := mkF m pc Ls (.int j :: .ref a :: st)) rfl rfl (hb K.2.1 hd) t rr
theorem Go.tsw {dflt low high : Int} {offs : Array Int} {len : Nat} {i : Int32} (o : Int) (q : Nat) (hd : decode code pc = .ok (.tableswitch dflt low high offs, len)) (hin : ¬ (i.toInt < low ∨ i.toInt > high)) (hoff : offs[(i.toInt - low).toNat]? = some o) (ho : 0 ≤ (pc : Int) + o) (hp : ((pc : Int) + o).toNat = q) (g : GoB wf l Z y code ml ret R Q k n h q Ls st) : GoB wf l Z y code ml ret R Q k n h pc Ls (.int i :: st) := by
  exact g.pure fun p e s m args below meth c K T L k' n' X hT t r => XS.tswIn X.here K.1 rfl rfl (hb K.2.1 hd) rfl hin hoff ho hp r
theorem Go.cast {i : Nat} {a : Addr} {D : String} (q : Nat) (hd : decode code pc = .ok (.checkcast i, 3)) (w : (Cond.classLink y.cls i D).before a0 Z = true) (F : Ins Z h a D true) (hq : pc + 3 = q) (g : GoB wf l Z y code ml ret R Q k n h q Ls (.ref a :: st)) : GoB wf l Z y code ml ret R Q k n h pc Ls (.ref a :: st) := by
  subst hq
  refine GoB.move (P := fun h' => h' = h) (kk := k) (nn := n) (fun h' e => e ▸ g) ?_
  intro p e s m args below meth c K T L k' n' X h1 h2 N hT
  obtain ⟨T', X', e', s'⟩ := castY X K.1 K.2.2.1 K.2.2.2.1 w hT F (g := mkF m pc Ls (.ref a :: st)) rfl rfl (hb K.2.1 hd)
  exact ⟨T', L, k', n', X', h1, h2, N, e', s'⟩
theorem Go.newIE {aty : ArrayType} {z : Int32} (cap : Nat) (xs : List Int32) (ad : String) (q : Nat) (hd : decode code pc = .ok (.newarray aty, 2)) (w : (Cond.arrayClass (newarray.typeOf aty)).before a0 Z = true) (hdv : defaultValue (newarray.typeOf aty) = .int 0) (had : "[" ++ (newarray.typeOf aty).toString = ad) (hz : ¬ z < 0) (hcap : z.toNatClampNeg ≤ cap) (hbig : cap * 8 ≤ 536870912) (hxs : List.replicate z.toNatClampNeg 0 = xs) (hk : k + 1 ≤ R.cells) (hN : n + cap ≤ R.slots) (hq : pc + 2 = q)
    (g : ∀ (a : Addr) h', a = h.size → Ext h h' → Ari Z h' a (newarray.typeOf aty) xs → Exa Z h' a ad → GoB wf l Z y code ml ret R Q (k + 1) (n + cap) h' q Ls (.ref a :: st)) : GoB wf l Z y code ml ret R Q k n h pc Ls (.int z :: st) := by
  subst hq hxs
  refine GoB.move (P := fun h' => Ext h h' ∧ Ari Z h' h.size (newarray.typeOf aty) (List.replicate z.toNatClampNeg 0) ∧ Exa Z h' h.size ad) (kk := k + 1) (nn := n + cap) (fun h' p => g h.size h' rfl p.1 p.2.1 p.2.2) ?_
  intro p e s m args below meth c K T L k' n' X h1 h2 N hT
  obtain ⟨T', h', cA, X', e', E', A', Ex', s'⟩ := newPE X K.1 K.2.2.1 w hT (g := mkF m pc Ls (.int z :: st)) rfl (hb K.2.1 hd) rfl hz hcap hbig (Nat.le_trans (Nat.add_le_add_right h1 1) hk) (Nat.le_trans (Nat.add_le_add_right h2 cap) hN) had
  subst e'
  refine ⟨T', L, k' + 1, n' + cap, X', Nat.add_le_add_right h1 1, Nat.add_le_add_right h2 cap, N, ⟨E', ⟨_, A', ?_, ?_⟩, Ex'⟩, s'⟩
  · show (Array.replicate z.toNatClampNeg (defaultValue (newarray.typeOf aty))).toList = _
    rw [hdv]; simp [List.map_replicate]
  · rw [List.length_replicate]; omega
theorem Go.clone {i W : Nat} {ad : String} {a : Addr} {ty : FieldType} {xs : List Int32} (cap : Nat) (q : Nat) (hd : decode code pc = .ok (.invokevirtual i, 3)) (w1 : (Cond.methodLink y.cls i ⟨ad, "clone", "()Ljava/lang/Object;"⟩).before a0 Z = true) (w2 : (Cond.sameMethod ad "java/lang/Object" "clone" "()Ljava/lang/Object;").before a0 Z = true) (w3 : (Cond.native ⟨"java/lang/Object", "clone", "()Ljava/lang/Object;"⟩).before a0 Z = true)
    (w4 : (Cond.instanceMethod ⟨"java/lang/Object", "clone", "()Ljava/lang/Object;"⟩).before a0 Z = true) (w5 : (Cond.selects ad ⟨ad, "clone", "()Ljava/lang/Object;"⟩ ⟨"java/lang/Object", "clone", "()Ljava/lang/Object;"⟩).before a0 Z = true) (w6 : (Cond.castable ad "java/lang/Cloneable").before a0 Z = true)
    (A : Ari Z h a ty xs) (E : Exa Z h a ad) (hf : ∀ x ∈ xs, fits ty (.int x) = true) (hsz : Ls.size = ml) (hfr : 1 ≤ R.frames) (hW : (st.map fun v => v.category).sum ≤ W) (hlo : W + 14 ≤ R.locals) (hcap : xs.length ≤ cap) (hk : k + 1 ≤ R.cells) (hN : n + cap ≤ R.slots) (hq : pc + 3 = q)
    (g : ∀ (b : Addr) h', b = h.size → Ext h h' → Ari Z h' b ty xs → Exa Z h' b ad → GoB wf l Z y code ml ret R Q (k + 1) (n + cap) h' q Ls (.ref b :: st)) : GoB wf l Z y code ml ret R Q k n h pc Ls (.ref a :: st) := by
  subst hq
  obtain ⟨cl, A, r, r2⟩ := A
  have FC : FitC Z cl := fitC_of A fun i hi v hv => by
    have e : cl.slots.toList[i]? = some v := by simpa using hv
    rw [r, List.getElem?_map] at e
    obtain ⟨x, hx, rfl⟩ := Option.map_eq_some_iff.mp e
    exact hf x (List.mem_of_getElem? hx)
  refine GoB.move (P := fun h' => Ext h h' ∧ Ari Z h' h.size ty xs ∧ Exa Z h' h.size ad) (kk := k + 1) (nn := n + cap) (fun h' p => g h.size h' rfl p.1 p.2.1 p.2.2) ?_
  intro p e s m args below meth c K T L k' n' X h1 h2 N hT
  obtain ⟨T', h', X', e', E', A', Ex', s'⟩ := cloneA X K.1 K.2.2.1 K.2.2.2.1 w1 w2 w3 w4 w5 w6 hT A E FC (g := mkF m pc Ls (.ref a :: st)) rfl (hsz.trans K.2.2.2.2.1.symm) rfl (hb K.2.1 hd) hfr (W := W) (by show 2 * 0 + _ ≤ _; rw [Nat.mul_zero, Nat.zero_add]; exact hW) hlo (by rw [own_size r]; exact hcap) (Nat.le_trans (Nat.add_le_add_right h1 1) hk) (Nat.le_trans (Nat.add_le_add_right h2 cap) hN)
  subst e'
  exact ⟨T', L, k' + 1, n' + cap, X', Nat.add_le_add_right h1 1, Nat.add_le_add_right h2 cap, N, ⟨E', ⟨_, A', r, r2⟩, Ex'⟩, s'⟩


/-- a static of a reference type: null or an address -/
def Str (Z : State) (h : Heap) (C nm d : String) : Prop := Sta Z h C nm d .null ∨ ∃ r : Addr, Sta Z h C nm d (.ref r)
theorem Str.ext {h' : Heap} {C nm d : String} (F : Str Z h C nm d) (E : Ext h h') : Str Z h' C nm d := F.imp (fun q => q.ext E) fun ⟨r, q⟩ => ⟨r, q.ext E⟩
theorem Str.wr {h' : Heap} {C nm d : String} {a : Addr} {sl : Nat} {v : Value} (F : Str Z h C nm d) (W : Wr h h' a sl v) : Str Z h' C nm d := F.imp (fun q => q.wr W) fun ⟨r, q⟩ => ⟨r, q.wr W⟩
theorem Str.keepN {h' : Heap} {C nm d : String} {ws : List Addr} (F : Str Z h C nm d) (K : Keep h h' ws) (hn : ∀ x ∈ ws, ∀ cell : Cell, h[x]? = some cell → cell.vm.isStatics = false) : Str Z h' C nm d := F.imp (fun q => own_staK q K hn) fun ⟨r, q⟩ => ⟨r, own_staK q K hn⟩

end Laws
end Jvm.OwnGo

namespace Jvm.Pilot.@@N@@
open Jvm Jvm.ClassFile Sem Op Lib Jvm.Free Jvm.Stand Jvm.LawKit Jvm.RoadKit Bundle Jvm.OwnGo Jvm.Pilot.@@N@@.Jvm.D
theorem pnx : plainName x.cls = true := by first | (simp [x, plainName, overriddenIn]; done) | decide +kernel
theorem tw0 {a0 : Array Value} {Z : State} (hw : ∀ d ∈ tables_1, d.before a0 Z = true) : ((Jvm.Cond.classLink "dev/stablemate/solve/CriterionPutsRegretFirstPinLaw" (7 : Nat) "dev/stablemate/solve/Criterion")).before a0 Z = true := hw _ (List.mem_of_getElem? (i := 0) rfl)
theorem tw1 {a0 : Array Value} {Z : State} (hw : ∀ d ∈ tables_1, d.before a0 Z = true) : ((Jvm.Cond.arrayOver (Jvm.ClassFile.FieldType.object "dev/stablemate/solve/Criterion"))).before a0 Z = true := hw _ (List.mem_of_getElem? (i := 1) rfl)
theorem tw2 {a0 : Array Value} {Z : State} (hw : ∀ d ∈ tables_1, d.before a0 Z = true) : ((Jvm.Cond.fieldLink "dev/stablemate/solve/CriterionPutsRegretFirstPinLaw" (9 : Nat) "dev/stablemate/solve/Criterion" "EGALITARIAN" "Ldev/stablemate/solve/Criterion;")).before a0 Z = true := hw _ (List.mem_of_getElem? (i := 2) rfl)
theorem tw3 {a0 : Array Value} {Z : State} (hw : ∀ d ∈ tables_1, d.before a0 Z = true) : ((Jvm.Cond.initialized "dev/stablemate/solve/Criterion")).before a0 Z = true := hw _ (List.mem_of_getElem? (i := 3) rfl)
theorem tw4 {a0 : Array Value} {Z : State} (hw : ∀ d ∈ tables_1, d.before a0 Z = true) : ((Jvm.Cond.laysStatic "dev/stablemate/solve/Criterion" "EGALITARIAN" "Ldev/stablemate/solve/Criterion;")).before a0 Z = true := hw _ (List.mem_of_getElem? (i := 4) rfl)
theorem tw6 {a0 : Array Value} {Z : State} (hw : ∀ d ∈ tables_1, d.before a0 Z = true) : ((Jvm.Cond.fieldLink "dev/stablemate/solve/CriterionPutsRegretFirstPinLaw" (13 : Nat) "dev/stablemate/solve/Criterion" "MINIMUM_REGRET" "Ldev/stablemate/solve/Criterion;")).before a0 Z = true := hw _ (List.mem_of_getElem? (i := 6) rfl)
theorem tw7 {a0 : Array Value} {Z : State} (hw : ∀ d ∈ tables_1, d.before a0 Z = true) : ((Jvm.Cond.laysStatic "dev/stablemate/solve/Criterion" "MINIMUM_REGRET" "Ldev/stablemate/solve/Criterion;")).before a0 Z = true := hw _ (List.mem_of_getElem? (i := 7) rfl)
theorem tw8 {a0 : Array Value} {Z : State} (hw : ∀ d ∈ tables_1, d.before a0 Z = true) : ((Jvm.Cond.fieldLink "dev/stablemate/solve/CriterionPutsRegretFirstPinLaw" (16 : Nat) "dev/stablemate/solve/Criterion" "FIRST_CHOICE_MAXIMAL" "Ldev/stablemate/solve/Criterion;")).before a0 Z = true := hw _ (List.mem_of_getElem? (i := 8) rfl)
theorem tw9 {a0 : Array Value} {Z : State} (hw : ∀ d ∈ tables_1, d.before a0 Z = true) : ((Jvm.Cond.laysStatic "dev/stablemate/solve/Criterion" "FIRST_CHOICE_MAXIMAL" "Ldev/stablemate/solve/Criterion;")).before a0 Z = true := hw _ (List.mem_of_getElem? (i := 9) rfl)
theorem tw10 {a0 : Array Value} {Z : State} (hw : ∀ d ∈ tables_1, d.before a0 Z = true) : ((Jvm.Cond.fieldLink "dev/stablemate/solve/CriterionPutsRegretFirstPinLaw" (19 : Nat) "dev/stablemate/solve/Criterion" "RANK_MAXIMAL" "Ldev/stablemate/solve/Criterion;")).before a0 Z = true := hw _ (List.mem_of_getElem? (i := 10) rfl)
theorem tw11 {a0 : Array Value} {Z : State} (hw : ∀ d ∈ tables_1, d.before a0 Z = true) : ((Jvm.Cond.laysStatic "dev/stablemate/solve/Criterion" "RANK_MAXIMAL" "Ldev/stablemate/solve/Criterion;")).before a0 Z = true := hw _ (List.mem_of_getElem? (i := 11) rfl)
theorem tw12 {a0 : Array Value} {Z : State} (hw : ∀ d ∈ tables_1, d.before a0 Z = true) : ((Jvm.Cond.fieldLink "dev/stablemate/solve/CriterionPutsRegretFirstPinLaw" (22 : Nat) "dev/stablemate/solve/Criterion" "GENEROUS" "Ldev/stablemate/solve/Criterion;")).before a0 Z = true := hw _ (List.mem_of_getElem? (i := 12) rfl)
theorem tw13 {a0 : Array Value} {Z : State} (hw : ∀ d ∈ tables_1, d.before a0 Z = true) : ((Jvm.Cond.laysStatic "dev/stablemate/solve/Criterion" "GENEROUS" "Ldev/stablemate/solve/Criterion;")).before a0 Z = true := hw _ (List.mem_of_getElem? (i := 13) rfl)
theorem tw14 {a0 : Array Value} {Z : State} (hw : ∀ d ∈ tables_1, d.before a0 Z = true) : ((Jvm.Cond.constant "dev/stablemate/solve/CriterionPutsRegretFirstPinLaw" (25 : Nat) (2147483647 : Int32))).before a0 Z = true := hw _ (List.mem_of_getElem? (i := 14) rfl)
theorem tw15 {a0 : Array Value} {Z : State} (hw : ∀ d ∈ tables_1, d.before a0 Z = true) : ((Jvm.Cond.arrayClass Jvm.ClassFile.FieldType.int)).before a0 Z = true := hw _ (List.mem_of_getElem? (i := 15) rfl)
theorem tw16 {a0 : Array Value} {Z : State} (hw : ∀ d ∈ tables_1, d.before a0 Z = true) : ((Jvm.Cond.methodLink "dev/stablemate/solve/CriterionPutsRegretFirstPinLaw" (26 : Nat) ({ cls := "dev/stablemate/solve/Profile", name := "ofRanks", desc := "(I[II)Ldev/stablemate/solve/Profile;" } : Jvm.MethodName))).before a0 Z = true := hw _ (List.mem_of_getElem? (i := 16) rfl)
theorem tw17 {a0 : Array Value} {Z : State} (hw : ∀ d ∈ tables_1, d.before a0 Z = true) : ((Jvm.Cond.static ({ cls := "dev/stablemate/solve/Profile", name := "ofRanks", desc := "(I[II)Ldev/stablemate/solve/Profile;" } : Jvm.MethodName))).before a0 Z = true := hw _ (List.mem_of_getElem? (i := 17) rfl)
theorem tw18 {a0 : Array Value} {Z : State} (hw : ∀ d ∈ tables_1, d.before a0 Z = true) : ((Jvm.Cond.initialized "dev/stablemate/solve/Profile")).before a0 Z = true := hw _ (List.mem_of_getElem? (i := 18) rfl)
theorem tw19 {a0 : Array Value} {Z : State} (hw : ∀ d ∈ tables_1, d.before a0 Z = true) : ((Jvm.Cond.code ({ cls := "dev/stablemate/solve/Profile", name := "ofRanks", desc := "(I[II)Ldev/stablemate/solve/Profile;" } : Jvm.MethodName) prog_26_method_3_code (5 : Nat) (Option.some (Jvm.ClassFile.FieldType.object "dev/stablemate/solve/Profile")))).before a0 Z = true := hw _ (List.mem_of_getElem? (i := 19) rfl)
theorem tw20 {a0 : Array Value} {Z : State} (hw : ∀ d ∈ tables_1, d.before a0 Z = true) : ((Jvm.Cond.classLink "dev/stablemate/solve/Profile" (8 : Nat) "dev/stablemate/solve/Profile")).before a0 Z = true := hw _ (List.mem_of_getElem? (i := 20) rfl)
theorem tw21 {a0 : Array Value} {Z : State} (hw : ∀ d ∈ tables_1, d.before a0 Z = true) : ((Jvm.Cond.instantiable "dev/stablemate/solve/Profile" (3 : Nat))).before a0 Z = true := hw _ (List.mem_of_getElem? (i := 21) rfl)
theorem tw22 {a0 : Array Value} {Z : State} (hw : ∀ d ∈ tables_1, d.before a0 Z = true) : ((Jvm.Cond.methodLink "dev/stablemate/solve/Profile" (51 : Nat) ({ cls := "dev/stablemate/solve/Profile", name := "<init>", desc := "(I[I)V" } : Jvm.MethodName))).before a0 Z = true := hw _ (List.mem_of_getElem? (i := 22) rfl)
theorem tw23 {a0 : Array Value} {Z : State} (hw : ∀ d ∈ tables_1, d.before a0 Z = true) : ((Jvm.Cond.instanceMethod ({ cls := "dev/stablemate/solve/Profile", name := "<init>", desc := "(I[I)V" } : Jvm.MethodName))).before a0 Z = true := hw _ (List.mem_of_getElem? (i := 23) rfl)
theorem tw24 {a0 : Array Value} {Z : State} (hw : ∀ d ∈ tables_1, d.before a0 Z = true) : ((Jvm.Cond.code ({ cls := "dev/stablemate/solve/Profile", name := "<init>", desc := "(I[I)V" } : Jvm.MethodName) prog_26_method_1_code (7 : Nat) (Option.none : Option Jvm.ClassFile.FieldType))).before a0 Z = true := hw _ (List.mem_of_getElem? (i := 24) rfl)
theorem tw25 {a0 : Array Value} {Z : State} (hw : ∀ d ∈ tables_1, d.before a0 Z = true) : ((Jvm.Cond.methodLink "dev/stablemate/solve/Profile" (1 : Nat) ({ cls := "java/lang/Object", name := "<init>", desc := "()V" } : Jvm.MethodName))).before a0 Z = true := hw _ (List.mem_of_getElem? (i := 25) rfl)
theorem tw26 {a0 : Array Value} {Z : State} (hw : ∀ d ∈ tables_1, d.before a0 Z = true) : ((Jvm.Cond.instanceMethod ({ cls := "java/lang/Object", name := "<init>", desc := "()V" } : Jvm.MethodName))).before a0 Z = true := hw _ (List.mem_of_getElem? (i := 26) rfl)
theorem tw27 {a0 : Array Value} {Z : State} (hw : ∀ d ∈ tables_1, d.before a0 Z = true) : ((Jvm.Cond.code ({ cls := "java/lang/Object", name := "<init>", desc := "()V" } : Jvm.MethodName) object_method_1_code (1 : Nat) (Option.none : Option Jvm.ClassFile.FieldType))).before a0 Z = true := hw _ (List.mem_of_getElem? (i := 27) rfl)
theorem tw28 {a0 : Array Value} {Z : State} (hw : ∀ d ∈ tables_1, d.before a0 Z = true) : ((Jvm.Cond.fieldLink "dev/stablemate/solve/Profile" (7 : Nat) "dev/stablemate/solve/Profile" "length" "I")).before a0 Z = true := hw _ (List.mem_of_getElem? (i := 28) rfl)
theorem tw29 {a0 : Array Value} {Z : State} (hw : ∀ d ∈ tables_1, d.before a0 Z = true) : ((Jvm.Cond.laysFinal "dev/stablemate/solve/Profile" "dev/stablemate/solve/Profile" "length" "I")).before a0 Z = true := hw _ (List.mem_of_getElem? (i := 29) rfl)
theorem tw30 {a0 : Array Value} {Z : State} (hw : ∀ d ∈ tables_1, d.before a0 Z = true) : ((Jvm.Cond.methodLink "dev/stablemate/solve/Profile" (13 : Nat) ({ cls := "java/util/Arrays", name := "copyOf", desc := "([II)[I" } : Jvm.MethodName))).before a0 Z = true := hw _ (List.mem_of_getElem? (i := 30) rfl)
theorem tw31 {a0 : Array Value} {Z : State} (hw : ∀ d ∈ tables_1, d.before a0 Z = true) : ((Jvm.Cond.static ({ cls := "java/util/Arrays", name := "copyOf", desc := "([II)[I" } : Jvm.MethodName))).before a0 Z = true := hw _ (List.mem_of_getElem? (i := 31) rfl)
theorem tw32 {a0 : Array Value} {Z : State} (hw : ∀ d ∈ tables_1, d.before a0 Z = true) : ((Jvm.Cond.initialized "java/util/Arrays")).before a0 Z = true := hw _ (List.mem_of_getElem? (i := 32) rfl)
theorem tw33 {a0 : Array Value} {Z : State} (hw : ∀ d ∈ tables_1, d.before a0 Z = true) : ((Jvm.Cond.code ({ cls := "java/util/Arrays", name := "copyOf", desc := "([II)[I" } : Jvm.MethodName) jdk_65_method_123_code (3 : Nat) (Option.some (Jvm.ClassFile.FieldType.array Jvm.ClassFile.FieldType.int)))).before a0 Z = true := hw _ (List.mem_of_getElem? (i := 33) rfl)
theorem tw34 {a0 : Array Value} {Z : State} (hw : ∀ d ∈ tables_1, d.before a0 Z = true) : ((Jvm.Cond.methodLink "java/util/Arrays" (304 : Nat) ({ cls := "java/lang/Math", name := "min", desc := "(II)I" } : Jvm.MethodName))).before a0 Z = true := hw _ (List.mem_of_getElem? (i := 34) rfl)
theorem tw35 {a0 : Array Value} {Z : State} (hw : ∀ d ∈ tables_1, d.before a0 Z = true) : ((Jvm.Cond.static ({ cls := "java/lang/Math", name := "min", desc := "(II)I" } : Jvm.MethodName))).before a0 Z = true := hw _ (List.mem_of_getElem? (i := 35) rfl)
theorem tw36 {a0 : Array Value} {Z : State} (hw : ∀ d ∈ tables_1, d.before a0 Z = true) : ((Jvm.Cond.initialized "java/lang/Math")).before a0 Z = true := hw _ (List.mem_of_getElem? (i := 36) rfl)
theorem tw37 {a0 : Array Value} {Z : State} (hw : ∀ d ∈ tables_1, d.before a0 Z = true) : ((Jvm.Cond.code ({ cls := "java/lang/Math", name := "min", desc := "(II)I" } : Jvm.MethodName) jdk_29_method_69_code (2 : Nat) (Option.some Jvm.ClassFile.FieldType.int))).before a0 Z = true := hw _ (List.mem_of_getElem? (i := 37) rfl)
theorem tw38 {a0 : Array Value} {Z : State} (hw : ∀ d ∈ tables_1, d.before a0 Z = true) : ((Jvm.Cond.methodLink "java/util/Arrays" (150 : Nat) ({ cls := "java/lang/System", name := "arraycopy", desc := "(Ljava/lang/Object;ILjava/lang/Object;II)V" } : Jvm.MethodName))).before a0 Z = true := hw _ (List.mem_of_getElem? (i := 38) rfl)
theorem tw39 {a0 : Array Value} {Z : State} (hw : ∀ d ∈ tables_1, d.before a0 Z = true) : ((Jvm.Cond.static ({ cls := "java/lang/System", name := "arraycopy", desc := "(Ljava/lang/Object;ILjava/lang/Object;II)V" } : Jvm.MethodName))).before a0 Z = true := hw _ (List.mem_of_getElem? (i := 39) rfl)
theorem tw40 {a0 : Array Value} {Z : State} (hw : ∀ d ∈ tables_1, d.before a0 Z = true) : ((Jvm.Cond.initialized "java/lang/System")).before a0 Z = true := hw _ (List.mem_of_getElem? (i := 40) rfl)
theorem tw41 {a0 : Array Value} {Z : State} (hw : ∀ d ∈ tables_1, d.before a0 Z = true) : ((Jvm.Cond.native ({ cls := "java/lang/System", name := "arraycopy", desc := "(Ljava/lang/Object;ILjava/lang/Object;II)V" } : Jvm.MethodName))).before a0 Z = true := hw _ (List.mem_of_getElem? (i := 41) rfl)
theorem tw42 {a0 : Array Value} {Z : State} (hw : ∀ d ∈ tables_1, d.before a0 Z = true) : ((Jvm.Cond.fieldLink "dev/stablemate/solve/Profile" (19 : Nat) "dev/stablemate/solve/Profile" "counts" "[I")).before a0 Z = true := hw _ (List.mem_of_getElem? (i := 42) rfl)
theorem tw43 {a0 : Array Value} {Z : State} (hw : ∀ d ∈ tables_1, d.before a0 Z = true) : ((Jvm.Cond.laysFinal "dev/stablemate/solve/Profile" "dev/stablemate/solve/Profile" "counts" "[I")).before a0 Z = true := hw _ (List.mem_of_getElem? (i := 43) rfl)
theorem tw44 {a0 : Array Value} {Z : State} (hw : ∀ d ∈ tables_1, d.before a0 Z = true) : ((Jvm.Cond.fieldLink "dev/stablemate/solve/Profile" (23 : Nat) "dev/stablemate/solve/Profile" "cost" "J")).before a0 Z = true := hw _ (List.mem_of_getElem? (i := 44) rfl)
theorem tw45 {a0 : Array Value} {Z : State} (hw : ∀ d ∈ tables_1, d.before a0 Z = true) : ((Jvm.Cond.laysFinal "dev/stablemate/solve/Profile" "dev/stablemate/solve/Profile" "cost" "J")).before a0 Z = true := hw _ (List.mem_of_getElem? (i := 45) rfl)
theorem tw46 {a0 : Array Value} {Z : State} (hw : ∀ d ∈ tables_1, d.before a0 Z = true) : ((Jvm.Cond.methodLink "java/util/Arrays" (316 : Nat) ({ cls := "[I", name := "clone", desc := "()Ljava/lang/Object;" } : Jvm.MethodName))).before a0 Z = true := hw _ (List.mem_of_getElem? (i := 46) rfl)
theorem tw47 {a0 : Array Value} {Z : State} (hw : ∀ d ∈ tables_1, d.before a0 Z = true) : ((Jvm.Cond.sameMethod "[I" "java/lang/Object" "clone" "()Ljava/lang/Object;")).before a0 Z = true := hw _ (List.mem_of_getElem? (i := 47) rfl)
theorem tw49 {a0 : Array Value} {Z : State} (hw : ∀ d ∈ tables_1, d.before a0 Z = true) : ((Jvm.Cond.instanceMethod ({ cls := "java/lang/Object", name := "clone", desc := "()Ljava/lang/Object;" } : Jvm.MethodName))).before a0 Z = true := hw _ (List.mem_of_getElem? (i := 49) rfl)
theorem tw50 {a0 : Array Value} {Z : State} (hw : ∀ d ∈ tables_1, d.before a0 Z = true) : ((Jvm.Cond.selects "[I" ({ cls := "[I", name := "clone", desc := "()Ljava/lang/Object;" } : Jvm.MethodName) ({ cls := "java/lang/Object", name := "clone", desc := "()Ljava/lang/Object;" } : Jvm.MethodName))).before a0 Z = true := hw _ (List.mem_of_getElem? (i := 50) rfl)
theorem tw51 {a0 : Array Value} {Z : State} (hw : ∀ d ∈ tables_1, d.before a0 Z = true) : ((Jvm.Cond.native ({ cls := "java/lang/Object", name := "clone", desc := "()Ljava/lang/Object;" } : Jvm.MethodName))).before a0 Z = true := hw _ (List.mem_of_getElem? (i := 51) rfl)
theorem tw52 {a0 : Array Value} {Z : State} (hw : ∀ d ∈ tables_1, d.before a0 Z = true) : ((Jvm.Cond.castable "[I" "java/lang/Cloneable")).before a0 Z = true := hw _ (List.mem_of_getElem? (i := 52) rfl)
theorem tw53 {a0 : Array Value} {Z : State} (hw : ∀ d ∈ tables_1, d.before a0 Z = true) : ((Jvm.Cond.classLink "java/util/Arrays" (317 : Nat) "[I")).before a0 Z = true := hw _ (List.mem_of_getElem? (i := 53) rfl)
theorem tw55 {a0 : Array Value} {Z : State} (hw : ∀ d ∈ tables_1, d.before a0 Z = true) : ((Jvm.Cond.methodLink "dev/stablemate/solve/CriterionPutsRegretFirstPinLaw" (32 : Nat) ({ cls := "dev/stablemate/solve/Criterion", name := "putsRegretFirst", desc := "()Z" } : Jvm.MethodName))).before a0 Z = true := hw _ (List.mem_of_getElem? (i := 55) rfl)
theorem tw56 {a0 : Array Value} {Z : State} (hw : ∀ d ∈ tables_1, d.before a0 Z = true) : ((Jvm.Cond.declares ({ cls := "dev/stablemate/solve/Criterion", name := "putsRegretFirst", desc := "()Z" } : Jvm.MethodName))).before a0 Z = true := hw _ (List.mem_of_getElem? (i := 56) rfl)
theorem tw57 {a0 : Array Value} {Z : State} (hw : ∀ d ∈ tables_1, d.before a0 Z = true) : ((Jvm.Cond.instanceMethod ({ cls := "dev/stablemate/solve/Criterion", name := "putsRegretFirst", desc := "()Z" } : Jvm.MethodName))).before a0 Z = true := hw _ (List.mem_of_getElem? (i := 57) rfl)
theorem tw58 {a0 : Array Value} {Z : State} (hw : ∀ d ∈ tables_1, d.before a0 Z = true) : ((Jvm.Cond.selects "dev/stablemate/solve/Criterion" ({ cls := "dev/stablemate/solve/Criterion", name := "putsRegretFirst", desc := "()Z" } : Jvm.MethodName) ({ cls := "dev/stablemate/solve/Criterion", name := "putsRegretFirst", desc := "()Z" } : Jvm.MethodName))).before a0 Z = true := hw _ (List.mem_of_getElem? (i := 58) rfl)
theorem tw59 {a0 : Array Value} {Z : State} (hw : ∀ d ∈ tables_1, d.before a0 Z = true) : ((Jvm.Cond.code ({ cls := "dev/stablemate/solve/Criterion", name := "putsRegretFirst", desc := "()Z" } : Jvm.MethodName) prog_18_method_7_code (1 : Nat) (Option.some Jvm.ClassFile.FieldType.boolean))).before a0 Z = true := hw _ (List.mem_of_getElem? (i := 59) rfl)
theorem tw60 {a0 : Array Value} {Z : State} (hw : ∀ d ∈ tables_1, d.before a0 Z = true) : ((Jvm.Cond.fieldLink "dev/stablemate/solve/Criterion" (7 : Nat) "dev/stablemate/solve/Criterion" "MINIMUM_REGRET" "Ldev/stablemate/solve/Criterion;")).before a0 Z = true := hw _ (List.mem_of_getElem? (i := 60) rfl)
theorem tw61 {a0 : Array Value} {Z : State} (hw : ∀ d ∈ tables_1, d.before a0 Z = true) : ((Jvm.Cond.fieldLink "dev/stablemate/solve/Criterion" (16 : Nat) "dev/stablemate/solve/Criterion" "GENEROUS" "Ldev/stablemate/solve/Criterion;")).before a0 Z = true := hw _ (List.mem_of_getElem? (i := 61) rfl)
theorem tw62 {a0 : Array Value} {Z : State} (hw : ∀ d ∈ tables_1, d.before a0 Z = true) : ((Jvm.Cond.methodLink "dev/stablemate/solve/CriterionPutsRegretFirstPinLaw" (36 : Nat) ({ cls := "dev/stablemate/solve/Criterion", name := "compare", desc := "(Ldev/stablemate/solve/Profile;Ldev/stablemate/solve/Profile;)I" } : Jvm.MethodName))).before a0 Z = true := hw _ (List.mem_of_getElem? (i := 62) rfl)
theorem tw63 {a0 : Array Value} {Z : State} (hw : ∀ d ∈ tables_1, d.before a0 Z = true) : ((Jvm.Cond.declares ({ cls := "dev/stablemate/solve/Criterion", name := "compare", desc := "(Ldev/stablemate/solve/Profile;Ldev/stablemate/solve/Profile;)I" } : Jvm.MethodName))).before a0 Z = true := hw _ (List.mem_of_getElem? (i := 63) rfl)
theorem tw64 {a0 : Array Value} {Z : State} (hw : ∀ d ∈ tables_1, d.before a0 Z = true) : ((Jvm.Cond.instanceMethod ({ cls := "dev/stablemate/solve/Criterion", name := "compare", desc := "(Ldev/stablemate/solve/Profile;Ldev/stablemate/solve/Profile;)I" } : Jvm.MethodName))).before a0 Z = true := hw _ (List.mem_of_getElem? (i := 64) rfl)
theorem tw65 {a0 : Array Value} {Z : State} (hw : ∀ d ∈ tables_1, d.before a0 Z = true) : ((Jvm.Cond.selects "dev/stablemate/solve/Criterion" ({ cls := "dev/stablemate/solve/Criterion", name := "compare", desc := "(Ldev/stablemate/solve/Profile;Ldev/stablemate/solve/Profile;)I" } : Jvm.MethodName) ({ cls := "dev/stablemate/solve/Criterion", name := "compare", desc := "(Ldev/stablemate/solve/Profile;Ldev/stablemate/solve/Profile;)I" } : Jvm.MethodName))).before a0 Z = true := hw _ (List.mem_of_getElem? (i := 65) rfl)
theorem tw66 {a0 : Array Value} {Z : State} (hw : ∀ d ∈ tables_1, d.before a0 Z = true) : ((Jvm.Cond.code ({ cls := "dev/stablemate/solve/Criterion", name := "compare", desc := "(Ldev/stablemate/solve/Profile;Ldev/stablemate/solve/Profile;)I" } : Jvm.MethodName) prog_18_method_6_code (6 : Nat) (Option.some Jvm.ClassFile.FieldType.int))).before a0 Z = true := hw _ (List.mem_of_getElem? (i := 66) rfl)
theorem tw67 {a0 : Array Value} {Z : State} (hw : ∀ d ∈ tables_1, d.before a0 Z = true) : ((Jvm.Cond.methodLink "dev/stablemate/solve/Criterion" (62 : Nat) ({ cls := "dev/stablemate/solve/Profile", name := "regret", desc := "()I" } : Jvm.MethodName))).before a0 Z = true := hw _ (List.mem_of_getElem? (i := 67) rfl)
theorem tw68 {a0 : Array Value} {Z : State} (hw : ∀ d ∈ tables_1, d.before a0 Z = true) : ((Jvm.Cond.declares ({ cls := "dev/stablemate/solve/Profile", name := "regret", desc := "()I" } : Jvm.MethodName))).before a0 Z = true := hw _ (List.mem_of_getElem? (i := 68) rfl)
theorem tw69 {a0 : Array Value} {Z : State} (hw : ∀ d ∈ tables_1, d.before a0 Z = true) : ((Jvm.Cond.instanceMethod ({ cls := "dev/stablemate/solve/Profile", name := "regret", desc := "()I" } : Jvm.MethodName))).before a0 Z = true := hw _ (List.mem_of_getElem? (i := 69) rfl)
theorem tw70 {a0 : Array Value} {Z : State} (hw : ∀ d ∈ tables_1, d.before a0 Z = true) : ((Jvm.Cond.selects "dev/stablemate/solve/Profile" ({ cls := "dev/stablemate/solve/Profile", name := "regret", desc := "()I" } : Jvm.MethodName) ({ cls := "dev/stablemate/solve/Profile", name := "regret", desc := "()I" } : Jvm.MethodName))).before a0 Z = true := hw _ (List.mem_of_getElem? (i := 70) rfl)
theorem tw71 {a0 : Array Value} {Z : State} (hw : ∀ d ∈ tables_1, d.before a0 Z = true) : ((Jvm.Cond.code ({ cls := "dev/stablemate/solve/Profile", name := "regret", desc := "()I" } : Jvm.MethodName) prog_26_method_8_code (1 : Nat) (Option.some Jvm.ClassFile.FieldType.int))).before a0 Z = true := hw _ (List.mem_of_getElem? (i := 71) rfl)
theorem tw72 {a0 : Array Value} {Z : State} (hw : ∀ d ∈ tables_1, d.before a0 Z = true) : ((Jvm.Cond.methodLink "dev/stablemate/solve/Criterion" (68 : Nat) ({ cls := "java/lang/Math", name := "max", desc := "(II)I" } : Jvm.MethodName))).before a0 Z = true := hw _ (List.mem_of_getElem? (i := 72) rfl)
theorem tw73 {a0 : Array Value} {Z : State} (hw : ∀ d ∈ tables_1, d.before a0 Z = true) : ((Jvm.Cond.static ({ cls := "java/lang/Math", name := "max", desc := "(II)I" } : Jvm.MethodName))).before a0 Z = true := hw _ (List.mem_of_getElem? (i := 73) rfl)
theorem tw74 {a0 : Array Value} {Z : State} (hw : ∀ d ∈ tables_1, d.before a0 Z = true) : ((Jvm.Cond.code ({ cls := "java/lang/Math", name := "max", desc := "(II)I" } : Jvm.MethodName) jdk_29_method_65_code (2 : Nat) (Option.some Jvm.ClassFile.FieldType.int))).before a0 Z = true := hw _ (List.mem_of_getElem? (i := 74) rfl)
theorem tw75 {a0 : Array Value} {Z : State} (hw : ∀ d ∈ tables_1, d.before a0 Z = true) : ((Jvm.Cond.methodLink "dev/stablemate/solve/Criterion" (74 : Nat) ({ cls := "dev/stablemate/solve/Criterion", name := "ordinal", desc := "()I" } : Jvm.MethodName))).before a0 Z = true := hw _ (List.mem_of_getElem? (i := 75) rfl)
theorem tw76 {a0 : Array Value} {Z : State} (hw : ∀ d ∈ tables_1, d.before a0 Z = true) : ((Jvm.Cond.sameMethod "dev/stablemate/solve/Criterion" "java/lang/Enum" "ordinal" "()I")).before a0 Z = true := hw _ (List.mem_of_getElem? (i := 76) rfl)
theorem tw77 {a0 : Array Value} {Z : State} (hw : ∀ d ∈ tables_1, d.before a0 Z = true) : ((Jvm.Cond.declares ({ cls := "java/lang/Enum", name := "ordinal", desc := "()I" } : Jvm.MethodName))).before a0 Z = true := hw _ (List.mem_of_getElem? (i := 77) rfl)
theorem tw78 {a0 : Array Value} {Z : State} (hw : ∀ d ∈ tables_1, d.before a0 Z = true) : ((Jvm.Cond.instanceMethod ({ cls := "java/lang/Enum", name := "ordinal", desc := "()I" } : Jvm.MethodName))).before a0 Z = true := hw _ (List.mem_of_getElem? (i := 78) rfl)
theorem tw79 {a0 : Array Value} {Z : State} (hw : ∀ d ∈ tables_1, d.before a0 Z = true) : ((Jvm.Cond.selects "dev/stablemate/solve/Criterion" ({ cls := "dev/stablemate/solve/Criterion", name := "ordinal", desc := "()I" } : Jvm.MethodName) ({ cls := "java/lang/Enum", name := "ordinal", desc := "()I" } : Jvm.MethodName))).before a0 Z = true := hw _ (List.mem_of_getElem? (i := 79) rfl)
theorem tw80 {a0 : Array Value} {Z : State} (hw : ∀ d ∈ tables_1, d.before a0 Z = true) : ((Jvm.Cond.initialized "java/lang/Enum")).before a0 Z = true := hw _ (List.mem_of_getElem? (i := 80) rfl)
theorem tw81 {a0 : Array Value} {Z : State} (hw : ∀ d ∈ tables_1, d.before a0 Z = true) : ((Jvm.Cond.code ({ cls := "java/lang/Enum", name := "ordinal", desc := "()I" } : Jvm.MethodName) jdk_37_method_2_code (1 : Nat) (Option.some Jvm.ClassFile.FieldType.int))).before a0 Z = true := hw _ (List.mem_of_getElem? (i := 81) rfl)
theorem tw82 {a0 : Array Value} {Z : State} (hw : ∀ d ∈ tables_1, d.before a0 Z = true) : ((Jvm.Cond.fieldLink "java/lang/Enum" (7 : Nat) "java/lang/Enum" "ordinal" "I")).before a0 Z = true := hw _ (List.mem_of_getElem? (i := 82) rfl)
theorem tw84 {a0 : Array Value} {Z : State} (hw : ∀ d ∈ tables_1, d.before a0 Z = true) : ((Jvm.Cond.methodLink "dev/stablemate/solve/Criterion" (77 : Nat) ({ cls := "dev/stablemate/solve/Profile", name := "cost", desc := "()J" } : Jvm.MethodName))).before a0 Z = true := hw _ (List.mem_of_getElem? (i := 84) rfl)
theorem tw85 {a0 : Array Value} {Z : State} (hw : ∀ d ∈ tables_1, d.before a0 Z = true) : ((Jvm.Cond.declares ({ cls := "dev/stablemate/solve/Profile", name := "cost", desc := "()J" } : Jvm.MethodName))).before a0 Z = true := hw _ (List.mem_of_getElem? (i := 85) rfl)
theorem tw86 {a0 : Array Value} {Z : State} (hw : ∀ d ∈ tables_1, d.before a0 Z = true) : ((Jvm.Cond.instanceMethod ({ cls := "dev/stablemate/solve/Profile", name := "cost", desc := "()J" } : Jvm.MethodName))).before a0 Z = true := hw _ (List.mem_of_getElem? (i := 86) rfl)
theorem tw87 {a0 : Array Value} {Z : State} (hw : ∀ d ∈ tables_1, d.before a0 Z = true) : ((Jvm.Cond.selects "dev/stablemate/solve/Profile" ({ cls := "dev/stablemate/solve/Profile", name := "cost", desc := "()J" } : Jvm.MethodName) ({ cls := "dev/stablemate/solve/Profile", name := "cost", desc := "()J" } : Jvm.MethodName))).before a0 Z = true := hw _ (List.mem_of_getElem? (i := 87) rfl)
theorem tw88 {a0 : Array Value} {Z : State} (hw : ∀ d ∈ tables_1, d.before a0 Z = true) : ((Jvm.Cond.code ({ cls := "dev/stablemate/solve/Profile", name := "cost", desc := "()J" } : Jvm.MethodName) prog_26_method_7_code (1 : Nat) (Option.some Jvm.ClassFile.FieldType.long))).before a0 Z = true := hw _ (List.mem_of_getElem? (i := 88) rfl)
theorem tw89 {a0 : Array Value} {Z : State} (hw : ∀ d ∈ tables_1, d.before a0 Z = true) : ((Jvm.Cond.methodLink "dev/stablemate/solve/Criterion" (81 : Nat) ({ cls := "java/lang/Long", name := "compare", desc := "(JJ)I" } : Jvm.MethodName))).before a0 Z = true := hw _ (List.mem_of_getElem? (i := 89) rfl)
theorem tw90 {a0 : Array Value} {Z : State} (hw : ∀ d ∈ tables_1, d.before a0 Z = true) : ((Jvm.Cond.static ({ cls := "java/lang/Long", name := "compare", desc := "(JJ)I" } : Jvm.MethodName))).before a0 Z = true := hw _ (List.mem_of_getElem? (i := 90) rfl)
theorem tw91 {a0 : Array Value} {Z : State} (hw : ∀ d ∈ tables_1, d.before a0 Z = true) : ((Jvm.Cond.initialized "java/lang/Long")).before a0 Z = true := hw _ (List.mem_of_getElem? (i := 91) rfl)
theorem tw92 {a0 : Array Value} {Z : State} (hw : ∀ d ∈ tables_1, d.before a0 Z = true) : ((Jvm.Cond.code ({ cls := "java/lang/Long", name := "compare", desc := "(JJ)I" } : Jvm.MethodName) jdk_35_method_42_code (4 : Nat) (Option.some Jvm.ClassFile.FieldType.int))).before a0 Z = true := hw _ (List.mem_of_getElem? (i := 92) rfl)
theorem tw93 {a0 : Array Value} {Z : State} (hw : ∀ d ∈ tables_1, d.before a0 Z = true) : ((Jvm.Cond.methodLink "dev/stablemate/solve/Criterion" (87 : Nat) ({ cls := "java/lang/Integer", name := "compare", desc := "(II)I" } : Jvm.MethodName))).before a0 Z = true := hw _ (List.mem_of_getElem? (i := 93) rfl)
theorem tw94 {a0 : Array Value} {Z : State} (hw : ∀ d ∈ tables_1, d.before a0 Z = true) : ((Jvm.Cond.static ({ cls := "java/lang/Integer", name := "compare", desc := "(II)I" } : Jvm.MethodName))).before a0 Z = true := hw _ (List.mem_of_getElem? (i := 94) rfl)
theorem tw95 {a0 : Array Value} {Z : State} (hw : ∀ d ∈ tables_1, d.before a0 Z = true) : ((Jvm.Cond.initialized "java/lang/Integer")).before a0 Z = true := hw _ (List.mem_of_getElem? (i := 95) rfl)
theorem tw96 {a0 : Array Value} {Z : State} (hw : ∀ d ∈ tables_1, d.before a0 Z = true) : ((Jvm.Cond.code ({ cls := "java/lang/Integer", name := "compare", desc := "(II)I" } : Jvm.MethodName) jdk_33_method_40_code (2 : Nat) (Option.some Jvm.ClassFile.FieldType.int))).before a0 Z = true := hw _ (List.mem_of_getElem? (i := 96) rfl)
theorem tw97 {a0 : Array Value} {Z : State} (hw : ∀ d ∈ tables_1, d.before a0 Z = true) : ((Jvm.Cond.methodLink "dev/stablemate/solve/CriterionPutsRegretFirstPinLaw" (40 : Nat) ({ cls := "dev/stablemate/solve/Profile", name := "regret", desc := "()I" } : Jvm.MethodName))).before a0 Z = true := hw _ (List.mem_of_getElem? (i := 97) rfl)
theorem tw98 {a0 : Array Value} {Z : State} (hw : ∀ d ∈ tables_1, d.before a0 Z = true) : ((Jvm.Cond.methodLink "dev/stablemate/solve/Criterion" (91 : Nat) ({ cls := "dev/stablemate/solve/Profile", name := "count", desc := "(I)I" } : Jvm.MethodName))).before a0 Z = true := hw _ (List.mem_of_getElem? (i := 98) rfl)
theorem tw99 {a0 : Array Value} {Z : State} (hw : ∀ d ∈ tables_1, d.before a0 Z = true) : ((Jvm.Cond.declares ({ cls := "dev/stablemate/solve/Profile", name := "count", desc := "(I)I" } : Jvm.MethodName))).before a0 Z = true := hw _ (List.mem_of_getElem? (i := 99) rfl)
theorem tw100 {a0 : Array Value} {Z : State} (hw : ∀ d ∈ tables_1, d.before a0 Z = true) : ((Jvm.Cond.instanceMethod ({ cls := "dev/stablemate/solve/Profile", name := "count", desc := "(I)I" } : Jvm.MethodName))).before a0 Z = true := hw _ (List.mem_of_getElem? (i := 100) rfl)
theorem tw101 {a0 : Array Value} {Z : State} (hw : ∀ d ∈ tables_1, d.before a0 Z = true) : ((Jvm.Cond.selects "dev/stablemate/solve/Profile" ({ cls := "dev/stablemate/solve/Profile", name := "count", desc := "(I)I" } : Jvm.MethodName) ({ cls := "dev/stablemate/solve/Profile", name := "count", desc := "(I)I" } : Jvm.MethodName))).before a0 Z = true := hw _ (List.mem_of_getElem? (i := 101) rfl)
theorem tw102 {a0 : Array Value} {Z : State} (hw : ∀ d ∈ tables_1, d.before a0 Z = true) : ((Jvm.Cond.code ({ cls := "dev/stablemate/solve/Profile", name := "count", desc := "(I)I" } : Jvm.MethodName) prog_26_method_6_code (2 : Nat) (Option.some Jvm.ClassFile.FieldType.int))).before a0 Z = true := hw _ (List.mem_of_getElem? (i := 102) rfl)
theorem own_nn {x : Int32} (h : 0 ≤ x.toInt) : x.toInt = (x.toBitVec.toNat : Int) := by
  have q := BitVec.toInt_eq_toNat_cond x.toBitVec
  have e : x.toInt = x.toBitVec.toInt := rfl
  rw [e] at h ⊢
  rw [q] at h ⊢
  have := x.toBitVec.isLt
  split at h <;> rename_i c
  · rw [if_pos c]
  · omega
theorem own_nn' {x : Int32} (h : x.toBitVec.toNat < 2147483648) : x.toInt = (x.toBitVec.toNat : Int) := by
  have q := BitVec.toInt_eq_toNat_cond x.toBitVec
  have e : x.toInt = x.toBitVec.toInt := rfl
  rw [e, q, if_pos (by omega)]
theorem own_ofnat {x : Int32} (h : 0 ≤ x.toInt) : x = Int32.ofNat x.toBitVec.toNat := by
  apply Int32.toBitVec_inj.mp
  apply BitVec.eq_of_toNat_eq
  show _ = (BitVec.ofNat 32 x.toBitVec.toNat).toNat
  rw [BitVec.toNat_ofNat, Nat.mod_eq_of_lt x.toBitVec.isLt]
theorem own_b32 (x : Int32) : -2147483648 ≤ x.toInt ∧ x.toInt < 2147483648 := ⟨Int32.le_toInt x, Int32.toInt_lt x⟩
theorem own_b64 (x : Int64) : -9223372036854775808 ≤ x.toInt ∧ x.toInt < 9223372036854775808 := ⟨Int64.le_toInt x, Int64.toInt_lt x⟩
theorem own_add64 {x y : Int64} (h1 : -9223372036854775808 ≤ x.toInt + y.toInt) (h2 : x.toInt + y.toInt < 9223372036854775808) : (x + y).toInt = x.toInt + y.toInt := XT.add64 ⟨h1, h2⟩
theorem own_sub64 {x y : Int64} (h1 : -9223372036854775808 ≤ x.toInt - y.toInt) (h2 : x.toInt - y.toInt < 9223372036854775808) : (x - y).toInt = x.toInt - y.toInt := XT.sub64 ⟨h1, h2⟩
theorem own_mul64 {x y : Int64} (h1 : -9223372036854775808 ≤ x.toInt * y.toInt) (h2 : x.toInt * y.toInt < 9223372036854775808) : (x * y).toInt = x.toInt * y.toInt := XT.mul64 ⟨h1, h2⟩
theorem own_add32 {x y : Int32} (h1 : -2147483648 ≤ x.toInt + y.toInt) (h2 : x.toInt + y.toInt < 2147483648) : (x + y).toInt = x.toInt + y.toInt := XT.add32 ⟨h1, h2⟩
theorem own_sub32 {x y : Int32} (h1 : -2147483648 ≤ x.toInt - y.toInt) (h2 : x.toInt - y.toInt < 2147483648) : (x - y).toInt = x.toInt - y.toInt := XT.sub32 ⟨h1, h2⟩
theorem own_w (x : Int32) : x.toInt64.toInt = x.toInt := Int32.toInt_toInt64 x
theorem own_div64 {x y : Int64} (hx : 0 ≤ x.toInt) (hy : 0 < y.toInt) : (x / y).toInt = x.toInt / y.toInt := by
  rw [Int64.toInt_div, Int.tdiv_eq_ediv_of_nonneg hx]
  have b := own_b64 x
  have h1 : 0 ≤ x.toInt / y.toInt := Int.ediv_nonneg hx (Int.le_of_lt hy)
  have h2 : x.toInt / y.toInt ≤ x.toInt := Int.ediv_le_self _ hx
  exact Int.bmod_eq_of_le (by omega) (by omega)
theorem own_div32 {x y : Int32} (hx : 0 ≤ x.toInt) (hy : 0 < y.toInt) : (x / y).toInt = x.toInt / y.toInt := by
  rw [Int32.toInt_div, Int.tdiv_eq_ediv_of_nonneg hx]
  have b := own_b32 x
  have h1 : 0 ≤ x.toInt / y.toInt := Int.ediv_nonneg hx (Int.le_of_lt hy)
  have h2 : x.toInt / y.toInt ≤ x.toInt := Int.ediv_le_self _ hx
  exact Int.bmod_eq_of_le (by omega) (by omega)
theorem own_rem32 {x y : Int32} (hx : 0 ≤ x.toInt) : (x % y).toInt = x.toInt % y.toInt := by
  rw [Int32.toInt_mod, Int.tmod_eq_emod_of_nonneg hx]
theorem own_pos32 (x : Int32) : 0 ≤ (x &&& 2147483647).toInt := by
  have q := (XT.and_neg32 x 2147483647)
  rw [XT.negI32] at q
  have r : ¬ (x &&& 2147483647).toInt < 0 := fun h => absurd (q.mp h).2 (by decide)
  omega
theorem own_pos64 (x : Int64) : 0 ≤ (x &&& 9223372036854775807).toInt := by
  have q := (XT.and_neg64 x 9223372036854775807)
  rw [XT.negI64] at q
  have r : ¬ (x &&& 9223372036854775807).toInt < 0 := fun h => absurd (q.mp h).2 (by decide)
  omega
theorem own_lt32 {x y : Int32} : x < y ↔ x.toInt < y.toInt := Int32.lt_iff_toInt_lt
theorem own_lt64 {x y : Int64} : x < y ↔ x.toInt < y.toInt := Int64.lt_iff_toInt_lt
theorem own_eq32 {x y : Int32} : x = y ↔ x.toInt = y.toInt := ⟨fun h => h ▸ rfl, Int32.toInt_inj.mp⟩
theorem own_eq64 {x y : Int64} : x = y ↔ x.toInt = y.toInt := ⟨fun h => h ▸ rfl, Int64.toInt_inj.mp⟩
theorem own_four {x v : Int32} (h : v = x &&& 3) : v = 0 ∨ v = 1 ∨ v = 2 ∨ v = 3 := by
  have e : (x &&& 3).toBitVec.toNat = x.toBitVec.toNat % 4 := by
    rw [Int32.toBitVec_and, BitVec.toNat_and]
    show x.toBitVec.toNat &&& 3 = _
    exact Nat.and_two_pow_sub_one_eq_mod x.toBitVec.toNat 2
  have k := own_nn' (x := x &&& 3) (by omega)
  have q := own_ofnat (x := x &&& 3) (by omega)
  subst h
  have : (x &&& 3).toBitVec.toNat = 0 ∨ (x &&& 3).toBitVec.toNat = 1 ∨ (x &&& 3).toBitVec.toNat = 2 ∨ (x &&& 3).toBitVec.toNat = 3 := by omega
  rcases this with h | h | h | h <;> rw [h] at q <;> rw [q] <;> decide
theorem own_three (x : Int32) : (x &&& 3) = 0 ∨ (x &&& 3) = 1 ∨ (x &&& 3) = 2 ∨ (x &&& 3) = 3 := own_four rfl
theorem own_five (x : Int32) : ((x &&& 2147483647) % 5) = 0 ∨ ((x &&& 2147483647) % 5) = 1 ∨ ((x &&& 2147483647) % 5) = 2 ∨ ((x &&& 2147483647) % 5) = 3 ∨ ((x &&& 2147483647) % 5) = 4 := by
  have p := own_pos32 x
  have e := own_rem32 (x := x &&& 2147483647) (y := 5) p
  have c5 : (5 : Int32).toInt = 5 := by decide
  have c0 : (0 : Int32).toInt = 0 := by decide
  have c1 : (1 : Int32).toInt = 1 := by decide
  have c2 : (2 : Int32).toInt = 2 := by decide
  have c3 : (3 : Int32).toInt = 3 := by decide
  have c4 : (4 : Int32).toInt = 4 := by decide
  rw [c5] at e
  simp only [own_eq32, c0, c1, c2, c3, c4]
  omega
theorem own_pick {vs : List Value} {j : Int32} {r0 r1 r2 r3 r4 : Addr} (hv : vs = [.ref r0, .ref r1, .ref r2, .ref r3, .ref r4]) (hj : j = 0 ∨ j = 1 ∨ j = 2 ∨ j = 3 ∨ j = 4) : ∃ (ix : Nat) (cc : Addr), ¬ j < 0 ∧ j.toNatClampNeg = ix ∧ vs[ix]? = some (.ref cc) ∧ (r0 = cc ∨ r1 = cc ∨ r2 = cc ∨ r3 = cc ∨ r4 = cc) := by
  subst hv
  rcases hj with rfl | rfl | rfl | rfl | rfl
  · exact ⟨0, r0, by decide, by decide, rfl, Or.inl rfl⟩
  · exact ⟨1, r1, by decide, by decide, rfl, Or.inr (Or.inl rfl)⟩
  · exact ⟨2, r2, by decide, by decide, rfl, Or.inr (Or.inr (Or.inl rfl))⟩
  · exact ⟨3, r3, by decide, by decide, rfl, Or.inr (Or.inr (Or.inr (Or.inl rfl)))⟩
  · exact ⟨4, r4, by decide, by decide, rfl, Or.inr (Or.inr (Or.inr (Or.inr rfl)))⟩
def own_trim (xs : List Int32) : List Int32 := xs.foldr (fun x t => if t = [] ∧ x = 0 then [] else x :: t) []
def own_costs : Int64 → Int32 → List Int32 → Int64
  | acc, _, [] => acc
  | acc, r, x :: xs => own_costs (acc + r.toInt64 * x.toInt64) (r + 1) xs
def own_cost (xs : List Int32) : Int64 := own_costs 0 1 (own_trim xs)
def own_ix (r : Int32) : Nat := (r - 1).toNatClampNeg
def own_at (xs : List Int32) (r : Int32) : Int32 := xs.getD (own_ix r) 0
def own_inc (xs : List Int32) (r : Int32) : List Int32 := xs.set (own_ix r) (own_at xs r + 1)
def own_rk (r : Int32) : Prop := ¬ (r - 1) < 0 ∧ own_ix r < 4
theorem own_rkx (x : Int32) : own_rk ((x &&& 3) + 1) := by
  rcases own_three x with h | h | h | h <;> rw [h] <;> exact ⟨by decide, by decide⟩
theorem own_incl (xs : List Int32) (r : Int32) : (own_inc xs r).length = xs.length := List.length_set
theorem own_atq {xs : List Int32} {r : Int32} (h : own_ix r < xs.length) : xs[own_ix r]? = some (own_at xs r) := by
  unfold own_at
  rw [List.getD_eq_getElem?_getD, List.getElem?_eq_getElem h]; rfl
theorem own_list4 {xs : List Int32} (h : xs.length = 4) : ∃ c0 c1 c2 c3 : Int32, xs = [c0, c1, c2, c3] := by
  match xs, h with
  | [a, b, c, d], _ => exact ⟨a, b, c, d, rfl⟩
def own_cnt (m r0 r1 r2 : Int32) : List Int32 :=
  if m = 0 then [0, 0, 0, 0] else if m = 1 then own_inc [0, 0, 0, 0] r0 else if m = 2 then own_inc (own_inc [0, 0, 0, 0] r0) r1 else own_inc (own_inc (own_inc [0, 0, 0, 0] r0) r1) r2
theorem own_cnt0 (r0 r1 r2 : Int32) : own_cnt 0 r0 r1 r2 = [0, 0, 0, 0] := rfl
theorem own_cnt1 (r0 r1 r2 : Int32) : own_cnt 1 r0 r1 r2 = own_inc [0, 0, 0, 0] r0 := by unfold own_cnt; rw [if_neg (by decide), if_pos rfl]
theorem own_cnt2 (r0 r1 r2 : Int32) : own_cnt 2 r0 r1 r2 = own_inc (own_inc [0, 0, 0, 0] r0) r1 := by unfold own_cnt; rw [if_neg (by decide), if_neg (by decide), if_pos rfl]
theorem own_cnt3 (r0 r1 r2 : Int32) : own_cnt 3 r0 r1 r2 = own_inc (own_inc (own_inc [0, 0, 0, 0] r0) r1) r2 := by unfold own_cnt; rw [if_neg (by decide), if_neg (by decide), if_neg (by decide)]
def own_last (xs : List Int32) : Int32 := xs.getD (xs.length - 1) 0
theorem own_lastq {xs : List Int32} (h : 1 ≤ xs.length ∧ xs.length ≤ 4) : xs[xs.length - 1]? = some (own_last xs) := by
  unfold own_last
  rw [List.getD_eq_getElem?_getD, List.getElem?_eq_getElem (show xs.length - 1 < xs.length by omega)]; rfl
def own_bd (xs : List Int32) (b : Int) : Prop := ∀ x ∈ xs, 0 ≤ x.toInt ∧ x.toInt ≤ b
theorem own_bdi {xs : List Int32} {b : Int} {r : Int32} (hb : 0 ≤ b) (hb2 : b ≤ 1000) (h : own_bd xs b) : own_bd (own_inc xs r) (b + 1) := by
  intro x hx
  have c1 : (1 : Int32).toInt = 1 := by decide
  have ha : 0 ≤ (own_at xs r).toInt ∧ (own_at xs r).toInt ≤ b := by
    unfold own_at
    rw [List.getD_eq_getElem?_getD]
    cases q : xs[own_ix r]? with
    | none => show 0 ≤ (0 : Int32).toInt ∧ (0 : Int32).toInt ≤ b; exact ⟨by decide, hb⟩
    | some y => exact h y (List.mem_of_getElem? q)
  rcases List.mem_or_eq_of_mem_set hx with q | q
  · have := h x q; omega
  · rw [q, own_add32 (by rw [c1]; omega) (by rw [c1]; omega), c1]; omega
theorem own_bd0 : own_bd [0, 0, 0, 0] 0 := by
  intro x hx
  have : x = 0 := by simpa using hx
  subst this; exact ⟨by decide, by decide⟩
theorem own_cntb {m : Int32} (hm : m = 0 ∨ m = 1 ∨ m = 2 ∨ m = 3) (r0 r1 r2 : Int32) : own_bd (own_cnt m r0 r1 r2) 3 ∧ (own_cnt m r0 r1 r2).length = 4 := by
  have w : ∀ {xs : List Int32} {b : Int}, b ≤ 3 → own_bd xs b → own_bd xs 3 := fun hb h x hx => by have := h x hx; omega
  have b1 := own_bdi (r := r0) (by decide) (by decide) own_bd0
  have b2 := own_bdi (r := r1) (by decide) (by decide) b1
  have b3 := own_bdi (r := r2) (by decide) (by decide) b2
  rcases hm with rfl | rfl | rfl | rfl
  · rw [own_cnt0]; exact ⟨w (by decide) own_bd0, rfl⟩
  · rw [own_cnt1]; exact ⟨w (by decide) b1, by rw [own_incl]; rfl⟩
  · rw [own_cnt2]; exact ⟨w (by decide) b2, by rw [own_incl, own_incl]; rfl⟩
  · rw [own_cnt3]; exact ⟨w (by decide) b3, by rw [own_incl, own_incl, own_incl]; rfl⟩
theorem own_trimS (x : Int32) (xs : List Int32) : own_trim (x :: xs) = if own_trim xs = [] ∧ x = 0 then [] else x :: own_trim xs := rfl
theorem own_trim_len : ∀ xs : List Int32, (own_trim xs).length ≤ xs.length
  | [] => Nat.le_refl _
  | x :: xs => by
    have := own_trim_len xs
    rw [own_trimS]
    split
    · exact Nat.zero_le _
    · simp; exact this
theorem own_last1 (x : Int32) : own_last [x] = x := rfl
theorem own_lastS (x y : Int32) (xs : List Int32) : own_last (x :: y :: xs) = own_last (y :: xs) := rfl
theorem own_trim_last : ∀ xs : List Int32, own_trim xs ≠ [] → own_last (own_trim xs) ∈ xs ∧ own_last (own_trim xs) ≠ 0
  | [], h => absurd rfl h
  | x :: xs, h => by
    rw [own_trimS] at h ⊢
    split at h
    · exact absurd rfl h
    · rename_i q
      rw [if_neg q]
      cases t : own_trim xs with
      | nil =>
        rw [own_last1]
        refine ⟨List.mem_cons_self, fun e => q ⟨t, e⟩⟩
      | cons y ys =>
        have r := own_trim_last xs (by rw [t]; exact List.cons_ne_nil _ _)
        rw [t] at r
        rw [own_lastS]
        exact ⟨List.mem_cons_of_mem _ r.1, r.2⟩
theorem own_good (m : Int32) {r0 r1 r2 : Int32} (hm : m = 0 ∨ m = 1 ∨ m = 2 ∨ m = 3) (h0 : own_rk r0) (h1 : own_rk r1) (h2 : own_rk r2) : (own_trim (own_cnt m r0 r1 r2)).length ≤ 4 ∧ (1 ≤ (own_trim (own_cnt m r0 r1 r2)).length → 0 < own_last (own_trim (own_cnt m r0 r1 r2))) := by
  have b := own_cntb hm r0 r1 r2
  refine ⟨Nat.le_trans (own_trim_len _) (Nat.le_of_eq b.2), fun q => ?_⟩
  have r := own_trim_last (own_cnt m r0 r1 r2) (fun e => by rw [e] at q; exact absurd q (by decide))
  have s := b.1 _ r.1
  have n := r.2
  have c0 : (0 : Int32).toInt = 0 := by decide
  rw [ne_eq, own_eq32, c0] at n
  rw [own_lt32, c0]; omega
theorem own_lenI {n : Nat} (h : n ≤ 4) : n.toInt32.toInt = n := len_toInt (by omega)
theorem own_lens {xs ys : List Int32} (h : xs.length.toInt32 < ys.length.toInt32) (hx : xs.length ≤ 4) (hy : ys.length ≤ 4) : 1 ≤ ys.length ∧ ys.length ≤ 4 := by
  rw [own_lt32, own_lenI hx, own_lenI hy] at h
  exact ⟨by omega, hy⟩
theorem own_ge1 {ys : List Int32} (h : 1 ≤ ys.length ∧ ys.length ≤ 4) : ¬ ys.length.toInt32 < 1 := by
  have c1 : (1 : Int32).toInt = 1 := by decide
  rw [own_lt32, own_lenI h.2, c1]; omega
theorem own_irr {x : Int32} : ¬ x < x := by rw [own_lt32]; omega
theorem own_lm1 {xs : List Int32} (h : 1 ≤ xs.length ∧ xs.length ≤ 4) : ¬ (xs.length.toInt32 - 1) < 0 ∧ (xs.length.toInt32 - 1).toNatClampNeg = xs.length - 1 := by
  have c1 : (1 : Int32).toInt = 1 := by decide
  have c0 : (0 : Int32).toInt = 0 := by decide
  have e : (xs.length.toInt32 - 1).toInt = xs.length - 1 := by rw [own_sub32 (by rw [own_lenI h.2, c1]; omega) (by rw [own_lenI h.2, c1]; omega), own_lenI h.2, c1]
  refine ⟨by rw [own_lt32, e, c0]; omega, ?_⟩
  show (xs.length.toInt32 - 1).toInt.toNat = _
  rw [e]; omega

theorem d9_0 : decode jdk_29_method_65_code 0 = .ok (.iload_n 0, 1) := by decide +kernel
theorem d9_1 : decode jdk_29_method_65_code 1 = .ok (.iload_n 1, 1) := by decide +kernel
theorem d9_2 : decode jdk_29_method_65_code 2 = .ok (.if_icmp .lt 7, 3) := by decide +kernel
theorem d9_5 : decode jdk_29_method_65_code 5 = .ok (.iload_n 0, 1) := by decide +kernel
theorem d9_6 : decode jdk_29_method_65_code 6 = .ok (.goto 4, 3) := by decide +kernel
theorem d9_9 : decode jdk_29_method_65_code 9 = .ok (.iload_n 1, 1) := by decide +kernel
theorem d9_10 : decode jdk_29_method_65_code 10 = .ok (.ireturn, 1) := by decide +kernel

theorem pd9 : parseMethodDescriptor "(II)I" = some ⟨[.int, .int], some .int⟩ := by decide +kernel
theorem pl9 : plainFor (⟨"java/lang/Math", "max", "(II)I"⟩ : MethodName) = true := by first | exact plainFor_of_name (by first | (simp [plainName, overriddenIn]; done) | decide +kernel) | decide +kernel

theorem ef_k_max (m : MethodId) (x0 : Int32) (x1 : Int32) : entryFrame m #[(.int x0), (.int x1)] 2 = mkF m 0 #[.val (.int x0), .val (.int x1)] [] := by first | (simp [entryFrame, mkF, argsToLocals, Value.category]; done) | rfl

set_option maxRecDepth 65536 in
set_option maxHeartbeats 40000000 in
theorem k_max {l : Launch} {Z : State} {a0 : Array Value} (hw : ∀ d ∈ tables_1, d.before a0 Z = true)  (h : Heap) (hz : Z.heap.size ≤ h.size) (x : Int32) (z : Int32)     : Go l Z (⟨"java/lang/Math", "max", "(II)I"⟩ : MethodName) jdk_29_method_65_code 2 (Option.some Jvm.ClassFile.FieldType.int) ({ frames := 0, cells := 0, slots := 0, locals := 0 } : Room) (QI fun rz h' => rz = (if x < z then z else x) ∧ h' = h) 0 0 h 0 #[.val (.int x), .val (.int z)] [] := by
  refine Go.iload_n 1 d9_0 rfl rfl ?_
  refine Go.iload_n 2 d9_1 rfl rfl ?_
  refine Go.icmp_lt 9 5 d9_2 (by decide) (by decide) rfl (fun c1 => ?_) (fun c1 => ?_)
  ·
    refine Go.iload_n 10 d9_9 rfl rfl ?_
    refine Go.ireturn d9_10 rfl (by decide) (by decide) ?_
    exact ⟨by first | rfl | (simp [*]; done) | simp_all, rfl⟩
  ·
    refine Go.iload_n 6 d9_5 rfl rfl ?_
    refine Go.goto 10 d9_6 (by decide) (by decide) ?_
    refine Go.ireturn d9_10 rfl (by decide) (by decide) ?_
    exact ⟨by first | rfl | (simp [*]; done) | simp_all, rfl⟩

theorem d5_0 : decode jdk_29_method_69_code 0 = .ok (.iload_n 0, 1) := by decide +kernel
theorem d5_1 : decode jdk_29_method_69_code 1 = .ok (.iload_n 1, 1) := by decide +kernel
theorem d5_2 : decode jdk_29_method_69_code 2 = .ok (.if_icmp .gt 7, 3) := by decide +kernel
theorem d5_5 : decode jdk_29_method_69_code 5 = .ok (.iload_n 0, 1) := by decide +kernel
theorem d5_6 : decode jdk_29_method_69_code 6 = .ok (.goto 4, 3) := by decide +kernel
theorem d5_9 : decode jdk_29_method_69_code 9 = .ok (.iload_n 1, 1) := by decide +kernel
theorem d5_10 : decode jdk_29_method_69_code 10 = .ok (.ireturn, 1) := by decide +kernel

theorem pd5 : parseMethodDescriptor "(II)I" = some ⟨[.int, .int], some .int⟩ := by decide +kernel
theorem pl5 : plainFor (⟨"java/lang/Math", "min", "(II)I"⟩ : MethodName) = true := by first | exact plainFor_of_name (by first | (simp [plainName, overriddenIn]; done) | decide +kernel) | decide +kernel

theorem ef_k_min (m : MethodId) (x0 : Int32) (x1 : Int32) : entryFrame m #[(.int x0), (.int x1)] 2 = mkF m 0 #[.val (.int x0), .val (.int x1)] [] := by first | (simp [entryFrame, mkF, argsToLocals, Value.category]; done) | rfl

set_option maxRecDepth 65536 in
set_option maxHeartbeats 40000000 in
theorem k_min {l : Launch} {Z : State} {a0 : Array Value} (hw : ∀ d ∈ tables_1, d.before a0 Z = true)  (h : Heap) (hz : Z.heap.size ≤ h.size) (x : Int32) (z : Int32)     : Go l Z (⟨"java/lang/Math", "min", "(II)I"⟩ : MethodName) jdk_29_method_69_code 2 (Option.some Jvm.ClassFile.FieldType.int) ({ frames := 0, cells := 0, slots := 0, locals := 0 } : Room) (QI fun rz h' => rz = (if z < x then z else x) ∧ h' = h) 0 0 h 0 #[.val (.int x), .val (.int z)] [] := by
  refine Go.iload_n 1 d5_0 rfl rfl ?_
  refine Go.iload_n 2 d5_1 rfl rfl ?_
  refine Go.icmp_gt 9 5 d5_2 (by decide) (by decide) rfl (fun c1 => ?_) (fun c1 => ?_)
  ·
    refine Go.iload_n 10 d5_9 rfl rfl ?_
    refine Go.ireturn d5_10 rfl (by decide) (by decide) ?_
    exact ⟨by first | rfl | (simp [*]; done) | simp_all, rfl⟩
  ·
    refine Go.iload_n 6 d5_5 rfl rfl ?_
    refine Go.goto 10 d5_6 (by decide) (by decide) ?_
    refine Go.ireturn d5_10 rfl (by decide) (by decide) ?_
    exact ⟨by first | rfl | (simp [*]; done) | simp_all, rfl⟩

theorem d13_0 : decode jdk_33_method_40_code 0 = .ok (.iload_n 0, 1) := by decide +kernel
theorem d13_1 : decode jdk_33_method_40_code 1 = .ok (.iload_n 1, 1) := by decide +kernel
theorem d13_2 : decode jdk_33_method_40_code 2 = .ok (.if_icmp .ge 7, 3) := by decide +kernel
theorem d13_5 : decode jdk_33_method_40_code 5 = .ok (.iconst (-1), 1) := by decide +kernel
theorem d13_6 : decode jdk_33_method_40_code 6 = .ok (.goto 13, 3) := by decide +kernel
theorem d13_9 : decode jdk_33_method_40_code 9 = .ok (.iload_n 0, 1) := by decide +kernel
theorem d13_10 : decode jdk_33_method_40_code 10 = .ok (.iload_n 1, 1) := by decide +kernel
theorem d13_11 : decode jdk_33_method_40_code 11 = .ok (.if_icmp .ne 7, 3) := by decide +kernel
theorem d13_14 : decode jdk_33_method_40_code 14 = .ok (.iconst 0, 1) := by decide +kernel
theorem d13_15 : decode jdk_33_method_40_code 15 = .ok (.goto 4, 3) := by decide +kernel
theorem d13_18 : decode jdk_33_method_40_code 18 = .ok (.iconst 1, 1) := by decide +kernel
theorem d13_19 : decode jdk_33_method_40_code 19 = .ok (.ireturn, 1) := by decide +kernel

theorem pd13 : parseMethodDescriptor "(II)I" = some ⟨[.int, .int], some .int⟩ := by decide +kernel
theorem pl13 : plainFor (⟨"java/lang/Integer", "compare", "(II)I"⟩ : MethodName) = true := by first | exact plainFor_of_name (by first | (simp [plainName, overriddenIn]; done) | decide +kernel) | decide +kernel

theorem ef_k_icmp (m : MethodId) (x0 : Int32) (x1 : Int32) : entryFrame m #[(.int x0), (.int x1)] 2 = mkF m 0 #[.val (.int x0), .val (.int x1)] [] := by first | (simp [entryFrame, mkF, argsToLocals, Value.category]; done) | rfl

set_option maxRecDepth 65536 in
set_option maxHeartbeats 40000000 in
theorem k_icmp {l : Launch} {Z : State} {a0 : Array Value} (hw : ∀ d ∈ tables_1, d.before a0 Z = true)  (h : Heap) (hz : Z.heap.size ≤ h.size) (x : Int32) (z : Int32)     : Go l Z (⟨"java/lang/Integer", "compare", "(II)I"⟩ : MethodName) jdk_33_method_40_code 2 (Option.some Jvm.ClassFile.FieldType.int) ({ frames := 0, cells := 0, slots := 0, locals := 0 } : Room) (QI fun rz h' => rz = (if x < z then (-1 : Int32) else (if x = z then (0 : Int32) else (1 : Int32))) ∧ h' = h) 0 0 h 0 #[.val (.int x), .val (.int z)] [] := by
  refine Go.iload_n 1 d13_0 rfl rfl ?_
  refine Go.iload_n 2 d13_1 rfl rfl ?_
  refine Go.icmp_ge 9 5 d13_2 (by decide) (by decide) rfl (fun c1 => ?_) (fun c1 => ?_)
  ·
    refine Go.iload_n 10 d13_9 rfl rfl ?_
    refine Go.iload_n 11 d13_10 rfl rfl ?_
    refine Go.icmp_ne 18 14 d13_11 (by decide) (by decide) rfl (fun c2 => ?_) (fun c2 => ?_)
    ·
      refine Go.iconst 19 (1) d13_18 (by decide) rfl ?_
      refine Go.ireturn d13_19 rfl (by decide) (by decide) ?_
      exact ⟨by first | rfl | (simp [*]; done) | simp_all, rfl⟩
    ·
      refine Go.iconst 15 (0) d13_14 (by decide) rfl ?_
      refine Go.goto 19 d13_15 (by decide) (by decide) ?_
      refine Go.ireturn d13_19 rfl (by decide) (by decide) ?_
      exact ⟨by first | rfl | (simp [*]; done) | simp_all, rfl⟩
  ·
    refine Go.iconst 6 (-1) d13_5 (by decide) rfl ?_
    refine Go.goto 19 d13_6 (by decide) (by decide) ?_
    refine Go.ireturn d13_19 rfl (by decide) (by decide) ?_
    exact ⟨by first | rfl | (simp [*]; done) | simp_all, rfl⟩

theorem d12_0 : decode jdk_35_method_42_code 0 = .ok (.lload_n 0, 1) := by decide +kernel
theorem d12_1 : decode jdk_35_method_42_code 1 = .ok (.lload_n 2, 1) := by decide +kernel
theorem d12_2 : decode jdk_35_method_42_code 2 = .ok (.lcmp, 1) := by decide +kernel
theorem d12_3 : decode jdk_35_method_42_code 3 = .ok (.ifCond .ge 7, 3) := by decide +kernel
theorem d12_6 : decode jdk_35_method_42_code 6 = .ok (.iconst (-1), 1) := by decide +kernel
theorem d12_7 : decode jdk_35_method_42_code 7 = .ok (.goto 14, 3) := by decide +kernel
theorem d12_10 : decode jdk_35_method_42_code 10 = .ok (.lload_n 0, 1) := by decide +kernel
theorem d12_11 : decode jdk_35_method_42_code 11 = .ok (.lload_n 2, 1) := by decide +kernel
theorem d12_12 : decode jdk_35_method_42_code 12 = .ok (.lcmp, 1) := by decide +kernel
theorem d12_13 : decode jdk_35_method_42_code 13 = .ok (.ifCond .ne 7, 3) := by decide +kernel
theorem d12_16 : decode jdk_35_method_42_code 16 = .ok (.iconst 0, 1) := by decide +kernel
theorem d12_17 : decode jdk_35_method_42_code 17 = .ok (.goto 4, 3) := by decide +kernel
theorem d12_20 : decode jdk_35_method_42_code 20 = .ok (.iconst 1, 1) := by decide +kernel
theorem d12_21 : decode jdk_35_method_42_code 21 = .ok (.ireturn, 1) := by decide +kernel

theorem pd12 : parseMethodDescriptor "(JJ)I" = some ⟨[.long, .long], some .int⟩ := by decide +kernel
theorem pl12 : plainFor (⟨"java/lang/Long", "compare", "(JJ)I"⟩ : MethodName) = true := by first | exact plainFor_of_name (by first | (simp [plainName, overriddenIn]; done) | decide +kernel) | decide +kernel

theorem ef_k_lcmp (m : MethodId) (x0 : Int64) (x1 : Int64) : entryFrame m #[(.long x0), (.long x1)] 4 = mkF m 0 #[.val (.long x0), .second, .val (.long x1), .second] [] := by first | (simp [entryFrame, mkF, argsToLocals, Value.category]; done) | rfl

set_option maxRecDepth 65536 in
set_option maxHeartbeats 40000000 in
theorem k_lcmp {l : Launch} {Z : State} {a0 : Array Value} (hw : ∀ d ∈ tables_1, d.before a0 Z = true)  (h : Heap) (hz : Z.heap.size ≤ h.size) (x : Int64) (z : Int64)     : Go l Z (⟨"java/lang/Long", "compare", "(JJ)I"⟩ : MethodName) jdk_35_method_42_code 4 (Option.some Jvm.ClassFile.FieldType.int) ({ frames := 0, cells := 0, slots := 0, locals := 0 } : Room) (QI fun rz h' => rz = (if x < z then (-1 : Int32) else (if x = z then (0 : Int32) else (1 : Int32))) ∧ h' = h) 0 0 h 0 #[.val (.long x), .second, .val (.long z), .second] [] := by
  refine Go.lload_n 1 d12_0 rfl rfl ?_
  refine Go.lload_n 2 d12_1 rfl rfl ?_
  refine Go.lcmp 3 d12_2 rfl ?_
  refine Go.lcmp_ge 10 6 d12_3 (by decide) (by decide) rfl (fun c1 => ?_) (fun c1 => ?_)
  ·
    refine Go.lload_n 11 d12_10 rfl rfl ?_
    refine Go.lload_n 12 d12_11 rfl rfl ?_
    refine Go.lcmp 13 d12_12 rfl ?_
    refine Go.lcmp_ne 20 16 d12_13 (by decide) (by decide) rfl (fun c2 => ?_) (fun c2 => ?_)
    ·
      refine Go.iconst 21 (1) d12_20 (by decide) rfl ?_
      refine Go.ireturn d12_21 rfl (by decide) (by decide) ?_
      exact ⟨by first | rfl | (simp [*]; done) | simp_all, rfl⟩
    ·
      refine Go.iconst 17 (0) d12_16 (by decide) rfl ?_
      refine Go.goto 21 d12_17 (by decide) (by decide) ?_
      refine Go.ireturn d12_21 rfl (by decide) (by decide) ?_
      exact ⟨by first | rfl | (simp [*]; done) | simp_all, rfl⟩
  ·
    refine Go.iconst 7 (-1) d12_6 (by decide) rfl ?_
    refine Go.goto 21 d12_7 (by decide) (by decide) ?_
    refine Go.ireturn d12_21 rfl (by decide) (by decide) ?_
    exact ⟨by first | rfl | (simp [*]; done) | simp_all, rfl⟩

theorem d4_0 : decode jdk_65_method_123_code 0 = .ok (.iload_n 1, 1) := by decide +kernel
theorem d4_1 : decode jdk_65_method_123_code 1 = .ok (.aload_n 0, 1) := by decide +kernel
theorem d4_2 : decode jdk_65_method_123_code 2 = .ok (.arraylength, 1) := by decide +kernel
theorem d4_3 : decode jdk_65_method_123_code 3 = .ok (.if_icmp .ne 11, 3) := by decide +kernel
theorem d4_6 : decode jdk_65_method_123_code 6 = .ok (.aload_n 0, 1) := by decide +kernel
theorem d4_7 : decode jdk_65_method_123_code 7 = .ok (.invokevirtual 316, 3) := by decide +kernel
theorem d4_10 : decode jdk_65_method_123_code 10 = .ok (.checkcast 317, 3) := by decide +kernel
theorem d4_13 : decode jdk_65_method_123_code 13 = .ok (.areturn, 1) := by decide +kernel
theorem d4_14 : decode jdk_65_method_123_code 14 = .ok (.iload_n 1, 1) := by decide +kernel
theorem d4_15 : decode jdk_65_method_123_code 15 = .ok (.newarray .int, 2) := by decide +kernel
theorem d4_17 : decode jdk_65_method_123_code 17 = .ok (.astore_n 2, 1) := by decide +kernel
theorem d4_18 : decode jdk_65_method_123_code 18 = .ok (.aload_n 0, 1) := by decide +kernel
theorem d4_19 : decode jdk_65_method_123_code 19 = .ok (.iconst 0, 1) := by decide +kernel
theorem d4_20 : decode jdk_65_method_123_code 20 = .ok (.aload_n 2, 1) := by decide +kernel
theorem d4_21 : decode jdk_65_method_123_code 21 = .ok (.iconst 0, 1) := by decide +kernel
theorem d4_22 : decode jdk_65_method_123_code 22 = .ok (.aload_n 0, 1) := by decide +kernel
theorem d4_23 : decode jdk_65_method_123_code 23 = .ok (.arraylength, 1) := by decide +kernel
theorem d4_24 : decode jdk_65_method_123_code 24 = .ok (.iload_n 1, 1) := by decide +kernel
theorem d4_25 : decode jdk_65_method_123_code 25 = .ok (.invokestatic 304, 3) := by decide +kernel
theorem d4_28 : decode jdk_65_method_123_code 28 = .ok (.invokestatic 150, 3) := by decide +kernel
theorem d4_31 : decode jdk_65_method_123_code 31 = .ok (.aload_n 2, 1) := by decide +kernel
theorem d4_32 : decode jdk_65_method_123_code 32 = .ok (.areturn, 1) := by decide +kernel

theorem pd4 : parseMethodDescriptor "([II)[I" = some ⟨[(.array .int), .int], some (.array .int)⟩ := by decide +kernel
theorem pl4 : plainFor (⟨"java/util/Arrays", "copyOf", "([II)[I"⟩ : MethodName) = true := by first | exact plainFor_of_name (by first | (simp [plainName, overriddenIn]; done) | decide +kernel) | decide +kernel

theorem ef_k_copy_3_0 (m : MethodId) (x0 : Addr) (x1 : Int32) : entryFrame m #[(.ref x0), (.int x1)] 3 = mkF m 0 #[.val (.ref x0), .val (.int x1), .unset] [] := by first | (simp [entryFrame, mkF, argsToLocals, Value.category]; done) | rfl

set_option maxRecDepth 65536 in
set_option maxHeartbeats 40000000 in
theorem k_copy_3_0 {l : Launch} {Z : State} {a0 : Array Value} (hw : ∀ d ∈ tables_1, d.before a0 Z = true) {ct0 : Int32} {ct1 : Int32} {ct2 : Int32} (h : Heap) (hz : Z.heap.size ≤ h.size) (a : Addr) (fa0 : Ari Z h a .int [ct0, ct1, ct2]) (fa1 : Exa Z h a "[I")    : Go l Z (⟨"java/util/Arrays", "copyOf", "([II)[I"⟩ : MethodName) jdk_65_method_123_code 3 (Option.some (Jvm.ClassFile.FieldType.array Jvm.ClassFile.FieldType.int)) ({ frames := 1, cells := 1, slots := 4, locals := 48 } : Room) (QR fun rz h' => ∃ r : Addr, rz = .ref r ∧ h.size ≤ r ∧ Keep h h' [] ∧ Ari Z h' r .int []) 0 0 h 0 #[.val (.ref a), .val (.int (0 : Int32)), .unset] [] := by
  have kp0 : Keep h h [] := Keep.refl _ _
  refine Go.iload_n 1 d4_0 rfl rfl ?_
  refine Go.aload_n 2 d4_1 rfl rfl rfl ?_
  refine Go.arraylength (z := (3 : Int32)) 3 d4_2 fa0 (by decide : Nat.toInt32 3 = (3 : Int32)) rfl ?_
  refine Go.icmp_ne 14 6 d4_3 (by decide) (by decide) rfl (fun _ => ?_) (fun c => absurd c (by decide))
  refine Go.iload_n 15 d4_14 rfl rfl ?_
  refine Go.newIE (cap := 0) (xs := []) "[I" 17 d4_15 (tw15 hw) rfl (by decide) (by decide) (by decide) (by decide) rfl (by decide) (by decide) rfl (fun a2 h3 q4 E5 A6 Ex7 => ?_)
  have ne8 : a ≠ a2 := fun e => absurd fa0.lt (by rw [e, q4]; exact Nat.lt_irrefl _)
  have ge9 : Z.heap.size ≤ a2 := (Eq.symm q4) ▸ hz
  have fr10 : h.size ≤ a2 := by rw [q4]; exact kp0.1
  have f11 : Ari Z h3 a .int [ct0, ct1, ct2] := fa0.ext E5
  have f12 : Exa Z h3 a "[I" := fa1.ext E5
  have zs13 : Z.heap.size ≤ h3.size := Nat.le_trans hz E5.1
  have kp14 : Keep h h3 [] := kp0.ext E5
  refine Go.astore_n 18 #[.val (.ref a), .val (.int (0 : Int32)), .val (.ref a2)] d4_17 rfl rfl rfl ?_
  refine Go.aload_n 19 d4_18 rfl rfl rfl ?_
  refine Go.iconst 20 (0) d4_19 (by decide) rfl ?_
  refine Go.aload_n 21 d4_20 rfl rfl rfl ?_
  refine Go.iconst 22 (0) d4_21 (by decide) rfl ?_
  refine Go.aload_n 23 d4_22 rfl rfl rfl ?_
  refine Go.arraylength (z := (3 : Int32)) 24 d4_23 f11 (by decide : Nat.toInt32 3 = (3 : Int32)) rfl ?_
  refine Go.iload_n 25 d4_24 rfl rfl ?_
  refine Go.callSIp [.int (3 : Int32), .int (0 : Int32)] [.int (0 : Int32), .ref a2, .int (0 : Int32), .ref a] 28 d4_25 (tw34 hw) (tw35 hw) (tw36 hw) (tw37 hw) pl5 (by decide) (lenOf pd5 rfl) rfl (fun m => ef_k_min m (3 : Int32) (0 : Int32)) _ (k_min hw h3 zs13 (3 : Int32) (0 : Int32)) 4 rfl (Nat.le_of_eq rfl) (by decide) (by decide) (by decide) (by decide) rfl ?_
  refine Go.arraycopy (W := 0) 0 0 0 31 d4_28 (tw38 hw) (tw41 hw) (tw39 hw) (tw40 hw) f11 A6 (fun _ _ => rfl) (fun _ _ => rfl) rfl (by decide) (by decide) (by decide) (by decide) (by decide) (by decide) (by decide : 0 + 0 ≤ 3) (by decide : 0 + 0 ≤ 0) (ys' := []) rfl ge9 rfl (by decide) (Nat.le_of_eq rfl) (by decide) rfl (fun h18 K19 A20 => ?_)
  have f21 : Ari Z h18 a .int [ct0, ct1, ct2] := f11.keep K19 (ninS ne8 nin0)
  have f22 : Exa Z h18 a "[I" := f12.keep K19
  have f23 : Exa Z h18 a2 "[I" := Ex7.keep K19
  have zs24 : Z.heap.size ≤ h18.size := Nat.le_trans zs13 K19.1
  have kp25 : Keep h h18 [] := kp14.trans K19 (allS (Or.inr fr10) all0)
  refine Go.aload_n 32 d4_31 rfl rfl rfl ?_
  refine Go.areturn d4_32 rfl rfl rfl (by decide) (by decide) ?_
  exact ⟨a2, rfl, fr10, kp25, A20⟩

theorem ef_k_copy_3_1 (m : MethodId) (x0 : Addr) (x1 : Int32) : entryFrame m #[(.ref x0), (.int x1)] 3 = mkF m 0 #[.val (.ref x0), .val (.int x1), .unset] [] := by first | (simp [entryFrame, mkF, argsToLocals, Value.category]; done) | rfl

set_option maxRecDepth 65536 in
set_option maxHeartbeats 40000000 in
theorem k_copy_3_1 {l : Launch} {Z : State} {a0 : Array Value} (hw : ∀ d ∈ tables_1, d.before a0 Z = true) {ct0 : Int32} {ct1 : Int32} {ct2 : Int32} (h : Heap) (hz : Z.heap.size ≤ h.size) (a : Addr) (fa0 : Ari Z h a .int [ct0, ct1, ct2]) (fa1 : Exa Z h a "[I")    : Go l Z (⟨"java/util/Arrays", "copyOf", "([II)[I"⟩ : MethodName) jdk_65_method_123_code 3 (Option.some (Jvm.ClassFile.FieldType.array Jvm.ClassFile.FieldType.int)) ({ frames := 1, cells := 1, slots := 4, locals := 48 } : Room) (QR fun rz h' => ∃ r : Addr, rz = .ref r ∧ h.size ≤ r ∧ Keep h h' [] ∧ Ari Z h' r .int [ct0]) 0 0 h 0 #[.val (.ref a), .val (.int (1 : Int32)), .unset] [] := by
  have kp0 : Keep h h [] := Keep.refl _ _
  refine Go.iload_n 1 d4_0 rfl rfl ?_
  refine Go.aload_n 2 d4_1 rfl rfl rfl ?_
  refine Go.arraylength (z := (3 : Int32)) 3 d4_2 fa0 (by decide : Nat.toInt32 3 = (3 : Int32)) rfl ?_
  refine Go.icmp_ne 14 6 d4_3 (by decide) (by decide) rfl (fun _ => ?_) (fun c => absurd c (by decide))
  refine Go.iload_n 15 d4_14 rfl rfl ?_
  refine Go.newIE (cap := 1) (xs := [0]) "[I" 17 d4_15 (tw15 hw) rfl (by decide) (by decide) (by decide) (by decide) rfl (by decide) (by decide) rfl (fun a2 h3 q4 E5 A6 Ex7 => ?_)
  have ne8 : a ≠ a2 := fun e => absurd fa0.lt (by rw [e, q4]; exact Nat.lt_irrefl _)
  have ge9 : Z.heap.size ≤ a2 := (Eq.symm q4) ▸ hz
  have fr10 : h.size ≤ a2 := by rw [q4]; exact kp0.1
  have f11 : Ari Z h3 a .int [ct0, ct1, ct2] := fa0.ext E5
  have f12 : Exa Z h3 a "[I" := fa1.ext E5
  have zs13 : Z.heap.size ≤ h3.size := Nat.le_trans hz E5.1
  have kp14 : Keep h h3 [] := kp0.ext E5
  refine Go.astore_n 18 #[.val (.ref a), .val (.int (1 : Int32)), .val (.ref a2)] d4_17 rfl rfl rfl ?_
  refine Go.aload_n 19 d4_18 rfl rfl rfl ?_
  refine Go.iconst 20 (0) d4_19 (by decide) rfl ?_
  refine Go.aload_n 21 d4_20 rfl rfl rfl ?_
  refine Go.iconst 22 (0) d4_21 (by decide) rfl ?_
  refine Go.aload_n 23 d4_22 rfl rfl rfl ?_
  refine Go.arraylength (z := (3 : Int32)) 24 d4_23 f11 (by decide : Nat.toInt32 3 = (3 : Int32)) rfl ?_
  refine Go.iload_n 25 d4_24 rfl rfl ?_
  refine Go.callSIp [.int (3 : Int32), .int (1 : Int32)] [.int (0 : Int32), .ref a2, .int (0 : Int32), .ref a] 28 d4_25 (tw34 hw) (tw35 hw) (tw36 hw) (tw37 hw) pl5 (by decide) (lenOf pd5 rfl) rfl (fun m => ef_k_min m (3 : Int32) (1 : Int32)) _ (k_min hw h3 zs13 (3 : Int32) (1 : Int32)) 4 rfl (Nat.le_of_eq rfl) (by decide) (by decide) (by decide) (by decide) rfl ?_
  refine Go.arraycopy (W := 0) 0 0 1 31 d4_28 (tw38 hw) (tw41 hw) (tw39 hw) (tw40 hw) f11 A6 (fun _ _ => rfl) (fun _ _ => rfl) rfl (by decide) (by decide) (by decide) (by decide) (by decide) (by decide) (by decide : 0 + 1 ≤ 3) (by decide : 0 + 1 ≤ 1) (ys' := [ct0]) rfl ge9 rfl (by decide) (Nat.le_of_eq rfl) (by decide) rfl (fun h18 K19 A20 => ?_)
  have f21 : Ari Z h18 a .int [ct0, ct1, ct2] := f11.keep K19 (ninS ne8 nin0)
  have f22 : Exa Z h18 a "[I" := f12.keep K19
  have f23 : Exa Z h18 a2 "[I" := Ex7.keep K19
  have zs24 : Z.heap.size ≤ h18.size := Nat.le_trans zs13 K19.1
  have kp25 : Keep h h18 [] := kp14.trans K19 (allS (Or.inr fr10) all0)
  refine Go.aload_n 32 d4_31 rfl rfl rfl ?_
  refine Go.areturn d4_32 rfl rfl rfl (by decide) (by decide) ?_
  exact ⟨a2, rfl, fr10, kp25, A20⟩

theorem ef_k_copy_3_2 (m : MethodId) (x0 : Addr) (x1 : Int32) : entryFrame m #[(.ref x0), (.int x1)] 3 = mkF m 0 #[.val (.ref x0), .val (.int x1), .unset] [] := by first | (simp [entryFrame, mkF, argsToLocals, Value.category]; done) | rfl

set_option maxRecDepth 65536 in
set_option maxHeartbeats 40000000 in
theorem k_copy_3_2 {l : Launch} {Z : State} {a0 : Array Value} (hw : ∀ d ∈ tables_1, d.before a0 Z = true) {ct0 : Int32} {ct1 : Int32} {ct2 : Int32} (h : Heap) (hz : Z.heap.size ≤ h.size) (a : Addr) (fa0 : Ari Z h a .int [ct0, ct1, ct2]) (fa1 : Exa Z h a "[I")    : Go l Z (⟨"java/util/Arrays", "copyOf", "([II)[I"⟩ : MethodName) jdk_65_method_123_code 3 (Option.some (Jvm.ClassFile.FieldType.array Jvm.ClassFile.FieldType.int)) ({ frames := 1, cells := 1, slots := 4, locals := 48 } : Room) (QR fun rz h' => ∃ r : Addr, rz = .ref r ∧ h.size ≤ r ∧ Keep h h' [] ∧ Ari Z h' r .int [ct0, ct1]) 0 0 h 0 #[.val (.ref a), .val (.int (2 : Int32)), .unset] [] := by
  have kp0 : Keep h h [] := Keep.refl _ _
  refine Go.iload_n 1 d4_0 rfl rfl ?_
  refine Go.aload_n 2 d4_1 rfl rfl rfl ?_
  refine Go.arraylength (z := (3 : Int32)) 3 d4_2 fa0 (by decide : Nat.toInt32 3 = (3 : Int32)) rfl ?_
  refine Go.icmp_ne 14 6 d4_3 (by decide) (by decide) rfl (fun _ => ?_) (fun c => absurd c (by decide))
  refine Go.iload_n 15 d4_14 rfl rfl ?_
  refine Go.newIE (cap := 2) (xs := [0, 0]) "[I" 17 d4_15 (tw15 hw) rfl (by decide) (by decide) (by decide) (by decide) rfl (by decide) (by decide) rfl (fun a2 h3 q4 E5 A6 Ex7 => ?_)
  have ne8 : a ≠ a2 := fun e => absurd fa0.lt (by rw [e, q4]; exact Nat.lt_irrefl _)
  have ge9 : Z.heap.size ≤ a2 := (Eq.symm q4) ▸ hz
  have fr10 : h.size ≤ a2 := by rw [q4]; exact kp0.1
  have f11 : Ari Z h3 a .int [ct0, ct1, ct2] := fa0.ext E5
  have f12 : Exa Z h3 a "[I" := fa1.ext E5
  have zs13 : Z.heap.size ≤ h3.size := Nat.le_trans hz E5.1
  have kp14 : Keep h h3 [] := kp0.ext E5
  refine Go.astore_n 18 #[.val (.ref a), .val (.int (2 : Int32)), .val (.ref a2)] d4_17 rfl rfl rfl ?_
  refine Go.aload_n 19 d4_18 rfl rfl rfl ?_
  refine Go.iconst 20 (0) d4_19 (by decide) rfl ?_
  refine Go.aload_n 21 d4_20 rfl rfl rfl ?_
  refine Go.iconst 22 (0) d4_21 (by decide) rfl ?_
  refine Go.aload_n 23 d4_22 rfl rfl rfl ?_
  refine Go.arraylength (z := (3 : Int32)) 24 d4_23 f11 (by decide : Nat.toInt32 3 = (3 : Int32)) rfl ?_
  refine Go.iload_n 25 d4_24 rfl rfl ?_
  refine Go.callSIp [.int (3 : Int32), .int (2 : Int32)] [.int (0 : Int32), .ref a2, .int (0 : Int32), .ref a] 28 d4_25 (tw34 hw) (tw35 hw) (tw36 hw) (tw37 hw) pl5 (by decide) (lenOf pd5 rfl) rfl (fun m => ef_k_min m (3 : Int32) (2 : Int32)) _ (k_min hw h3 zs13 (3 : Int32) (2 : Int32)) 4 rfl (Nat.le_of_eq rfl) (by decide) (by decide) (by decide) (by decide) rfl ?_
  refine Go.arraycopy (W := 0) 0 0 2 31 d4_28 (tw38 hw) (tw41 hw) (tw39 hw) (tw40 hw) f11 A6 (fun _ _ => rfl) (fun _ _ => rfl) rfl (by decide) (by decide) (by decide) (by decide) (by decide) (by decide) (by decide : 0 + 2 ≤ 3) (by decide : 0 + 2 ≤ 2) (ys' := [ct0, ct1]) rfl ge9 rfl (by decide) (Nat.le_of_eq rfl) (by decide) rfl (fun h18 K19 A20 => ?_)
  have f21 : Ari Z h18 a .int [ct0, ct1, ct2] := f11.keep K19 (ninS ne8 nin0)
  have f22 : Exa Z h18 a "[I" := f12.keep K19
  have f23 : Exa Z h18 a2 "[I" := Ex7.keep K19
  have zs24 : Z.heap.size ≤ h18.size := Nat.le_trans zs13 K19.1
  have kp25 : Keep h h18 [] := kp14.trans K19 (allS (Or.inr fr10) all0)
  refine Go.aload_n 32 d4_31 rfl rfl rfl ?_
  refine Go.areturn d4_32 rfl rfl rfl (by decide) (by decide) ?_
  exact ⟨a2, rfl, fr10, kp25, A20⟩

theorem ef_k_copy_3_3 (m : MethodId) (x0 : Addr) (x1 : Int32) : entryFrame m #[(.ref x0), (.int x1)] 3 = mkF m 0 #[.val (.ref x0), .val (.int x1), .unset] [] := by first | (simp [entryFrame, mkF, argsToLocals, Value.category]; done) | rfl

set_option maxRecDepth 65536 in
set_option maxHeartbeats 40000000 in
theorem k_copy_3_3 {l : Launch} {Z : State} {a0 : Array Value} (hw : ∀ d ∈ tables_1, d.before a0 Z = true) {ct0 : Int32} {ct1 : Int32} {ct2 : Int32} (h : Heap) (hz : Z.heap.size ≤ h.size) (a : Addr) (fa0 : Ari Z h a .int [ct0, ct1, ct2]) (fa1 : Exa Z h a "[I")    : Go l Z (⟨"java/util/Arrays", "copyOf", "([II)[I"⟩ : MethodName) jdk_65_method_123_code 3 (Option.some (Jvm.ClassFile.FieldType.array Jvm.ClassFile.FieldType.int)) ({ frames := 1, cells := 1, slots := 4, locals := 48 } : Room) (QR fun rz h' => ∃ r : Addr, rz = .ref r ∧ h.size ≤ r ∧ Keep h h' [] ∧ Ari Z h' r .int [ct0, ct1, ct2]) 0 0 h 0 #[.val (.ref a), .val (.int (3 : Int32)), .unset] [] := by
  have kp0 : Keep h h [] := Keep.refl _ _
  refine Go.iload_n 1 d4_0 rfl rfl ?_
  refine Go.aload_n 2 d4_1 rfl rfl rfl ?_
  refine Go.arraylength (z := (3 : Int32)) 3 d4_2 fa0 (by decide : Nat.toInt32 3 = (3 : Int32)) rfl ?_
  refine Go.icmp_ne 14 6 d4_3 (by decide) (by decide) rfl (fun c => absurd c (by decide)) (fun _ => ?_)
  refine Go.aload_n 7 d4_6 rfl rfl rfl ?_
  refine Go.clone (W := 0) 3 10 d4_7 (tw46 hw) (tw47 hw) (tw51 hw) (tw49 hw) (tw50 hw) (tw52 hw) fa0 fa1 (fun _ _ => rfl) rfl (by decide) (Nat.le_of_eq rfl) (by decide) (by decide : 3 ≤ 3) (by decide) (by decide) rfl (fun a2 h3 q4 E5 A6 Ex7 => ?_)
  have ne8 : a ≠ a2 := fun e => absurd fa0.lt (by rw [e, q4]; exact Nat.lt_irrefl _)
  have ge9 : Z.heap.size ≤ a2 := (Eq.symm q4) ▸ hz
  have fr10 : h.size ≤ a2 := by rw [q4]; exact kp0.1
  have f11 : Ari Z h3 a .int [ct0, ct1, ct2] := fa0.ext E5
  have f12 : Exa Z h3 a "[I" := fa1.ext E5
  have zs13 : Z.heap.size ≤ h3.size := Nat.le_trans hz E5.1
  have kp14 : Keep h h3 [] := kp0.ext E5
  refine Go.cast 13 d4_10 (tw53 hw) (Ins.self Ex7) rfl ?_
  refine Go.areturn d4_13 rfl rfl rfl (by decide) (by decide) ?_
  exact ⟨a2, rfl, fr10, kp14, A6⟩

theorem ef_k_copy_4_0 (m : MethodId) (x0 : Addr) (x1 : Int32) : entryFrame m #[(.ref x0), (.int x1)] 3 = mkF m 0 #[.val (.ref x0), .val (.int x1), .unset] [] := by first | (simp [entryFrame, mkF, argsToLocals, Value.category]; done) | rfl

set_option maxRecDepth 65536 in
set_option maxHeartbeats 40000000 in
theorem k_copy_4_0 {l : Launch} {Z : State} {a0 : Array Value} (hw : ∀ d ∈ tables_1, d.before a0 Z = true) {ct0 : Int32} {ct1 : Int32} {ct2 : Int32} {ct3 : Int32} (h : Heap) (hz : Z.heap.size ≤ h.size) (a : Addr) (fa0 : Ari Z h a .int [ct0, ct1, ct2, ct3]) (fa1 : Exa Z h a "[I")    : Go l Z (⟨"java/util/Arrays", "copyOf", "([II)[I"⟩ : MethodName) jdk_65_method_123_code 3 (Option.some (Jvm.ClassFile.FieldType.array Jvm.ClassFile.FieldType.int)) ({ frames := 1, cells := 1, slots := 4, locals := 48 } : Room) (QR fun rz h' => ∃ r : Addr, rz = .ref r ∧ h.size ≤ r ∧ Keep h h' [] ∧ Ari Z h' r .int []) 0 0 h 0 #[.val (.ref a), .val (.int (0 : Int32)), .unset] [] := by
  have kp0 : Keep h h [] := Keep.refl _ _
  refine Go.iload_n 1 d4_0 rfl rfl ?_
  refine Go.aload_n 2 d4_1 rfl rfl rfl ?_
  refine Go.arraylength (z := (4 : Int32)) 3 d4_2 fa0 (by decide : Nat.toInt32 4 = (4 : Int32)) rfl ?_
  refine Go.icmp_ne 14 6 d4_3 (by decide) (by decide) rfl (fun _ => ?_) (fun c => absurd c (by decide))
  refine Go.iload_n 15 d4_14 rfl rfl ?_
  refine Go.newIE (cap := 0) (xs := []) "[I" 17 d4_15 (tw15 hw) rfl (by decide) (by decide) (by decide) (by decide) rfl (by decide) (by decide) rfl (fun a2 h3 q4 E5 A6 Ex7 => ?_)
  have ne8 : a ≠ a2 := fun e => absurd fa0.lt (by rw [e, q4]; exact Nat.lt_irrefl _)
  have ge9 : Z.heap.size ≤ a2 := (Eq.symm q4) ▸ hz
  have fr10 : h.size ≤ a2 := by rw [q4]; exact kp0.1
  have f11 : Ari Z h3 a .int [ct0, ct1, ct2, ct3] := fa0.ext E5
  have f12 : Exa Z h3 a "[I" := fa1.ext E5
  have zs13 : Z.heap.size ≤ h3.size := Nat.le_trans hz E5.1
  have kp14 : Keep h h3 [] := kp0.ext E5
  refine Go.astore_n 18 #[.val (.ref a), .val (.int (0 : Int32)), .val (.ref a2)] d4_17 rfl rfl rfl ?_
  refine Go.aload_n 19 d4_18 rfl rfl rfl ?_
  refine Go.iconst 20 (0) d4_19 (by decide) rfl ?_
  refine Go.aload_n 21 d4_20 rfl rfl rfl ?_
  refine Go.iconst 22 (0) d4_21 (by decide) rfl ?_
  refine Go.aload_n 23 d4_22 rfl rfl rfl ?_
  refine Go.arraylength (z := (4 : Int32)) 24 d4_23 f11 (by decide : Nat.toInt32 4 = (4 : Int32)) rfl ?_
  refine Go.iload_n 25 d4_24 rfl rfl ?_
  refine Go.callSIp [.int (4 : Int32), .int (0 : Int32)] [.int (0 : Int32), .ref a2, .int (0 : Int32), .ref a] 28 d4_25 (tw34 hw) (tw35 hw) (tw36 hw) (tw37 hw) pl5 (by decide) (lenOf pd5 rfl) rfl (fun m => ef_k_min m (4 : Int32) (0 : Int32)) _ (k_min hw h3 zs13 (4 : Int32) (0 : Int32)) 4 rfl (Nat.le_of_eq rfl) (by decide) (by decide) (by decide) (by decide) rfl ?_
  refine Go.arraycopy (W := 0) 0 0 0 31 d4_28 (tw38 hw) (tw41 hw) (tw39 hw) (tw40 hw) f11 A6 (fun _ _ => rfl) (fun _ _ => rfl) rfl (by decide) (by decide) (by decide) (by decide) (by decide) (by decide) (by decide : 0 + 0 ≤ 4) (by decide : 0 + 0 ≤ 0) (ys' := []) rfl ge9 rfl (by decide) (Nat.le_of_eq rfl) (by decide) rfl (fun h18 K19 A20 => ?_)
  have f21 : Ari Z h18 a .int [ct0, ct1, ct2, ct3] := f11.keep K19 (ninS ne8 nin0)
  have f22 : Exa Z h18 a "[I" := f12.keep K19
  have f23 : Exa Z h18 a2 "[I" := Ex7.keep K19
  have zs24 : Z.heap.size ≤ h18.size := Nat.le_trans zs13 K19.1
  have kp25 : Keep h h18 [] := kp14.trans K19 (allS (Or.inr fr10) all0)
  refine Go.aload_n 32 d4_31 rfl rfl rfl ?_
  refine Go.areturn d4_32 rfl rfl rfl (by decide) (by decide) ?_
  exact ⟨a2, rfl, fr10, kp25, A20⟩

theorem ef_k_copy_4_1 (m : MethodId) (x0 : Addr) (x1 : Int32) : entryFrame m #[(.ref x0), (.int x1)] 3 = mkF m 0 #[.val (.ref x0), .val (.int x1), .unset] [] := by first | (simp [entryFrame, mkF, argsToLocals, Value.category]; done) | rfl

set_option maxRecDepth 65536 in
set_option maxHeartbeats 40000000 in
theorem k_copy_4_1 {l : Launch} {Z : State} {a0 : Array Value} (hw : ∀ d ∈ tables_1, d.before a0 Z = true) {ct0 : Int32} {ct1 : Int32} {ct2 : Int32} {ct3 : Int32} (h : Heap) (hz : Z.heap.size ≤ h.size) (a : Addr) (fa0 : Ari Z h a .int [ct0, ct1, ct2, ct3]) (fa1 : Exa Z h a "[I")    : Go l Z (⟨"java/util/Arrays", "copyOf", "([II)[I"⟩ : MethodName) jdk_65_method_123_code 3 (Option.some (Jvm.ClassFile.FieldType.array Jvm.ClassFile.FieldType.int)) ({ frames := 1, cells := 1, slots := 4, locals := 48 } : Room) (QR fun rz h' => ∃ r : Addr, rz = .ref r ∧ h.size ≤ r ∧ Keep h h' [] ∧ Ari Z h' r .int [ct0]) 0 0 h 0 #[.val (.ref a), .val (.int (1 : Int32)), .unset] [] := by
  have kp0 : Keep h h [] := Keep.refl _ _
  refine Go.iload_n 1 d4_0 rfl rfl ?_
  refine Go.aload_n 2 d4_1 rfl rfl rfl ?_
  refine Go.arraylength (z := (4 : Int32)) 3 d4_2 fa0 (by decide : Nat.toInt32 4 = (4 : Int32)) rfl ?_
  refine Go.icmp_ne 14 6 d4_3 (by decide) (by decide) rfl (fun _ => ?_) (fun c => absurd c (by decide))
  refine Go.iload_n 15 d4_14 rfl rfl ?_
  refine Go.newIE (cap := 1) (xs := [0]) "[I" 17 d4_15 (tw15 hw) rfl (by decide) (by decide) (by decide) (by decide) rfl (by decide) (by decide) rfl (fun a2 h3 q4 E5 A6 Ex7 => ?_)
  have ne8 : a ≠ a2 := fun e => absurd fa0.lt (by rw [e, q4]; exact Nat.lt_irrefl _)
  have ge9 : Z.heap.size ≤ a2 := (Eq.symm q4) ▸ hz
  have fr10 : h.size ≤ a2 := by rw [q4]; exact kp0.1
  have f11 : Ari Z h3 a .int [ct0, ct1, ct2, ct3] := fa0.ext E5
  have f12 : Exa Z h3 a "[I" := fa1.ext E5
  have zs13 : Z.heap.size ≤ h3.size := Nat.le_trans hz E5.1
  have kp14 : Keep h h3 [] := kp0.ext E5
  refine Go.astore_n 18 #[.val (.ref a), .val (.int (1 : Int32)), .val (.ref a2)] d4_17 rfl rfl rfl ?_
  refine Go.aload_n 19 d4_18 rfl rfl rfl ?_
  refine Go.iconst 20 (0) d4_19 (by decide) rfl ?_
  refine Go.aload_n 21 d4_20 rfl rfl rfl ?_
  refine Go.iconst 22 (0) d4_21 (by decide) rfl ?_
  refine Go.aload_n 23 d4_22 rfl rfl rfl ?_
  refine Go.arraylength (z := (4 : Int32)) 24 d4_23 f11 (by decide : Nat.toInt32 4 = (4 : Int32)) rfl ?_
  refine Go.iload_n 25 d4_24 rfl rfl ?_
  refine Go.callSIp [.int (4 : Int32), .int (1 : Int32)] [.int (0 : Int32), .ref a2, .int (0 : Int32), .ref a] 28 d4_25 (tw34 hw) (tw35 hw) (tw36 hw) (tw37 hw) pl5 (by decide) (lenOf pd5 rfl) rfl (fun m => ef_k_min m (4 : Int32) (1 : Int32)) _ (k_min hw h3 zs13 (4 : Int32) (1 : Int32)) 4 rfl (Nat.le_of_eq rfl) (by decide) (by decide) (by decide) (by decide) rfl ?_
  refine Go.arraycopy (W := 0) 0 0 1 31 d4_28 (tw38 hw) (tw41 hw) (tw39 hw) (tw40 hw) f11 A6 (fun _ _ => rfl) (fun _ _ => rfl) rfl (by decide) (by decide) (by decide) (by decide) (by decide) (by decide) (by decide : 0 + 1 ≤ 4) (by decide : 0 + 1 ≤ 1) (ys' := [ct0]) rfl ge9 rfl (by decide) (Nat.le_of_eq rfl) (by decide) rfl (fun h18 K19 A20 => ?_)
  have f21 : Ari Z h18 a .int [ct0, ct1, ct2, ct3] := f11.keep K19 (ninS ne8 nin0)
  have f22 : Exa Z h18 a "[I" := f12.keep K19
  have f23 : Exa Z h18 a2 "[I" := Ex7.keep K19
  have zs24 : Z.heap.size ≤ h18.size := Nat.le_trans zs13 K19.1
  have kp25 : Keep h h18 [] := kp14.trans K19 (allS (Or.inr fr10) all0)
  refine Go.aload_n 32 d4_31 rfl rfl rfl ?_
  refine Go.areturn d4_32 rfl rfl rfl (by decide) (by decide) ?_
  exact ⟨a2, rfl, fr10, kp25, A20⟩

theorem ef_k_copy_4_2 (m : MethodId) (x0 : Addr) (x1 : Int32) : entryFrame m #[(.ref x0), (.int x1)] 3 = mkF m 0 #[.val (.ref x0), .val (.int x1), .unset] [] := by first | (simp [entryFrame, mkF, argsToLocals, Value.category]; done) | rfl

set_option maxRecDepth 65536 in
set_option maxHeartbeats 40000000 in
theorem k_copy_4_2 {l : Launch} {Z : State} {a0 : Array Value} (hw : ∀ d ∈ tables_1, d.before a0 Z = true) {ct0 : Int32} {ct1 : Int32} {ct2 : Int32} {ct3 : Int32} (h : Heap) (hz : Z.heap.size ≤ h.size) (a : Addr) (fa0 : Ari Z h a .int [ct0, ct1, ct2, ct3]) (fa1 : Exa Z h a "[I")    : Go l Z (⟨"java/util/Arrays", "copyOf", "([II)[I"⟩ : MethodName) jdk_65_method_123_code 3 (Option.some (Jvm.ClassFile.FieldType.array Jvm.ClassFile.FieldType.int)) ({ frames := 1, cells := 1, slots := 4, locals := 48 } : Room) (QR fun rz h' => ∃ r : Addr, rz = .ref r ∧ h.size ≤ r ∧ Keep h h' [] ∧ Ari Z h' r .int [ct0, ct1]) 0 0 h 0 #[.val (.ref a), .val (.int (2 : Int32)), .unset] [] := by
  have kp0 : Keep h h [] := Keep.refl _ _
  refine Go.iload_n 1 d4_0 rfl rfl ?_
  refine Go.aload_n 2 d4_1 rfl rfl rfl ?_
  refine Go.arraylength (z := (4 : Int32)) 3 d4_2 fa0 (by decide : Nat.toInt32 4 = (4 : Int32)) rfl ?_
  refine Go.icmp_ne 14 6 d4_3 (by decide) (by decide) rfl (fun _ => ?_) (fun c => absurd c (by decide))
  refine Go.iload_n 15 d4_14 rfl rfl ?_
  refine Go.newIE (cap := 2) (xs := [0, 0]) "[I" 17 d4_15 (tw15 hw) rfl (by decide) (by decide) (by decide) (by decide) rfl (by decide) (by decide) rfl (fun a2 h3 q4 E5 A6 Ex7 => ?_)
  have ne8 : a ≠ a2 := fun e => absurd fa0.lt (by rw [e, q4]; exact Nat.lt_irrefl _)
  have ge9 : Z.heap.size ≤ a2 := (Eq.symm q4) ▸ hz
  have fr10 : h.size ≤ a2 := by rw [q4]; exact kp0.1
  have f11 : Ari Z h3 a .int [ct0, ct1, ct2, ct3] := fa0.ext E5
  have f12 : Exa Z h3 a "[I" := fa1.ext E5
  have zs13 : Z.heap.size ≤ h3.size := Nat.le_trans hz E5.1
  have kp14 : Keep h h3 [] := kp0.ext E5
  refine Go.astore_n 18 #[.val (.ref a), .val (.int (2 : Int32)), .val (.ref a2)] d4_17 rfl rfl rfl ?_
  refine Go.aload_n 19 d4_18 rfl rfl rfl ?_
  refine Go.iconst 20 (0) d4_19 (by decide) rfl ?_
  refine Go.aload_n 21 d4_20 rfl rfl rfl ?_
  refine Go.iconst 22 (0) d4_21 (by decide) rfl ?_
  refine Go.aload_n 23 d4_22 rfl rfl rfl ?_
  refine Go.arraylength (z := (4 : Int32)) 24 d4_23 f11 (by decide : Nat.toInt32 4 = (4 : Int32)) rfl ?_
  refine Go.iload_n 25 d4_24 rfl rfl ?_
  refine Go.callSIp [.int (4 : Int32), .int (2 : Int32)] [.int (0 : Int32), .ref a2, .int (0 : Int32), .ref a] 28 d4_25 (tw34 hw) (tw35 hw) (tw36 hw) (tw37 hw) pl5 (by decide) (lenOf pd5 rfl) rfl (fun m => ef_k_min m (4 : Int32) (2 : Int32)) _ (k_min hw h3 zs13 (4 : Int32) (2 : Int32)) 4 rfl (Nat.le_of_eq rfl) (by decide) (by decide) (by decide) (by decide) rfl ?_
  refine Go.arraycopy (W := 0) 0 0 2 31 d4_28 (tw38 hw) (tw41 hw) (tw39 hw) (tw40 hw) f11 A6 (fun _ _ => rfl) (fun _ _ => rfl) rfl (by decide) (by decide) (by decide) (by decide) (by decide) (by decide) (by decide : 0 + 2 ≤ 4) (by decide : 0 + 2 ≤ 2) (ys' := [ct0, ct1]) rfl ge9 rfl (by decide) (Nat.le_of_eq rfl) (by decide) rfl (fun h18 K19 A20 => ?_)
  have f21 : Ari Z h18 a .int [ct0, ct1, ct2, ct3] := f11.keep K19 (ninS ne8 nin0)
  have f22 : Exa Z h18 a "[I" := f12.keep K19
  have f23 : Exa Z h18 a2 "[I" := Ex7.keep K19
  have zs24 : Z.heap.size ≤ h18.size := Nat.le_trans zs13 K19.1
  have kp25 : Keep h h18 [] := kp14.trans K19 (allS (Or.inr fr10) all0)
  refine Go.aload_n 32 d4_31 rfl rfl rfl ?_
  refine Go.areturn d4_32 rfl rfl rfl (by decide) (by decide) ?_
  exact ⟨a2, rfl, fr10, kp25, A20⟩

theorem ef_k_copy_4_3 (m : MethodId) (x0 : Addr) (x1 : Int32) : entryFrame m #[(.ref x0), (.int x1)] 3 = mkF m 0 #[.val (.ref x0), .val (.int x1), .unset] [] := by first | (simp [entryFrame, mkF, argsToLocals, Value.category]; done) | rfl

set_option maxRecDepth 65536 in
set_option maxHeartbeats 40000000 in
theorem k_copy_4_3 {l : Launch} {Z : State} {a0 : Array Value} (hw : ∀ d ∈ tables_1, d.before a0 Z = true) {ct0 : Int32} {ct1 : Int32} {ct2 : Int32} {ct3 : Int32} (h : Heap) (hz : Z.heap.size ≤ h.size) (a : Addr) (fa0 : Ari Z h a .int [ct0, ct1, ct2, ct3]) (fa1 : Exa Z h a "[I")    : Go l Z (⟨"java/util/Arrays", "copyOf", "([II)[I"⟩ : MethodName) jdk_65_method_123_code 3 (Option.some (Jvm.ClassFile.FieldType.array Jvm.ClassFile.FieldType.int)) ({ frames := 1, cells := 1, slots := 4, locals := 48 } : Room) (QR fun rz h' => ∃ r : Addr, rz = .ref r ∧ h.size ≤ r ∧ Keep h h' [] ∧ Ari Z h' r .int [ct0, ct1, ct2]) 0 0 h 0 #[.val (.ref a), .val (.int (3 : Int32)), .unset] [] := by
  have kp0 : Keep h h [] := Keep.refl _ _
  refine Go.iload_n 1 d4_0 rfl rfl ?_
  refine Go.aload_n 2 d4_1 rfl rfl rfl ?_
  refine Go.arraylength (z := (4 : Int32)) 3 d4_2 fa0 (by decide : Nat.toInt32 4 = (4 : Int32)) rfl ?_
  refine Go.icmp_ne 14 6 d4_3 (by decide) (by decide) rfl (fun _ => ?_) (fun c => absurd c (by decide))
  refine Go.iload_n 15 d4_14 rfl rfl ?_
  refine Go.newIE (cap := 3) (xs := [0, 0, 0]) "[I" 17 d4_15 (tw15 hw) rfl (by decide) (by decide) (by decide) (by decide) rfl (by decide) (by decide) rfl (fun a2 h3 q4 E5 A6 Ex7 => ?_)
  have ne8 : a ≠ a2 := fun e => absurd fa0.lt (by rw [e, q4]; exact Nat.lt_irrefl _)
  have ge9 : Z.heap.size ≤ a2 := (Eq.symm q4) ▸ hz
  have fr10 : h.size ≤ a2 := by rw [q4]; exact kp0.1
  have f11 : Ari Z h3 a .int [ct0, ct1, ct2, ct3] := fa0.ext E5
  have f12 : Exa Z h3 a "[I" := fa1.ext E5
  have zs13 : Z.heap.size ≤ h3.size := Nat.le_trans hz E5.1
  have kp14 : Keep h h3 [] := kp0.ext E5
  refine Go.astore_n 18 #[.val (.ref a), .val (.int (3 : Int32)), .val (.ref a2)] d4_17 rfl rfl rfl ?_
  refine Go.aload_n 19 d4_18 rfl rfl rfl ?_
  refine Go.iconst 20 (0) d4_19 (by decide) rfl ?_
  refine Go.aload_n 21 d4_20 rfl rfl rfl ?_
  refine Go.iconst 22 (0) d4_21 (by decide) rfl ?_
  refine Go.aload_n 23 d4_22 rfl rfl rfl ?_
  refine Go.arraylength (z := (4 : Int32)) 24 d4_23 f11 (by decide : Nat.toInt32 4 = (4 : Int32)) rfl ?_
  refine Go.iload_n 25 d4_24 rfl rfl ?_
  refine Go.callSIp [.int (4 : Int32), .int (3 : Int32)] [.int (0 : Int32), .ref a2, .int (0 : Int32), .ref a] 28 d4_25 (tw34 hw) (tw35 hw) (tw36 hw) (tw37 hw) pl5 (by decide) (lenOf pd5 rfl) rfl (fun m => ef_k_min m (4 : Int32) (3 : Int32)) _ (k_min hw h3 zs13 (4 : Int32) (3 : Int32)) 4 rfl (Nat.le_of_eq rfl) (by decide) (by decide) (by decide) (by decide) rfl ?_
  refine Go.arraycopy (W := 0) 0 0 3 31 d4_28 (tw38 hw) (tw41 hw) (tw39 hw) (tw40 hw) f11 A6 (fun _ _ => rfl) (fun _ _ => rfl) rfl (by decide) (by decide) (by decide) (by decide) (by decide) (by decide) (by decide : 0 + 3 ≤ 4) (by decide : 0 + 3 ≤ 3) (ys' := [ct0, ct1, ct2]) rfl ge9 rfl (by decide) (Nat.le_of_eq rfl) (by decide) rfl (fun h18 K19 A20 => ?_)
  have f21 : Ari Z h18 a .int [ct0, ct1, ct2, ct3] := f11.keep K19 (ninS ne8 nin0)
  have f22 : Exa Z h18 a "[I" := f12.keep K19
  have f23 : Exa Z h18 a2 "[I" := Ex7.keep K19
  have zs24 : Z.heap.size ≤ h18.size := Nat.le_trans zs13 K19.1
  have kp25 : Keep h h18 [] := kp14.trans K19 (allS (Or.inr fr10) all0)
  refine Go.aload_n 32 d4_31 rfl rfl rfl ?_
  refine Go.areturn d4_32 rfl rfl rfl (by decide) (by decide) ?_
  exact ⟨a2, rfl, fr10, kp25, A20⟩

theorem ef_k_copy_4_4 (m : MethodId) (x0 : Addr) (x1 : Int32) : entryFrame m #[(.ref x0), (.int x1)] 3 = mkF m 0 #[.val (.ref x0), .val (.int x1), .unset] [] := by first | (simp [entryFrame, mkF, argsToLocals, Value.category]; done) | rfl

set_option maxRecDepth 65536 in
set_option maxHeartbeats 40000000 in
theorem k_copy_4_4 {l : Launch} {Z : State} {a0 : Array Value} (hw : ∀ d ∈ tables_1, d.before a0 Z = true) {ct0 : Int32} {ct1 : Int32} {ct2 : Int32} {ct3 : Int32} (h : Heap) (hz : Z.heap.size ≤ h.size) (a : Addr) (fa0 : Ari Z h a .int [ct0, ct1, ct2, ct3]) (fa1 : Exa Z h a "[I")    : Go l Z (⟨"java/util/Arrays", "copyOf", "([II)[I"⟩ : MethodName) jdk_65_method_123_code 3 (Option.some (Jvm.ClassFile.FieldType.array Jvm.ClassFile.FieldType.int)) ({ frames := 1, cells := 1, slots := 4, locals := 48 } : Room) (QR fun rz h' => ∃ r : Addr, rz = .ref r ∧ h.size ≤ r ∧ Keep h h' [] ∧ Ari Z h' r .int [ct0, ct1, ct2, ct3]) 0 0 h 0 #[.val (.ref a), .val (.int (4 : Int32)), .unset] [] := by
  have kp0 : Keep h h [] := Keep.refl _ _
  refine Go.iload_n 1 d4_0 rfl rfl ?_
  refine Go.aload_n 2 d4_1 rfl rfl rfl ?_
  refine Go.arraylength (z := (4 : Int32)) 3 d4_2 fa0 (by decide : Nat.toInt32 4 = (4 : Int32)) rfl ?_
  refine Go.icmp_ne 14 6 d4_3 (by decide) (by decide) rfl (fun c => absurd c (by decide)) (fun _ => ?_)
  refine Go.aload_n 7 d4_6 rfl rfl rfl ?_
  refine Go.clone (W := 0) 4 10 d4_7 (tw46 hw) (tw47 hw) (tw51 hw) (tw49 hw) (tw50 hw) (tw52 hw) fa0 fa1 (fun _ _ => rfl) rfl (by decide) (Nat.le_of_eq rfl) (by decide) (by decide : 4 ≤ 4) (by decide) (by decide) rfl (fun a2 h3 q4 E5 A6 Ex7 => ?_)
  have ne8 : a ≠ a2 := fun e => absurd fa0.lt (by rw [e, q4]; exact Nat.lt_irrefl _)
  have ge9 : Z.heap.size ≤ a2 := (Eq.symm q4) ▸ hz
  have fr10 : h.size ≤ a2 := by rw [q4]; exact kp0.1
  have f11 : Ari Z h3 a .int [ct0, ct1, ct2, ct3] := fa0.ext E5
  have f12 : Exa Z h3 a "[I" := fa1.ext E5
  have zs13 : Z.heap.size ≤ h3.size := Nat.le_trans hz E5.1
  have kp14 : Keep h h3 [] := kp0.ext E5
  refine Go.cast 13 d4_10 (tw53 hw) (Ins.self Ex7) rfl ?_
  refine Go.areturn d4_13 rfl rfl rfl (by decide) (by decide) ?_
  exact ⟨a2, rfl, fr10, kp14, A6⟩

theorem d2_0 : decode prog_26_method_1_code 0 = .ok (.aload_n 0, 1) := by decide +kernel
theorem d2_1 : decode prog_26_method_1_code 1 = .ok (.invokespecial 1, 3) := by decide +kernel
theorem d2_4 : decode prog_26_method_1_code 4 = .ok (.aload_n 2, 1) := by decide +kernel
theorem d2_5 : decode prog_26_method_1_code 5 = .ok (.arraylength, 1) := by decide +kernel
theorem d2_6 : decode prog_26_method_1_code 6 = .ok (.istore_n 3, 1) := by decide +kernel
theorem d2_7 : decode prog_26_method_1_code 7 = .ok (.iload_n 3, 1) := by decide +kernel
theorem d2_8 : decode prog_26_method_1_code 8 = .ok (.ifCond .le 17, 3) := by decide +kernel
theorem d2_11 : decode prog_26_method_1_code 11 = .ok (.aload_n 2, 1) := by decide +kernel
theorem d2_12 : decode prog_26_method_1_code 12 = .ok (.iload_n 3, 1) := by decide +kernel
theorem d2_13 : decode prog_26_method_1_code 13 = .ok (.iconst 1, 1) := by decide +kernel
theorem d2_14 : decode prog_26_method_1_code 14 = .ok (.isub, 1) := by decide +kernel
theorem d2_15 : decode prog_26_method_1_code 15 = .ok (.iaload, 1) := by decide +kernel
theorem d2_16 : decode prog_26_method_1_code 16 = .ok (.ifCond .ne 9, 3) := by decide +kernel
theorem d2_19 : decode prog_26_method_1_code 19 = .ok (.iinc 3 (-1), 3) := by decide +kernel
theorem d2_22 : decode prog_26_method_1_code 22 = .ok (.goto (-15), 3) := by decide +kernel
theorem d2_25 : decode prog_26_method_1_code 25 = .ok (.aload_n 0, 1) := by decide +kernel
theorem d2_26 : decode prog_26_method_1_code 26 = .ok (.iload_n 1, 1) := by decide +kernel
theorem d2_27 : decode prog_26_method_1_code 27 = .ok (.putfield 7, 3) := by decide +kernel
theorem d2_30 : decode prog_26_method_1_code 30 = .ok (.aload_n 0, 1) := by decide +kernel
theorem d2_31 : decode prog_26_method_1_code 31 = .ok (.aload_n 2, 1) := by decide +kernel
theorem d2_32 : decode prog_26_method_1_code 32 = .ok (.iload_n 3, 1) := by decide +kernel
theorem d2_33 : decode prog_26_method_1_code 33 = .ok (.invokestatic 13, 3) := by decide +kernel
theorem d2_36 : decode prog_26_method_1_code 36 = .ok (.putfield 19, 3) := by decide +kernel
theorem d2_39 : decode prog_26_method_1_code 39 = .ok (.lconst 0, 1) := by decide +kernel
theorem d2_40 : decode prog_26_method_1_code 40 = .ok (.lstore 4, 2) := by decide +kernel
theorem d2_42 : decode prog_26_method_1_code 42 = .ok (.iconst 1, 1) := by decide +kernel
theorem d2_43 : decode prog_26_method_1_code 43 = .ok (.istore 6, 2) := by decide +kernel
theorem d2_45 : decode prog_26_method_1_code 45 = .ok (.iload 6, 2) := by decide +kernel
theorem d2_47 : decode prog_26_method_1_code 47 = .ok (.iload_n 3, 1) := by decide +kernel
theorem d2_48 : decode prog_26_method_1_code 48 = .ok (.if_icmp .gt 25, 3) := by decide +kernel
theorem d2_51 : decode prog_26_method_1_code 51 = .ok (.lload 4, 2) := by decide +kernel
theorem d2_53 : decode prog_26_method_1_code 53 = .ok (.iload 6, 2) := by decide +kernel
theorem d2_55 : decode prog_26_method_1_code 55 = .ok (.i2l, 1) := by decide +kernel
theorem d2_56 : decode prog_26_method_1_code 56 = .ok (.aload_n 2, 1) := by decide +kernel
theorem d2_57 : decode prog_26_method_1_code 57 = .ok (.iload 6, 2) := by decide +kernel
theorem d2_59 : decode prog_26_method_1_code 59 = .ok (.iconst 1, 1) := by decide +kernel
theorem d2_60 : decode prog_26_method_1_code 60 = .ok (.isub, 1) := by decide +kernel
theorem d2_61 : decode prog_26_method_1_code 61 = .ok (.iaload, 1) := by decide +kernel
theorem d2_62 : decode prog_26_method_1_code 62 = .ok (.i2l, 1) := by decide +kernel
theorem d2_63 : decode prog_26_method_1_code 63 = .ok (.lmul, 1) := by decide +kernel
theorem d2_64 : decode prog_26_method_1_code 64 = .ok (.ladd, 1) := by decide +kernel
theorem d2_65 : decode prog_26_method_1_code 65 = .ok (.lstore 4, 2) := by decide +kernel
theorem d2_67 : decode prog_26_method_1_code 67 = .ok (.iinc 6 1, 3) := by decide +kernel
theorem d2_70 : decode prog_26_method_1_code 70 = .ok (.goto (-25), 3) := by decide +kernel
theorem d2_73 : decode prog_26_method_1_code 73 = .ok (.aload_n 0, 1) := by decide +kernel
theorem d2_74 : decode prog_26_method_1_code 74 = .ok (.lload 4, 2) := by decide +kernel
theorem d2_76 : decode prog_26_method_1_code 76 = .ok (.putfield 23, 3) := by decide +kernel
theorem d2_79 : decode prog_26_method_1_code 79 = .ok (.return_, 1) := by decide +kernel

theorem pd2 : parseMethodDescriptor "(I[I)V" = some ⟨[.int, (.array .int)], none⟩ := by decide +kernel
theorem pl2 : plainFor (⟨"dev/stablemate/solve/Profile", "<init>", "(I[I)V"⟩ : MethodName) = true := by first | exact plainFor_of_name (by first | (simp [plainName, overriddenIn]; done) | decide +kernel) | decide +kernel

theorem ef_k_init_3 (m : MethodId) (x0 : Addr) (x1 : Int32) (x2 : Addr) : entryFrame m #[(.ref x0), (.int x1), (.ref x2)] 7 = mkF m 0 #[.val (.ref x0), .val (.int x1), .val (.ref x2), .unset, .unset, .unset, .unset] [] := by first | (simp [entryFrame, mkF, argsToLocals, Value.category]; done) | rfl

set_option maxRecDepth 65536 in
set_option maxHeartbeats 40000000 in
theorem k_init_3 {l : Launch} {Z : State} {a0 : Array Value} (hw : ∀ d ∈ tables_1, d.before a0 Z = true) {ct0 : Int32} {ct1 : Int32} {ct2 : Int32} (h : Heap) (hz : Z.heap.size ≤ h.size) (a : Addr) (r : Addr) (fa0 : Exa Z h a "dev/stablemate/solve/Profile") (fa1 : Fld Z h a "dev/stablemate/solve/Profile" "counts" "[I" (.null)) (fa2 : Fld Z h a "dev/stablemate/solve/Profile" "cost" "J" (.long (0 : Int64))) (fa3 : Fld Z h a "dev/stablemate/solve/Profile" "length" "I" (.int (0 : Int32))) (fa4 : Ari Z h r .int [ct0, ct1, ct2]) (fa5 : Exa Z h r "[I")  (ge_a : Z.heap.size ≤ a) (ne_a_r : a ≠ r) : Go l Z (⟨"dev/stablemate/solve/Profile", "<init>", "(I[I)V"⟩ : MethodName) prog_26_method_1_code 7 (Option.none : Option Jvm.ClassFile.FieldType) ({ frames := 2, cells := 1, slots := 4, locals := 64 } : Room) (QV fun h' => ∃ am : Addr, h.size ≤ am ∧ Keep h h' [a] ∧ Exa Z h' a "dev/stablemate/solve/Profile" ∧ Fld Z h' a "dev/stablemate/solve/Profile" "counts" "[I" (.ref am) ∧ Fld Z h' a "dev/stablemate/solve/Profile" "cost" "J" (.long (own_cost [ct0, ct1, ct2])) ∧ Ari Z h' am .int (own_trim [ct0, ct1, ct2])) 0 0 h 0 #[.val (.ref a), .val (.int (3 : Int32)), .val (.ref r), .unset, .unset, .unset, .unset] [] := by
  have kp0 : Keep h h [a] := Keep.refl _ _
  refine Go.aload_n 1 d2_0 rfl rfl rfl ?_
  refine Go.initO 0 4 d2_1 (tw25 hw) (tw26 hw) (tw27 hw) rfl (by decide) (Nat.le_of_eq rfl) (by decide) rfl ?_
  refine Go.aload_n 5 d2_4 rfl rfl rfl ?_
  refine Go.arraylength (z := (3 : Int32)) 6 d2_5 fa4 (by decide : Nat.toInt32 3 = (3 : Int32)) rfl ?_
  refine Go.istore_n 7 #[.val (.ref a), .val (.int (3 : Int32)), .val (.ref r), .val (.int (3 : Int32)), .unset, .unset, .unset] d2_6 rfl rfl ?_
  refine Go.iload_n 8 d2_7 rfl rfl ?_
  refine Go.if_le 25 11 d2_8 (by decide) (by decide) rfl (fun c => absurd c (by decide)) (fun _ => ?_)
  refine Go.aload_n 12 d2_11 rfl rfl rfl ?_
  refine Go.iload_n 13 d2_12 rfl rfl ?_
  refine Go.iconst 14 (1) d2_13 (by decide) rfl ?_
  refine Go.isub 15 d2_14 rfl ?_
  refine Go.iaload (x := ct2) (2) 16 d2_15 fa4 (by decide) (by decide) rfl rfl ?_
  refine Go.if_ne 25 19 d2_16 (by decide) (by decide) rfl (fun c2 => ?_) (fun c2 => ?_)
  ·
    refine Go.aload_n 26 d2_25 rfl rfl rfl ?_
    refine Go.iload_n 27 d2_26 rfl rfl ?_
    refine Go.putfield (ty := .int) 30 d2_27 (tw28 hw) fa3 fa0 (Or.inr ⟨(tw29 hw), rfl, rfl⟩) (tw21 hw) (by decide) rfl rfl ge_a rfl (fun h3 W4 => ?_)
    have f5 : Exa Z h3 a "dev/stablemate/solve/Profile" := fa0.wr W4
    have f6 : Fld Z h3 a "dev/stablemate/solve/Profile" "counts" "[I" (.null) := fa1.other W4 (Or.inr (slot_ne (Or.inr (tw43 hw)) (Or.inr (tw29 hw)) (by decide) (by decide +kernel : parseFieldDescriptor "[I" = some (.array .int)) (by decide +kernel : parseFieldDescriptor "I" = some .int)))
    have f7 : Fld Z h3 a "dev/stablemate/solve/Profile" "cost" "J" (.long (0 : Int64)) := fa2.other W4 (Or.inr (slot_ne (Or.inr (tw45 hw)) (Or.inr (tw29 hw)) (by decide) (by decide +kernel : parseFieldDescriptor "J" = some .long) (by decide +kernel : parseFieldDescriptor "I" = some .int)))
    have f8 : Fld Z h3 a "dev/stablemate/solve/Profile" "length" "I" (.int (3 : Int32)) := fa3.same W4
    have f9 : Ari Z h3 r .int [ct0, ct1, ct2] := fa4.other W4 (Ne.symm ne_a_r)
    have f10 : Exa Z h3 r "[I" := fa5.wr W4
    have zs11 : Z.heap.size ≤ h3.size := W4.size ▸ hz
    have kp12 : Keep h h3 [a] := kp0.wr W4 (Or.inl (by simp))
    refine Go.aload_n 31 d2_30 rfl rfl rfl ?_
    refine Go.aload_n 32 d2_31 rfl rfl rfl ?_
    refine Go.iload_n 33 d2_32 rfl rfl ?_
    refine Go.callSR [.ref r, .int (3 : Int32)] [.ref a] 36 d2_33 (tw30 hw) (tw31 hw) (tw32 hw) (tw33 hw) pl4 (by decide) (lenOf pd4 rfl) rfl (fun m => ef_k_copy_3_3 m r (3 : Int32)) _ (k_copy_3_3 hw h3 zs11 r f9 f10) 1 rfl (Nat.le_of_eq rfl) (by decide) (by decide) (by decide) (by decide) rfl ?_
    rintro z13 h14 ⟨a16, rfl, g17, K15, f18⟩
    have ne19 : a ≠ a16 := Nat.ne_of_lt (Nat.lt_of_lt_of_le f5.lt g17)
    have ne20 : r ≠ a16 := Nat.ne_of_lt (Nat.lt_of_lt_of_le f9.lt g17)
    have ge21 : Z.heap.size ≤ a16 := Nat.le_trans zs11 g17
    have fr22 : h.size ≤ a16 := Nat.le_trans kp12.1 g17
    have f23 : Exa Z h14 a "dev/stablemate/solve/Profile" := f5.keep K15
    have f24 : Fld Z h14 a "dev/stablemate/solve/Profile" "counts" "[I" (.null) := f6.keep K15 nin0
    have f25 : Fld Z h14 a "dev/stablemate/solve/Profile" "cost" "J" (.long (0 : Int64)) := f7.keep K15 nin0
    have f26 : Fld Z h14 a "dev/stablemate/solve/Profile" "length" "I" (.int (3 : Int32)) := f8.keep K15 nin0
    have f27 : Ari Z h14 r .int [ct0, ct1, ct2] := f9.keep K15 nin0
    have f28 : Exa Z h14 r "[I" := f10.keep K15
    have zs29 : Z.heap.size ≤ h14.size := Nat.le_trans zs11 K15.1
    have kp30 : Keep h h14 [a] := kp12.trans K15 all0
    refine Go.putfield (ty := (.array .int)) 39 d2_36 (tw42 hw) f24 f23 (Or.inr ⟨(tw43 hw), rfl, rfl⟩) (tw21 hw) (by decide) rfl rfl ge_a rfl (fun h31 W32 => ?_)
    have f33 : Exa Z h31 a "dev/stablemate/solve/Profile" := f23.wr W32
    have f34 : Fld Z h31 a "dev/stablemate/solve/Profile" "counts" "[I" (.ref a16) := f24.same W32
    have f35 : Fld Z h31 a "dev/stablemate/solve/Profile" "cost" "J" (.long (0 : Int64)) := f25.other W32 (Or.inr (slot_ne (Or.inr (tw45 hw)) (Or.inr (tw43 hw)) (by decide) (by decide +kernel : parseFieldDescriptor "J" = some .long) (by decide +kernel : parseFieldDescriptor "[I" = some (.array .int))))
    have f36 : Fld Z h31 a "dev/stablemate/solve/Profile" "length" "I" (.int (3 : Int32)) := f26.other W32 (Or.inr (slot_ne (Or.inr (tw29 hw)) (Or.inr (tw43 hw)) (by decide) (by decide +kernel : parseFieldDescriptor "I" = some .int) (by decide +kernel : parseFieldDescriptor "[I" = some (.array .int))))
    have f37 : Ari Z h31 r .int [ct0, ct1, ct2] := f27.other W32 (Ne.symm ne_a_r)
    have f38 : Exa Z h31 r "[I" := f28.wr W32
    have f39 : Ari Z h31 a16 .int [ct0, ct1, ct2] := f18.other W32 (Ne.symm ne19)
    have zs40 : Z.heap.size ≤ h31.size := W32.size ▸ zs29
    have kp41 : Keep h h31 [a] := kp30.wr W32 (Or.inl (by simp))
    refine Go.lconst 40 (0) d2_39 (by decide) rfl ?_
    refine Go.lstore 42 #[.val (.ref a), .val (.int (3 : Int32)), .val (.ref r), .val (.int (3 : Int32)), .val (.long (0 : Int64)), .second, .unset] d2_40 rfl rfl ?_
    refine Go.iconst 43 (1) d2_42 (by decide) rfl ?_
    refine Go.istore 45 #[.val (.ref a), .val (.int (3 : Int32)), .val (.ref r), .val (.int (3 : Int32)), .val (.long (0 : Int64)), .second, .val (.int (1 : Int32))] d2_43 rfl rfl ?_
    refine Go.iload 47 d2_45 rfl rfl ?_
    refine Go.iload_n 48 d2_47 rfl rfl ?_
    refine Go.icmp_gt 73 51 d2_48 (by decide) (by decide) rfl (fun c => absurd c (by decide)) (fun _ => ?_)
    refine Go.lload 53 d2_51 rfl rfl ?_
    refine Go.iload 55 d2_53 rfl rfl ?_
    refine Go.i2l 56 d2_55 rfl ?_
    refine Go.aload_n 57 d2_56 rfl rfl rfl ?_
    refine Go.iload 59 d2_57 rfl rfl ?_
    refine Go.iconst 60 (1) d2_59 (by decide) rfl ?_
    refine Go.isub 61 d2_60 rfl ?_
    refine Go.iaload (x := ct0) (0) 62 d2_61 f37 (by decide) (by decide) rfl rfl ?_
    refine Go.i2l 63 d2_62 rfl ?_
    refine Go.lmul 64 d2_63 rfl ?_
    refine Go.ladd 65 d2_64 rfl ?_
    refine Go.lstore 67 #[.val (.ref a), .val (.int (3 : Int32)), .val (.ref r), .val (.int (3 : Int32)), .val (.long ((0 : Int64) + ((Int32.toInt64 (1 : Int32)) * (Int32.toInt64 ct0)))), .second, .val (.int (1 : Int32))] d2_65 rfl rfl ?_
    refine Go.iinc 70 (1) #[.val (.ref a), .val (.int (3 : Int32)), .val (.ref r), .val (.int (3 : Int32)), .val (.long ((0 : Int64) + ((Int32.toInt64 (1 : Int32)) * (Int32.toInt64 ct0)))), .second, .val (.int ((1 : Int32) + (1 : Int32)))] d2_67 (by decide) rfl rfl rfl ?_
    refine Go.goto 45 d2_70 (by decide) (by decide) ?_
    refine Go.iload 47 d2_45 rfl rfl ?_
    refine Go.iload_n 48 d2_47 rfl rfl ?_
    refine Go.icmp_gt 73 51 d2_48 (by decide) (by decide) rfl (fun c => absurd c (by decide)) (fun _ => ?_)
    refine Go.lload 53 d2_51 rfl rfl ?_
    refine Go.iload 55 d2_53 rfl rfl ?_
    refine Go.i2l 56 d2_55 rfl ?_
    refine Go.aload_n 57 d2_56 rfl rfl rfl ?_
    refine Go.iload 59 d2_57 rfl rfl ?_
    refine Go.iconst 60 (1) d2_59 (by decide) rfl ?_
    refine Go.isub 61 d2_60 rfl ?_
    refine Go.iaload (x := ct1) (1) 62 d2_61 f37 (by decide) (by decide) rfl rfl ?_
    refine Go.i2l 63 d2_62 rfl ?_
    refine Go.lmul 64 d2_63 rfl ?_
    refine Go.ladd 65 d2_64 rfl ?_
    refine Go.lstore 67 #[.val (.ref a), .val (.int (3 : Int32)), .val (.ref r), .val (.int (3 : Int32)), .val (.long (((0 : Int64) + ((Int32.toInt64 (1 : Int32)) * (Int32.toInt64 ct0))) + ((Int32.toInt64 ((1 : Int32) + (1 : Int32))) * (Int32.toInt64 ct1)))), .second, .val (.int ((1 : Int32) + (1 : Int32)))] d2_65 rfl rfl ?_
    refine Go.iinc 70 (1) #[.val (.ref a), .val (.int (3 : Int32)), .val (.ref r), .val (.int (3 : Int32)), .val (.long (((0 : Int64) + ((Int32.toInt64 (1 : Int32)) * (Int32.toInt64 ct0))) + ((Int32.toInt64 ((1 : Int32) + (1 : Int32))) * (Int32.toInt64 ct1)))), .second, .val (.int (((1 : Int32) + (1 : Int32)) + (1 : Int32)))] d2_67 (by decide) rfl rfl rfl ?_
    refine Go.goto 45 d2_70 (by decide) (by decide) ?_
    refine Go.iload 47 d2_45 rfl rfl ?_
    refine Go.iload_n 48 d2_47 rfl rfl ?_
    refine Go.icmp_gt 73 51 d2_48 (by decide) (by decide) rfl (fun c => absurd c (by decide)) (fun _ => ?_)
    refine Go.lload 53 d2_51 rfl rfl ?_
    refine Go.iload 55 d2_53 rfl rfl ?_
    refine Go.i2l 56 d2_55 rfl ?_
    refine Go.aload_n 57 d2_56 rfl rfl rfl ?_
    refine Go.iload 59 d2_57 rfl rfl ?_
    refine Go.iconst 60 (1) d2_59 (by decide) rfl ?_
    refine Go.isub 61 d2_60 rfl ?_
    refine Go.iaload (x := ct2) (2) 62 d2_61 f37 (by decide) (by decide) rfl rfl ?_
    refine Go.i2l 63 d2_62 rfl ?_
    refine Go.lmul 64 d2_63 rfl ?_
    refine Go.ladd 65 d2_64 rfl ?_
    refine Go.lstore 67 #[.val (.ref a), .val (.int (3 : Int32)), .val (.ref r), .val (.int (3 : Int32)), .val (.long ((((0 : Int64) + ((Int32.toInt64 (1 : Int32)) * (Int32.toInt64 ct0))) + ((Int32.toInt64 ((1 : Int32) + (1 : Int32))) * (Int32.toInt64 ct1))) + ((Int32.toInt64 (((1 : Int32) + (1 : Int32)) + (1 : Int32))) * (Int32.toInt64 ct2)))), .second, .val (.int (((1 : Int32) + (1 : Int32)) + (1 : Int32)))] d2_65 rfl rfl ?_
    refine Go.iinc 70 (1) #[.val (.ref a), .val (.int (3 : Int32)), .val (.ref r), .val (.int (3 : Int32)), .val (.long ((((0 : Int64) + ((Int32.toInt64 (1 : Int32)) * (Int32.toInt64 ct0))) + ((Int32.toInt64 ((1 : Int32) + (1 : Int32))) * (Int32.toInt64 ct1))) + ((Int32.toInt64 (((1 : Int32) + (1 : Int32)) + (1 : Int32))) * (Int32.toInt64 ct2)))), .second, .val (.int ((((1 : Int32) + (1 : Int32)) + (1 : Int32)) + (1 : Int32)))] d2_67 (by decide) rfl rfl rfl ?_
    refine Go.goto 45 d2_70 (by decide) (by decide) ?_
    refine Go.iload 47 d2_45 rfl rfl ?_
    refine Go.iload_n 48 d2_47 rfl rfl ?_
    refine Go.icmp_gt 73 51 d2_48 (by decide) (by decide) rfl (fun _ => ?_) (fun c => absurd c (by decide))
    refine Go.aload_n 74 d2_73 rfl rfl rfl ?_
    refine Go.lload 76 d2_74 rfl rfl ?_
    refine Go.putfield (ty := .long) 79 d2_76 (tw44 hw) f35 f33 (Or.inr ⟨(tw45 hw), rfl, rfl⟩) (tw21 hw) (by decide) rfl rfl ge_a rfl (fun h46 W47 => ?_)
    have f48 : Exa Z h46 a "dev/stablemate/solve/Profile" := f33.wr W47
    have f49 : Fld Z h46 a "dev/stablemate/solve/Profile" "counts" "[I" (.ref a16) := f34.other W47 (Or.inr (slot_ne (Or.inr (tw43 hw)) (Or.inr (tw45 hw)) (by decide) (by decide +kernel : parseFieldDescriptor "[I" = some (.array .int)) (by decide +kernel : parseFieldDescriptor "J" = some .long)))
    have f50 : Fld Z h46 a "dev/stablemate/solve/Profile" "cost" "J" (.long ((((0 : Int64) + ((Int32.toInt64 (1 : Int32)) * (Int32.toInt64 ct0))) + ((Int32.toInt64 ((1 : Int32) + (1 : Int32))) * (Int32.toInt64 ct1))) + ((Int32.toInt64 (((1 : Int32) + (1 : Int32)) + (1 : Int32))) * (Int32.toInt64 ct2)))) := f35.same W47
    have f51 : Fld Z h46 a "dev/stablemate/solve/Profile" "length" "I" (.int (3 : Int32)) := f36.other W47 (Or.inr (slot_ne (Or.inr (tw29 hw)) (Or.inr (tw45 hw)) (by decide) (by decide +kernel : parseFieldDescriptor "I" = some .int) (by decide +kernel : parseFieldDescriptor "J" = some .long)))
    have f52 : Ari Z h46 r .int [ct0, ct1, ct2] := f37.other W47 (Ne.symm ne_a_r)
    have f53 : Exa Z h46 r "[I" := f38.wr W47
    have f54 : Ari Z h46 a16 .int [ct0, ct1, ct2] := f39.other W47 (Ne.symm ne19)
    have zs55 : Z.heap.size ≤ h46.size := W47.size ▸ zs40
    have kp56 : Keep h h46 [a] := kp41.wr W47 (Or.inl (by simp))
    refine Go.vreturn d2_79 rfl (by decide) (by decide) ?_
    have e9 : own_trim [ct0, ct1, ct2] = [ct0, ct1, ct2] := by simp [own_trim, c2]
    exact ⟨a16, fr22, kp56, f48, f49, (by unfold own_cost; rw [e9]; exact f50), (by rw [e9]; exact f54)⟩
  ·
    refine Go.iinc 22 (-1) #[.val (.ref a), .val (.int (3 : Int32)), .val (.ref r), .val (.int ((3 : Int32) + (-1 : Int32))), .unset, .unset, .unset] d2_19 (by decide) rfl rfl rfl ?_
    refine Go.goto 7 d2_22 (by decide) (by decide) ?_
    refine Go.iload_n 8 d2_7 rfl rfl ?_
    refine Go.if_le 25 11 d2_8 (by decide) (by decide) rfl (fun c => absurd c (by decide)) (fun _ => ?_)
    refine Go.aload_n 12 d2_11 rfl rfl rfl ?_
    refine Go.iload_n 13 d2_12 rfl rfl ?_
    refine Go.iconst 14 (1) d2_13 (by decide) rfl ?_
    refine Go.isub 15 d2_14 rfl ?_
    refine Go.iaload (x := ct1) (1) 16 d2_15 fa4 (by decide) (by decide) rfl rfl ?_
    refine Go.if_ne 25 19 d2_16 (by decide) (by decide) rfl (fun c58 => ?_) (fun c58 => ?_)
    ·
      refine Go.aload_n 26 d2_25 rfl rfl rfl ?_
      refine Go.iload_n 27 d2_26 rfl rfl ?_
      refine Go.putfield (ty := .int) 30 d2_27 (tw28 hw) fa3 fa0 (Or.inr ⟨(tw29 hw), rfl, rfl⟩) (tw21 hw) (by decide) rfl rfl ge_a rfl (fun h59 W60 => ?_)
      have f61 : Exa Z h59 a "dev/stablemate/solve/Profile" := fa0.wr W60
      have f62 : Fld Z h59 a "dev/stablemate/solve/Profile" "counts" "[I" (.null) := fa1.other W60 (Or.inr (slot_ne (Or.inr (tw43 hw)) (Or.inr (tw29 hw)) (by decide) (by decide +kernel : parseFieldDescriptor "[I" = some (.array .int)) (by decide +kernel : parseFieldDescriptor "I" = some .int)))
      have f63 : Fld Z h59 a "dev/stablemate/solve/Profile" "cost" "J" (.long (0 : Int64)) := fa2.other W60 (Or.inr (slot_ne (Or.inr (tw45 hw)) (Or.inr (tw29 hw)) (by decide) (by decide +kernel : parseFieldDescriptor "J" = some .long) (by decide +kernel : parseFieldDescriptor "I" = some .int)))
      have f64 : Fld Z h59 a "dev/stablemate/solve/Profile" "length" "I" (.int (3 : Int32)) := fa3.same W60
      have f65 : Ari Z h59 r .int [ct0, ct1, ct2] := fa4.other W60 (Ne.symm ne_a_r)
      have f66 : Exa Z h59 r "[I" := fa5.wr W60
      have zs67 : Z.heap.size ≤ h59.size := W60.size ▸ hz
      have kp68 : Keep h h59 [a] := kp0.wr W60 (Or.inl (by simp))
      refine Go.aload_n 31 d2_30 rfl rfl rfl ?_
      refine Go.aload_n 32 d2_31 rfl rfl rfl ?_
      refine Go.iload_n 33 d2_32 rfl rfl ?_
      refine Go.callSR [.ref r, .int ((3 : Int32) + (-1 : Int32))] [.ref a] 36 d2_33 (tw30 hw) (tw31 hw) (tw32 hw) (tw33 hw) pl4 (by decide) (lenOf pd4 rfl) rfl (fun m => ef_k_copy_3_2 m r ((3 : Int32) + (-1 : Int32))) _ (k_copy_3_2 hw h59 zs67 r f65 f66) 1 rfl (Nat.le_of_eq rfl) (by decide) (by decide) (by decide) (by decide) rfl ?_
      rintro z69 h70 ⟨a72, rfl, g73, K71, f74⟩
      have ne75 : a ≠ a72 := Nat.ne_of_lt (Nat.lt_of_lt_of_le f61.lt g73)
      have ne76 : r ≠ a72 := Nat.ne_of_lt (Nat.lt_of_lt_of_le f65.lt g73)
      have ge77 : Z.heap.size ≤ a72 := Nat.le_trans zs67 g73
      have fr78 : h.size ≤ a72 := Nat.le_trans kp68.1 g73
      have f79 : Exa Z h70 a "dev/stablemate/solve/Profile" := f61.keep K71
      have f80 : Fld Z h70 a "dev/stablemate/solve/Profile" "counts" "[I" (.null) := f62.keep K71 nin0
      have f81 : Fld Z h70 a "dev/stablemate/solve/Profile" "cost" "J" (.long (0 : Int64)) := f63.keep K71 nin0
      have f82 : Fld Z h70 a "dev/stablemate/solve/Profile" "length" "I" (.int (3 : Int32)) := f64.keep K71 nin0
      have f83 : Ari Z h70 r .int [ct0, ct1, ct2] := f65.keep K71 nin0
      have f84 : Exa Z h70 r "[I" := f66.keep K71
      have zs85 : Z.heap.size ≤ h70.size := Nat.le_trans zs67 K71.1
      have kp86 : Keep h h70 [a] := kp68.trans K71 all0
      refine Go.putfield (ty := (.array .int)) 39 d2_36 (tw42 hw) f80 f79 (Or.inr ⟨(tw43 hw), rfl, rfl⟩) (tw21 hw) (by decide) rfl rfl ge_a rfl (fun h87 W88 => ?_)
      have f89 : Exa Z h87 a "dev/stablemate/solve/Profile" := f79.wr W88
      have f90 : Fld Z h87 a "dev/stablemate/solve/Profile" "counts" "[I" (.ref a72) := f80.same W88
      have f91 : Fld Z h87 a "dev/stablemate/solve/Profile" "cost" "J" (.long (0 : Int64)) := f81.other W88 (Or.inr (slot_ne (Or.inr (tw45 hw)) (Or.inr (tw43 hw)) (by decide) (by decide +kernel : parseFieldDescriptor "J" = some .long) (by decide +kernel : parseFieldDescriptor "[I" = some (.array .int))))
      have f92 : Fld Z h87 a "dev/stablemate/solve/Profile" "length" "I" (.int (3 : Int32)) := f82.other W88 (Or.inr (slot_ne (Or.inr (tw29 hw)) (Or.inr (tw43 hw)) (by decide) (by decide +kernel : parseFieldDescriptor "I" = some .int) (by decide +kernel : parseFieldDescriptor "[I" = some (.array .int))))
      have f93 : Ari Z h87 r .int [ct0, ct1, ct2] := f83.other W88 (Ne.symm ne_a_r)
      have f94 : Exa Z h87 r "[I" := f84.wr W88
      have f95 : Ari Z h87 a72 .int [ct0, ct1] := f74.other W88 (Ne.symm ne75)
      have zs96 : Z.heap.size ≤ h87.size := W88.size ▸ zs85
      have kp97 : Keep h h87 [a] := kp86.wr W88 (Or.inl (by simp))
      refine Go.lconst 40 (0) d2_39 (by decide) rfl ?_
      refine Go.lstore 42 #[.val (.ref a), .val (.int (3 : Int32)), .val (.ref r), .val (.int ((3 : Int32) + (-1 : Int32))), .val (.long (0 : Int64)), .second, .unset] d2_40 rfl rfl ?_
      refine Go.iconst 43 (1) d2_42 (by decide) rfl ?_
      refine Go.istore 45 #[.val (.ref a), .val (.int (3 : Int32)), .val (.ref r), .val (.int ((3 : Int32) + (-1 : Int32))), .val (.long (0 : Int64)), .second, .val (.int (1 : Int32))] d2_43 rfl rfl ?_
      refine Go.iload 47 d2_45 rfl rfl ?_
      refine Go.iload_n 48 d2_47 rfl rfl ?_
      refine Go.icmp_gt 73 51 d2_48 (by decide) (by decide) rfl (fun c => absurd c (by decide)) (fun _ => ?_)
      refine Go.lload 53 d2_51 rfl rfl ?_
      refine Go.iload 55 d2_53 rfl rfl ?_
      refine Go.i2l 56 d2_55 rfl ?_
      refine Go.aload_n 57 d2_56 rfl rfl rfl ?_
      refine Go.iload 59 d2_57 rfl rfl ?_
      refine Go.iconst 60 (1) d2_59 (by decide) rfl ?_
      refine Go.isub 61 d2_60 rfl ?_
      refine Go.iaload (x := ct0) (0) 62 d2_61 f93 (by decide) (by decide) rfl rfl ?_
      refine Go.i2l 63 d2_62 rfl ?_
      refine Go.lmul 64 d2_63 rfl ?_
      refine Go.ladd 65 d2_64 rfl ?_
      refine Go.lstore 67 #[.val (.ref a), .val (.int (3 : Int32)), .val (.ref r), .val (.int ((3 : Int32) + (-1 : Int32))), .val (.long ((0 : Int64) + ((Int32.toInt64 (1 : Int32)) * (Int32.toInt64 ct0)))), .second, .val (.int (1 : Int32))] d2_65 rfl rfl ?_
      refine Go.iinc 70 (1) #[.val (.ref a), .val (.int (3 : Int32)), .val (.ref r), .val (.int ((3 : Int32) + (-1 : Int32))), .val (.long ((0 : Int64) + ((Int32.toInt64 (1 : Int32)) * (Int32.toInt64 ct0)))), .second, .val (.int ((1 : Int32) + (1 : Int32)))] d2_67 (by decide) rfl rfl rfl ?_
      refine Go.goto 45 d2_70 (by decide) (by decide) ?_
      refine Go.iload 47 d2_45 rfl rfl ?_
      refine Go.iload_n 48 d2_47 rfl rfl ?_
      refine Go.icmp_gt 73 51 d2_48 (by decide) (by decide) rfl (fun c => absurd c (by decide)) (fun _ => ?_)
      refine Go.lload 53 d2_51 rfl rfl ?_
      refine Go.iload 55 d2_53 rfl rfl ?_
      refine Go.i2l 56 d2_55 rfl ?_
      refine Go.aload_n 57 d2_56 rfl rfl rfl ?_
      refine Go.iload 59 d2_57 rfl rfl ?_
      refine Go.iconst 60 (1) d2_59 (by decide) rfl ?_
      refine Go.isub 61 d2_60 rfl ?_
      refine Go.iaload (x := ct1) (1) 62 d2_61 f93 (by decide) (by decide) rfl rfl ?_
      refine Go.i2l 63 d2_62 rfl ?_
      refine Go.lmul 64 d2_63 rfl ?_
      refine Go.ladd 65 d2_64 rfl ?_
      refine Go.lstore 67 #[.val (.ref a), .val (.int (3 : Int32)), .val (.ref r), .val (.int ((3 : Int32) + (-1 : Int32))), .val (.long (((0 : Int64) + ((Int32.toInt64 (1 : Int32)) * (Int32.toInt64 ct0))) + ((Int32.toInt64 ((1 : Int32) + (1 : Int32))) * (Int32.toInt64 ct1)))), .second, .val (.int ((1 : Int32) + (1 : Int32)))] d2_65 rfl rfl ?_
      refine Go.iinc 70 (1) #[.val (.ref a), .val (.int (3 : Int32)), .val (.ref r), .val (.int ((3 : Int32) + (-1 : Int32))), .val (.long (((0 : Int64) + ((Int32.toInt64 (1 : Int32)) * (Int32.toInt64 ct0))) + ((Int32.toInt64 ((1 : Int32) + (1 : Int32))) * (Int32.toInt64 ct1)))), .second, .val (.int (((1 : Int32) + (1 : Int32)) + (1 : Int32)))] d2_67 (by decide) rfl rfl rfl ?_
      refine Go.goto 45 d2_70 (by decide) (by decide) ?_
      refine Go.iload 47 d2_45 rfl rfl ?_
      refine Go.iload_n 48 d2_47 rfl rfl ?_
      refine Go.icmp_gt 73 51 d2_48 (by decide) (by decide) rfl (fun _ => ?_) (fun c => absurd c (by decide))
      refine Go.aload_n 74 d2_73 rfl rfl rfl ?_
      refine Go.lload 76 d2_74 rfl rfl ?_
      refine Go.putfield (ty := .long) 79 d2_76 (tw44 hw) f91 f89 (Or.inr ⟨(tw45 hw), rfl, rfl⟩) (tw21 hw) (by decide) rfl rfl ge_a rfl (fun h101 W102 => ?_)
      have f103 : Exa Z h101 a "dev/stablemate/solve/Profile" := f89.wr W102
      have f104 : Fld Z h101 a "dev/stablemate/solve/Profile" "counts" "[I" (.ref a72) := f90.other W102 (Or.inr (slot_ne (Or.inr (tw43 hw)) (Or.inr (tw45 hw)) (by decide) (by decide +kernel : parseFieldDescriptor "[I" = some (.array .int)) (by decide +kernel : parseFieldDescriptor "J" = some .long)))
      have f105 : Fld Z h101 a "dev/stablemate/solve/Profile" "cost" "J" (.long (((0 : Int64) + ((Int32.toInt64 (1 : Int32)) * (Int32.toInt64 ct0))) + ((Int32.toInt64 ((1 : Int32) + (1 : Int32))) * (Int32.toInt64 ct1)))) := f91.same W102
      have f106 : Fld Z h101 a "dev/stablemate/solve/Profile" "length" "I" (.int (3 : Int32)) := f92.other W102 (Or.inr (slot_ne (Or.inr (tw29 hw)) (Or.inr (tw45 hw)) (by decide) (by decide +kernel : parseFieldDescriptor "I" = some .int) (by decide +kernel : parseFieldDescriptor "J" = some .long)))
      have f107 : Ari Z h101 r .int [ct0, ct1, ct2] := f93.other W102 (Ne.symm ne_a_r)
      have f108 : Exa Z h101 r "[I" := f94.wr W102
      have f109 : Ari Z h101 a72 .int [ct0, ct1] := f95.other W102 (Ne.symm ne75)
      have zs110 : Z.heap.size ≤ h101.size := W102.size ▸ zs96
      have kp111 : Keep h h101 [a] := kp97.wr W102 (Or.inl (by simp))
      refine Go.vreturn d2_79 rfl (by decide) (by decide) ?_
      have e9 : own_trim [ct0, ct1, ct2] = [ct0, ct1] := by simp [own_trim, c2, c58]
      exact ⟨a72, fr78, kp111, f103, f104, (by unfold own_cost; rw [e9]; exact f105), (by rw [e9]; exact f109)⟩
    ·
      refine Go.iinc 22 (-1) #[.val (.ref a), .val (.int (3 : Int32)), .val (.ref r), .val (.int (((3 : Int32) + (-1 : Int32)) + (-1 : Int32))), .unset, .unset, .unset] d2_19 (by decide) rfl rfl rfl ?_
      refine Go.goto 7 d2_22 (by decide) (by decide) ?_
      refine Go.iload_n 8 d2_7 rfl rfl ?_
      refine Go.if_le 25 11 d2_8 (by decide) (by decide) rfl (fun c => absurd c (by decide)) (fun _ => ?_)
      refine Go.aload_n 12 d2_11 rfl rfl rfl ?_
      refine Go.iload_n 13 d2_12 rfl rfl ?_
      refine Go.iconst 14 (1) d2_13 (by decide) rfl ?_
      refine Go.isub 15 d2_14 rfl ?_
      refine Go.iaload (x := ct0) (0) 16 d2_15 fa4 (by decide) (by decide) rfl rfl ?_
      refine Go.if_ne 25 19 d2_16 (by decide) (by decide) rfl (fun c113 => ?_) (fun c113 => ?_)
      ·
        refine Go.aload_n 26 d2_25 rfl rfl rfl ?_
        refine Go.iload_n 27 d2_26 rfl rfl ?_
        refine Go.putfield (ty := .int) 30 d2_27 (tw28 hw) fa3 fa0 (Or.inr ⟨(tw29 hw), rfl, rfl⟩) (tw21 hw) (by decide) rfl rfl ge_a rfl (fun h114 W115 => ?_)
        have f116 : Exa Z h114 a "dev/stablemate/solve/Profile" := fa0.wr W115
        have f117 : Fld Z h114 a "dev/stablemate/solve/Profile" "counts" "[I" (.null) := fa1.other W115 (Or.inr (slot_ne (Or.inr (tw43 hw)) (Or.inr (tw29 hw)) (by decide) (by decide +kernel : parseFieldDescriptor "[I" = some (.array .int)) (by decide +kernel : parseFieldDescriptor "I" = some .int)))
        have f118 : Fld Z h114 a "dev/stablemate/solve/Profile" "cost" "J" (.long (0 : Int64)) := fa2.other W115 (Or.inr (slot_ne (Or.inr (tw45 hw)) (Or.inr (tw29 hw)) (by decide) (by decide +kernel : parseFieldDescriptor "J" = some .long) (by decide +kernel : parseFieldDescriptor "I" = some .int)))
        have f119 : Fld Z h114 a "dev/stablemate/solve/Profile" "length" "I" (.int (3 : Int32)) := fa3.same W115
        have f120 : Ari Z h114 r .int [ct0, ct1, ct2] := fa4.other W115 (Ne.symm ne_a_r)
        have f121 : Exa Z h114 r "[I" := fa5.wr W115
        have zs122 : Z.heap.size ≤ h114.size := W115.size ▸ hz
        have kp123 : Keep h h114 [a] := kp0.wr W115 (Or.inl (by simp))
        refine Go.aload_n 31 d2_30 rfl rfl rfl ?_
        refine Go.aload_n 32 d2_31 rfl rfl rfl ?_
        refine Go.iload_n 33 d2_32 rfl rfl ?_
        refine Go.callSR [.ref r, .int (((3 : Int32) + (-1 : Int32)) + (-1 : Int32))] [.ref a] 36 d2_33 (tw30 hw) (tw31 hw) (tw32 hw) (tw33 hw) pl4 (by decide) (lenOf pd4 rfl) rfl (fun m => ef_k_copy_3_1 m r (((3 : Int32) + (-1 : Int32)) + (-1 : Int32))) _ (k_copy_3_1 hw h114 zs122 r f120 f121) 1 rfl (Nat.le_of_eq rfl) (by decide) (by decide) (by decide) (by decide) rfl ?_
        rintro z124 h125 ⟨a127, rfl, g128, K126, f129⟩
        have ne130 : a ≠ a127 := Nat.ne_of_lt (Nat.lt_of_lt_of_le f116.lt g128)
        have ne131 : r ≠ a127 := Nat.ne_of_lt (Nat.lt_of_lt_of_le f120.lt g128)
        have ge132 : Z.heap.size ≤ a127 := Nat.le_trans zs122 g128
        have fr133 : h.size ≤ a127 := Nat.le_trans kp123.1 g128
        have f134 : Exa Z h125 a "dev/stablemate/solve/Profile" := f116.keep K126
        have f135 : Fld Z h125 a "dev/stablemate/solve/Profile" "counts" "[I" (.null) := f117.keep K126 nin0
        have f136 : Fld Z h125 a "dev/stablemate/solve/Profile" "cost" "J" (.long (0 : Int64)) := f118.keep K126 nin0
        have f137 : Fld Z h125 a "dev/stablemate/solve/Profile" "length" "I" (.int (3 : Int32)) := f119.keep K126 nin0
        have f138 : Ari Z h125 r .int [ct0, ct1, ct2] := f120.keep K126 nin0
        have f139 : Exa Z h125 r "[I" := f121.keep K126
        have zs140 : Z.heap.size ≤ h125.size := Nat.le_trans zs122 K126.1
        have kp141 : Keep h h125 [a] := kp123.trans K126 all0
        refine Go.putfield (ty := (.array .int)) 39 d2_36 (tw42 hw) f135 f134 (Or.inr ⟨(tw43 hw), rfl, rfl⟩) (tw21 hw) (by decide) rfl rfl ge_a rfl (fun h142 W143 => ?_)
        have f144 : Exa Z h142 a "dev/stablemate/solve/Profile" := f134.wr W143
        have f145 : Fld Z h142 a "dev/stablemate/solve/Profile" "counts" "[I" (.ref a127) := f135.same W143
        have f146 : Fld Z h142 a "dev/stablemate/solve/Profile" "cost" "J" (.long (0 : Int64)) := f136.other W143 (Or.inr (slot_ne (Or.inr (tw45 hw)) (Or.inr (tw43 hw)) (by decide) (by decide +kernel : parseFieldDescriptor "J" = some .long) (by decide +kernel : parseFieldDescriptor "[I" = some (.array .int))))
        have f147 : Fld Z h142 a "dev/stablemate/solve/Profile" "length" "I" (.int (3 : Int32)) := f137.other W143 (Or.inr (slot_ne (Or.inr (tw29 hw)) (Or.inr (tw43 hw)) (by decide) (by decide +kernel : parseFieldDescriptor "I" = some .int) (by decide +kernel : parseFieldDescriptor "[I" = some (.array .int))))
        have f148 : Ari Z h142 r .int [ct0, ct1, ct2] := f138.other W143 (Ne.symm ne_a_r)
        have f149 : Exa Z h142 r "[I" := f139.wr W143
        have f150 : Ari Z h142 a127 .int [ct0] := f129.other W143 (Ne.symm ne130)
        have zs151 : Z.heap.size ≤ h142.size := W143.size ▸ zs140
        have kp152 : Keep h h142 [a] := kp141.wr W143 (Or.inl (by simp))
        refine Go.lconst 40 (0) d2_39 (by decide) rfl ?_
        refine Go.lstore 42 #[.val (.ref a), .val (.int (3 : Int32)), .val (.ref r), .val (.int (((3 : Int32) + (-1 : Int32)) + (-1 : Int32))), .val (.long (0 : Int64)), .second, .unset] d2_40 rfl rfl ?_
        refine Go.iconst 43 (1) d2_42 (by decide) rfl ?_
        refine Go.istore 45 #[.val (.ref a), .val (.int (3 : Int32)), .val (.ref r), .val (.int (((3 : Int32) + (-1 : Int32)) + (-1 : Int32))), .val (.long (0 : Int64)), .second, .val (.int (1 : Int32))] d2_43 rfl rfl ?_
        refine Go.iload 47 d2_45 rfl rfl ?_
        refine Go.iload_n 48 d2_47 rfl rfl ?_
        refine Go.icmp_gt 73 51 d2_48 (by decide) (by decide) rfl (fun c => absurd c (by decide)) (fun _ => ?_)
        refine Go.lload 53 d2_51 rfl rfl ?_
        refine Go.iload 55 d2_53 rfl rfl ?_
        refine Go.i2l 56 d2_55 rfl ?_
        refine Go.aload_n 57 d2_56 rfl rfl rfl ?_
        refine Go.iload 59 d2_57 rfl rfl ?_
        refine Go.iconst 60 (1) d2_59 (by decide) rfl ?_
        refine Go.isub 61 d2_60 rfl ?_
        refine Go.iaload (x := ct0) (0) 62 d2_61 f148 (by decide) (by decide) rfl rfl ?_
        refine Go.i2l 63 d2_62 rfl ?_
        refine Go.lmul 64 d2_63 rfl ?_
        refine Go.ladd 65 d2_64 rfl ?_
        refine Go.lstore 67 #[.val (.ref a), .val (.int (3 : Int32)), .val (.ref r), .val (.int (((3 : Int32) + (-1 : Int32)) + (-1 : Int32))), .val (.long ((0 : Int64) + ((Int32.toInt64 (1 : Int32)) * (Int32.toInt64 ct0)))), .second, .val (.int (1 : Int32))] d2_65 rfl rfl ?_
        refine Go.iinc 70 (1) #[.val (.ref a), .val (.int (3 : Int32)), .val (.ref r), .val (.int (((3 : Int32) + (-1 : Int32)) + (-1 : Int32))), .val (.long ((0 : Int64) + ((Int32.toInt64 (1 : Int32)) * (Int32.toInt64 ct0)))), .second, .val (.int ((1 : Int32) + (1 : Int32)))] d2_67 (by decide) rfl rfl rfl ?_
        refine Go.goto 45 d2_70 (by decide) (by decide) ?_
        refine Go.iload 47 d2_45 rfl rfl ?_
        refine Go.iload_n 48 d2_47 rfl rfl ?_
        refine Go.icmp_gt 73 51 d2_48 (by decide) (by decide) rfl (fun _ => ?_) (fun c => absurd c (by decide))
        refine Go.aload_n 74 d2_73 rfl rfl rfl ?_
        refine Go.lload 76 d2_74 rfl rfl ?_
        refine Go.putfield (ty := .long) 79 d2_76 (tw44 hw) f146 f144 (Or.inr ⟨(tw45 hw), rfl, rfl⟩) (tw21 hw) (by decide) rfl rfl ge_a rfl (fun h155 W156 => ?_)
        have f157 : Exa Z h155 a "dev/stablemate/solve/Profile" := f144.wr W156
        have f158 : Fld Z h155 a "dev/stablemate/solve/Profile" "counts" "[I" (.ref a127) := f145.other W156 (Or.inr (slot_ne (Or.inr (tw43 hw)) (Or.inr (tw45 hw)) (by decide) (by decide +kernel : parseFieldDescriptor "[I" = some (.array .int)) (by decide +kernel : parseFieldDescriptor "J" = some .long)))
        have f159 : Fld Z h155 a "dev/stablemate/solve/Profile" "cost" "J" (.long ((0 : Int64) + ((Int32.toInt64 (1 : Int32)) * (Int32.toInt64 ct0)))) := f146.same W156
        have f160 : Fld Z h155 a "dev/stablemate/solve/Profile" "length" "I" (.int (3 : Int32)) := f147.other W156 (Or.inr (slot_ne (Or.inr (tw29 hw)) (Or.inr (tw45 hw)) (by decide) (by decide +kernel : parseFieldDescriptor "I" = some .int) (by decide +kernel : parseFieldDescriptor "J" = some .long)))
        have f161 : Ari Z h155 r .int [ct0, ct1, ct2] := f148.other W156 (Ne.symm ne_a_r)
        have f162 : Exa Z h155 r "[I" := f149.wr W156
        have f163 : Ari Z h155 a127 .int [ct0] := f150.other W156 (Ne.symm ne130)
        have zs164 : Z.heap.size ≤ h155.size := W156.size ▸ zs151
        have kp165 : Keep h h155 [a] := kp152.wr W156 (Or.inl (by simp))
        refine Go.vreturn d2_79 rfl (by decide) (by decide) ?_
        have e9 : own_trim [ct0, ct1, ct2] = [ct0] := by simp [own_trim, c2, c58, c113]
        exact ⟨a127, fr133, kp165, f157, f158, (by unfold own_cost; rw [e9]; exact f159), (by rw [e9]; exact f163)⟩
      ·
        refine Go.iinc 22 (-1) #[.val (.ref a), .val (.int (3 : Int32)), .val (.ref r), .val (.int ((((3 : Int32) + (-1 : Int32)) + (-1 : Int32)) + (-1 : Int32))), .unset, .unset, .unset] d2_19 (by decide) rfl rfl rfl ?_
        refine Go.goto 7 d2_22 (by decide) (by decide) ?_
        refine Go.iload_n 8 d2_7 rfl rfl ?_
        refine Go.if_le 25 11 d2_8 (by decide) (by decide) rfl (fun _ => ?_) (fun c => absurd c (by decide))
        refine Go.aload_n 26 d2_25 rfl rfl rfl ?_
        refine Go.iload_n 27 d2_26 rfl rfl ?_
        refine Go.putfield (ty := .int) 30 d2_27 (tw28 hw) fa3 fa0 (Or.inr ⟨(tw29 hw), rfl, rfl⟩) (tw21 hw) (by decide) rfl rfl ge_a rfl (fun h167 W168 => ?_)
        have f169 : Exa Z h167 a "dev/stablemate/solve/Profile" := fa0.wr W168
        have f170 : Fld Z h167 a "dev/stablemate/solve/Profile" "counts" "[I" (.null) := fa1.other W168 (Or.inr (slot_ne (Or.inr (tw43 hw)) (Or.inr (tw29 hw)) (by decide) (by decide +kernel : parseFieldDescriptor "[I" = some (.array .int)) (by decide +kernel : parseFieldDescriptor "I" = some .int)))
        have f171 : Fld Z h167 a "dev/stablemate/solve/Profile" "cost" "J" (.long (0 : Int64)) := fa2.other W168 (Or.inr (slot_ne (Or.inr (tw45 hw)) (Or.inr (tw29 hw)) (by decide) (by decide +kernel : parseFieldDescriptor "J" = some .long) (by decide +kernel : parseFieldDescriptor "I" = some .int)))
        have f172 : Fld Z h167 a "dev/stablemate/solve/Profile" "length" "I" (.int (3 : Int32)) := fa3.same W168
        have f173 : Ari Z h167 r .int [ct0, ct1, ct2] := fa4.other W168 (Ne.symm ne_a_r)
        have f174 : Exa Z h167 r "[I" := fa5.wr W168
        have zs175 : Z.heap.size ≤ h167.size := W168.size ▸ hz
        have kp176 : Keep h h167 [a] := kp0.wr W168 (Or.inl (by simp))
        refine Go.aload_n 31 d2_30 rfl rfl rfl ?_
        refine Go.aload_n 32 d2_31 rfl rfl rfl ?_
        refine Go.iload_n 33 d2_32 rfl rfl ?_
        refine Go.callSR [.ref r, .int ((((3 : Int32) + (-1 : Int32)) + (-1 : Int32)) + (-1 : Int32))] [.ref a] 36 d2_33 (tw30 hw) (tw31 hw) (tw32 hw) (tw33 hw) pl4 (by decide) (lenOf pd4 rfl) rfl (fun m => ef_k_copy_3_0 m r ((((3 : Int32) + (-1 : Int32)) + (-1 : Int32)) + (-1 : Int32))) _ (k_copy_3_0 hw h167 zs175 r f173 f174) 1 rfl (Nat.le_of_eq rfl) (by decide) (by decide) (by decide) (by decide) rfl ?_
        rintro z177 h178 ⟨a180, rfl, g181, K179, f182⟩
        have ne183 : a ≠ a180 := Nat.ne_of_lt (Nat.lt_of_lt_of_le f169.lt g181)
        have ne184 : r ≠ a180 := Nat.ne_of_lt (Nat.lt_of_lt_of_le f173.lt g181)
        have ge185 : Z.heap.size ≤ a180 := Nat.le_trans zs175 g181
        have fr186 : h.size ≤ a180 := Nat.le_trans kp176.1 g181
        have f187 : Exa Z h178 a "dev/stablemate/solve/Profile" := f169.keep K179
        have f188 : Fld Z h178 a "dev/stablemate/solve/Profile" "counts" "[I" (.null) := f170.keep K179 nin0
        have f189 : Fld Z h178 a "dev/stablemate/solve/Profile" "cost" "J" (.long (0 : Int64)) := f171.keep K179 nin0
        have f190 : Fld Z h178 a "dev/stablemate/solve/Profile" "length" "I" (.int (3 : Int32)) := f172.keep K179 nin0
        have f191 : Ari Z h178 r .int [ct0, ct1, ct2] := f173.keep K179 nin0
        have f192 : Exa Z h178 r "[I" := f174.keep K179
        have zs193 : Z.heap.size ≤ h178.size := Nat.le_trans zs175 K179.1
        have kp194 : Keep h h178 [a] := kp176.trans K179 all0
        refine Go.putfield (ty := (.array .int)) 39 d2_36 (tw42 hw) f188 f187 (Or.inr ⟨(tw43 hw), rfl, rfl⟩) (tw21 hw) (by decide) rfl rfl ge_a rfl (fun h195 W196 => ?_)
        have f197 : Exa Z h195 a "dev/stablemate/solve/Profile" := f187.wr W196
        have f198 : Fld Z h195 a "dev/stablemate/solve/Profile" "counts" "[I" (.ref a180) := f188.same W196
        have f199 : Fld Z h195 a "dev/stablemate/solve/Profile" "cost" "J" (.long (0 : Int64)) := f189.other W196 (Or.inr (slot_ne (Or.inr (tw45 hw)) (Or.inr (tw43 hw)) (by decide) (by decide +kernel : parseFieldDescriptor "J" = some .long) (by decide +kernel : parseFieldDescriptor "[I" = some (.array .int))))
        have f200 : Fld Z h195 a "dev/stablemate/solve/Profile" "length" "I" (.int (3 : Int32)) := f190.other W196 (Or.inr (slot_ne (Or.inr (tw29 hw)) (Or.inr (tw43 hw)) (by decide) (by decide +kernel : parseFieldDescriptor "I" = some .int) (by decide +kernel : parseFieldDescriptor "[I" = some (.array .int))))
        have f201 : Ari Z h195 r .int [ct0, ct1, ct2] := f191.other W196 (Ne.symm ne_a_r)
        have f202 : Exa Z h195 r "[I" := f192.wr W196
        have f203 : Ari Z h195 a180 .int [] := f182.other W196 (Ne.symm ne183)
        have zs204 : Z.heap.size ≤ h195.size := W196.size ▸ zs193
        have kp205 : Keep h h195 [a] := kp194.wr W196 (Or.inl (by simp))
        refine Go.lconst 40 (0) d2_39 (by decide) rfl ?_
        refine Go.lstore 42 #[.val (.ref a), .val (.int (3 : Int32)), .val (.ref r), .val (.int ((((3 : Int32) + (-1 : Int32)) + (-1 : Int32)) + (-1 : Int32))), .val (.long (0 : Int64)), .second, .unset] d2_40 rfl rfl ?_
        refine Go.iconst 43 (1) d2_42 (by decide) rfl ?_
        refine Go.istore 45 #[.val (.ref a), .val (.int (3 : Int32)), .val (.ref r), .val (.int ((((3 : Int32) + (-1 : Int32)) + (-1 : Int32)) + (-1 : Int32))), .val (.long (0 : Int64)), .second, .val (.int (1 : Int32))] d2_43 rfl rfl ?_
        refine Go.iload 47 d2_45 rfl rfl ?_
        refine Go.iload_n 48 d2_47 rfl rfl ?_
        refine Go.icmp_gt 73 51 d2_48 (by decide) (by decide) rfl (fun _ => ?_) (fun c => absurd c (by decide))
        refine Go.aload_n 74 d2_73 rfl rfl rfl ?_
        refine Go.lload 76 d2_74 rfl rfl ?_
        refine Go.putfield (ty := .long) 79 d2_76 (tw44 hw) f199 f197 (Or.inr ⟨(tw45 hw), rfl, rfl⟩) (tw21 hw) (by decide) rfl rfl ge_a rfl (fun h207 W208 => ?_)
        have f209 : Exa Z h207 a "dev/stablemate/solve/Profile" := f197.wr W208
        have f210 : Fld Z h207 a "dev/stablemate/solve/Profile" "counts" "[I" (.ref a180) := f198.other W208 (Or.inr (slot_ne (Or.inr (tw43 hw)) (Or.inr (tw45 hw)) (by decide) (by decide +kernel : parseFieldDescriptor "[I" = some (.array .int)) (by decide +kernel : parseFieldDescriptor "J" = some .long)))
        have f211 : Fld Z h207 a "dev/stablemate/solve/Profile" "cost" "J" (.long (0 : Int64)) := f199.same W208
        have f212 : Fld Z h207 a "dev/stablemate/solve/Profile" "length" "I" (.int (3 : Int32)) := f200.other W208 (Or.inr (slot_ne (Or.inr (tw29 hw)) (Or.inr (tw45 hw)) (by decide) (by decide +kernel : parseFieldDescriptor "I" = some .int) (by decide +kernel : parseFieldDescriptor "J" = some .long)))
        have f213 : Ari Z h207 r .int [ct0, ct1, ct2] := f201.other W208 (Ne.symm ne_a_r)
        have f214 : Exa Z h207 r "[I" := f202.wr W208
        have f215 : Ari Z h207 a180 .int [] := f203.other W208 (Ne.symm ne183)
        have zs216 : Z.heap.size ≤ h207.size := W208.size ▸ zs204
        have kp217 : Keep h h207 [a] := kp205.wr W208 (Or.inl (by simp))
        refine Go.vreturn d2_79 rfl (by decide) (by decide) ?_
        have e9 : own_trim [ct0, ct1, ct2] = [] := by simp [own_trim, c2, c58, c113]
        exact ⟨a180, fr186, kp217, f209, f210, (by unfold own_cost; rw [e9]; exact f211), (by rw [e9]; exact f215)⟩

theorem ef_k_init_4 (m : MethodId) (x0 : Addr) (x1 : Int32) (x2 : Addr) : entryFrame m #[(.ref x0), (.int x1), (.ref x2)] 7 = mkF m 0 #[.val (.ref x0), .val (.int x1), .val (.ref x2), .unset, .unset, .unset, .unset] [] := by first | (simp [entryFrame, mkF, argsToLocals, Value.category]; done) | rfl

set_option maxRecDepth 65536 in
set_option maxHeartbeats 40000000 in
theorem k_init_4 {l : Launch} {Z : State} {a0 : Array Value} (hw : ∀ d ∈ tables_1, d.before a0 Z = true) {ct0 : Int32} {ct1 : Int32} {ct2 : Int32} {ct3 : Int32} (h : Heap) (hz : Z.heap.size ≤ h.size) (a : Addr) (r : Addr) (fa0 : Exa Z h a "dev/stablemate/solve/Profile") (fa1 : Fld Z h a "dev/stablemate/solve/Profile" "counts" "[I" (.null)) (fa2 : Fld Z h a "dev/stablemate/solve/Profile" "cost" "J" (.long (0 : Int64))) (fa3 : Fld Z h a "dev/stablemate/solve/Profile" "length" "I" (.int (0 : Int32))) (fa4 : Ari Z h r .int [ct0, ct1, ct2, ct3]) (fa5 : Exa Z h r "[I")  (ge_a : Z.heap.size ≤ a) (ne_a_r : a ≠ r) : Go l Z (⟨"dev/stablemate/solve/Profile", "<init>", "(I[I)V"⟩ : MethodName) prog_26_method_1_code 7 (Option.none : Option Jvm.ClassFile.FieldType) ({ frames := 2, cells := 1, slots := 4, locals := 64 } : Room) (QV fun h' => ∃ am : Addr, h.size ≤ am ∧ Keep h h' [a] ∧ Exa Z h' a "dev/stablemate/solve/Profile" ∧ Fld Z h' a "dev/stablemate/solve/Profile" "counts" "[I" (.ref am) ∧ Fld Z h' a "dev/stablemate/solve/Profile" "cost" "J" (.long (own_cost [ct0, ct1, ct2, ct3])) ∧ Ari Z h' am .int (own_trim [ct0, ct1, ct2, ct3])) 0 0 h 0 #[.val (.ref a), .val (.int (4 : Int32)), .val (.ref r), .unset, .unset, .unset, .unset] [] := by
  have kp0 : Keep h h [a] := Keep.refl _ _
  refine Go.aload_n 1 d2_0 rfl rfl rfl ?_
  refine Go.initO 0 4 d2_1 (tw25 hw) (tw26 hw) (tw27 hw) rfl (by decide) (Nat.le_of_eq rfl) (by decide) rfl ?_
  refine Go.aload_n 5 d2_4 rfl rfl rfl ?_
  refine Go.arraylength (z := (4 : Int32)) 6 d2_5 fa4 (by decide : Nat.toInt32 4 = (4 : Int32)) rfl ?_
  refine Go.istore_n 7 #[.val (.ref a), .val (.int (4 : Int32)), .val (.ref r), .val (.int (4 : Int32)), .unset, .unset, .unset] d2_6 rfl rfl ?_
  refine Go.iload_n 8 d2_7 rfl rfl ?_
  refine Go.if_le 25 11 d2_8 (by decide) (by decide) rfl (fun c => absurd c (by decide)) (fun _ => ?_)
  refine Go.aload_n 12 d2_11 rfl rfl rfl ?_
  refine Go.iload_n 13 d2_12 rfl rfl ?_
  refine Go.iconst 14 (1) d2_13 (by decide) rfl ?_
  refine Go.isub 15 d2_14 rfl ?_
  refine Go.iaload (x := ct3) (3) 16 d2_15 fa4 (by decide) (by decide) rfl rfl ?_
  refine Go.if_ne 25 19 d2_16 (by decide) (by decide) rfl (fun c2 => ?_) (fun c2 => ?_)
  ·
    refine Go.aload_n 26 d2_25 rfl rfl rfl ?_
    refine Go.iload_n 27 d2_26 rfl rfl ?_
    refine Go.putfield (ty := .int) 30 d2_27 (tw28 hw) fa3 fa0 (Or.inr ⟨(tw29 hw), rfl, rfl⟩) (tw21 hw) (by decide) rfl rfl ge_a rfl (fun h3 W4 => ?_)
    have f5 : Exa Z h3 a "dev/stablemate/solve/Profile" := fa0.wr W4
    have f6 : Fld Z h3 a "dev/stablemate/solve/Profile" "counts" "[I" (.null) := fa1.other W4 (Or.inr (slot_ne (Or.inr (tw43 hw)) (Or.inr (tw29 hw)) (by decide) (by decide +kernel : parseFieldDescriptor "[I" = some (.array .int)) (by decide +kernel : parseFieldDescriptor "I" = some .int)))
    have f7 : Fld Z h3 a "dev/stablemate/solve/Profile" "cost" "J" (.long (0 : Int64)) := fa2.other W4 (Or.inr (slot_ne (Or.inr (tw45 hw)) (Or.inr (tw29 hw)) (by decide) (by decide +kernel : parseFieldDescriptor "J" = some .long) (by decide +kernel : parseFieldDescriptor "I" = some .int)))
    have f8 : Fld Z h3 a "dev/stablemate/solve/Profile" "length" "I" (.int (4 : Int32)) := fa3.same W4
    have f9 : Ari Z h3 r .int [ct0, ct1, ct2, ct3] := fa4.other W4 (Ne.symm ne_a_r)
    have f10 : Exa Z h3 r "[I" := fa5.wr W4
    have zs11 : Z.heap.size ≤ h3.size := W4.size ▸ hz
    have kp12 : Keep h h3 [a] := kp0.wr W4 (Or.inl (by simp))
    refine Go.aload_n 31 d2_30 rfl rfl rfl ?_
    refine Go.aload_n 32 d2_31 rfl rfl rfl ?_
    refine Go.iload_n 33 d2_32 rfl rfl ?_
    refine Go.callSR [.ref r, .int (4 : Int32)] [.ref a] 36 d2_33 (tw30 hw) (tw31 hw) (tw32 hw) (tw33 hw) pl4 (by decide) (lenOf pd4 rfl) rfl (fun m => ef_k_copy_4_4 m r (4 : Int32)) _ (k_copy_4_4 hw h3 zs11 r f9 f10) 1 rfl (Nat.le_of_eq rfl) (by decide) (by decide) (by decide) (by decide) rfl ?_
    rintro z13 h14 ⟨a16, rfl, g17, K15, f18⟩
    have ne19 : a ≠ a16 := Nat.ne_of_lt (Nat.lt_of_lt_of_le f5.lt g17)
    have ne20 : r ≠ a16 := Nat.ne_of_lt (Nat.lt_of_lt_of_le f9.lt g17)
    have ge21 : Z.heap.size ≤ a16 := Nat.le_trans zs11 g17
    have fr22 : h.size ≤ a16 := Nat.le_trans kp12.1 g17
    have f23 : Exa Z h14 a "dev/stablemate/solve/Profile" := f5.keep K15
    have f24 : Fld Z h14 a "dev/stablemate/solve/Profile" "counts" "[I" (.null) := f6.keep K15 nin0
    have f25 : Fld Z h14 a "dev/stablemate/solve/Profile" "cost" "J" (.long (0 : Int64)) := f7.keep K15 nin0
    have f26 : Fld Z h14 a "dev/stablemate/solve/Profile" "length" "I" (.int (4 : Int32)) := f8.keep K15 nin0
    have f27 : Ari Z h14 r .int [ct0, ct1, ct2, ct3] := f9.keep K15 nin0
    have f28 : Exa Z h14 r "[I" := f10.keep K15
    have zs29 : Z.heap.size ≤ h14.size := Nat.le_trans zs11 K15.1
    have kp30 : Keep h h14 [a] := kp12.trans K15 all0
    refine Go.putfield (ty := (.array .int)) 39 d2_36 (tw42 hw) f24 f23 (Or.inr ⟨(tw43 hw), rfl, rfl⟩) (tw21 hw) (by decide) rfl rfl ge_a rfl (fun h31 W32 => ?_)
    have f33 : Exa Z h31 a "dev/stablemate/solve/Profile" := f23.wr W32
    have f34 : Fld Z h31 a "dev/stablemate/solve/Profile" "counts" "[I" (.ref a16) := f24.same W32
    have f35 : Fld Z h31 a "dev/stablemate/solve/Profile" "cost" "J" (.long (0 : Int64)) := f25.other W32 (Or.inr (slot_ne (Or.inr (tw45 hw)) (Or.inr (tw43 hw)) (by decide) (by decide +kernel : parseFieldDescriptor "J" = some .long) (by decide +kernel : parseFieldDescriptor "[I" = some (.array .int))))
    have f36 : Fld Z h31 a "dev/stablemate/solve/Profile" "length" "I" (.int (4 : Int32)) := f26.other W32 (Or.inr (slot_ne (Or.inr (tw29 hw)) (Or.inr (tw43 hw)) (by decide) (by decide +kernel : parseFieldDescriptor "I" = some .int) (by decide +kernel : parseFieldDescriptor "[I" = some (.array .int))))
    have f37 : Ari Z h31 r .int [ct0, ct1, ct2, ct3] := f27.other W32 (Ne.symm ne_a_r)
    have f38 : Exa Z h31 r "[I" := f28.wr W32
    have f39 : Ari Z h31 a16 .int [ct0, ct1, ct2, ct3] := f18.other W32 (Ne.symm ne19)
    have zs40 : Z.heap.size ≤ h31.size := W32.size ▸ zs29
    have kp41 : Keep h h31 [a] := kp30.wr W32 (Or.inl (by simp))
    refine Go.lconst 40 (0) d2_39 (by decide) rfl ?_
    refine Go.lstore 42 #[.val (.ref a), .val (.int (4 : Int32)), .val (.ref r), .val (.int (4 : Int32)), .val (.long (0 : Int64)), .second, .unset] d2_40 rfl rfl ?_
    refine Go.iconst 43 (1) d2_42 (by decide) rfl ?_
    refine Go.istore 45 #[.val (.ref a), .val (.int (4 : Int32)), .val (.ref r), .val (.int (4 : Int32)), .val (.long (0 : Int64)), .second, .val (.int (1 : Int32))] d2_43 rfl rfl ?_
    refine Go.iload 47 d2_45 rfl rfl ?_
    refine Go.iload_n 48 d2_47 rfl rfl ?_
    refine Go.icmp_gt 73 51 d2_48 (by decide) (by decide) rfl (fun c => absurd c (by decide)) (fun _ => ?_)
    refine Go.lload 53 d2_51 rfl rfl ?_
    refine Go.iload 55 d2_53 rfl rfl ?_
    refine Go.i2l 56 d2_55 rfl ?_
    refine Go.aload_n 57 d2_56 rfl rfl rfl ?_
    refine Go.iload 59 d2_57 rfl rfl ?_
    refine Go.iconst 60 (1) d2_59 (by decide) rfl ?_
    refine Go.isub 61 d2_60 rfl ?_
    refine Go.iaload (x := ct0) (0) 62 d2_61 f37 (by decide) (by decide) rfl rfl ?_
    refine Go.i2l 63 d2_62 rfl ?_
    refine Go.lmul 64 d2_63 rfl ?_
    refine Go.ladd 65 d2_64 rfl ?_
    refine Go.lstore 67 #[.val (.ref a), .val (.int (4 : Int32)), .val (.ref r), .val (.int (4 : Int32)), .val (.long ((0 : Int64) + ((Int32.toInt64 (1 : Int32)) * (Int32.toInt64 ct0)))), .second, .val (.int (1 : Int32))] d2_65 rfl rfl ?_
    refine Go.iinc 70 (1) #[.val (.ref a), .val (.int (4 : Int32)), .val (.ref r), .val (.int (4 : Int32)), .val (.long ((0 : Int64) + ((Int32.toInt64 (1 : Int32)) * (Int32.toInt64 ct0)))), .second, .val (.int ((1 : Int32) + (1 : Int32)))] d2_67 (by decide) rfl rfl rfl ?_
    refine Go.goto 45 d2_70 (by decide) (by decide) ?_
    refine Go.iload 47 d2_45 rfl rfl ?_
    refine Go.iload_n 48 d2_47 rfl rfl ?_
    refine Go.icmp_gt 73 51 d2_48 (by decide) (by decide) rfl (fun c => absurd c (by decide)) (fun _ => ?_)
    refine Go.lload 53 d2_51 rfl rfl ?_
    refine Go.iload 55 d2_53 rfl rfl ?_
    refine Go.i2l 56 d2_55 rfl ?_
    refine Go.aload_n 57 d2_56 rfl rfl rfl ?_
    refine Go.iload 59 d2_57 rfl rfl ?_
    refine Go.iconst 60 (1) d2_59 (by decide) rfl ?_
    refine Go.isub 61 d2_60 rfl ?_
    refine Go.iaload (x := ct1) (1) 62 d2_61 f37 (by decide) (by decide) rfl rfl ?_
    refine Go.i2l 63 d2_62 rfl ?_
    refine Go.lmul 64 d2_63 rfl ?_
    refine Go.ladd 65 d2_64 rfl ?_
    refine Go.lstore 67 #[.val (.ref a), .val (.int (4 : Int32)), .val (.ref r), .val (.int (4 : Int32)), .val (.long (((0 : Int64) + ((Int32.toInt64 (1 : Int32)) * (Int32.toInt64 ct0))) + ((Int32.toInt64 ((1 : Int32) + (1 : Int32))) * (Int32.toInt64 ct1)))), .second, .val (.int ((1 : Int32) + (1 : Int32)))] d2_65 rfl rfl ?_
    refine Go.iinc 70 (1) #[.val (.ref a), .val (.int (4 : Int32)), .val (.ref r), .val (.int (4 : Int32)), .val (.long (((0 : Int64) + ((Int32.toInt64 (1 : Int32)) * (Int32.toInt64 ct0))) + ((Int32.toInt64 ((1 : Int32) + (1 : Int32))) * (Int32.toInt64 ct1)))), .second, .val (.int (((1 : Int32) + (1 : Int32)) + (1 : Int32)))] d2_67 (by decide) rfl rfl rfl ?_
    refine Go.goto 45 d2_70 (by decide) (by decide) ?_
    refine Go.iload 47 d2_45 rfl rfl ?_
    refine Go.iload_n 48 d2_47 rfl rfl ?_
    refine Go.icmp_gt 73 51 d2_48 (by decide) (by decide) rfl (fun c => absurd c (by decide)) (fun _ => ?_)
    refine Go.lload 53 d2_51 rfl rfl ?_
    refine Go.iload 55 d2_53 rfl rfl ?_
    refine Go.i2l 56 d2_55 rfl ?_
    refine Go.aload_n 57 d2_56 rfl rfl rfl ?_
    refine Go.iload 59 d2_57 rfl rfl ?_
    refine Go.iconst 60 (1) d2_59 (by decide) rfl ?_
    refine Go.isub 61 d2_60 rfl ?_
    refine Go.iaload (x := ct2) (2) 62 d2_61 f37 (by decide) (by decide) rfl rfl ?_
    refine Go.i2l 63 d2_62 rfl ?_
    refine Go.lmul 64 d2_63 rfl ?_
    refine Go.ladd 65 d2_64 rfl ?_
    refine Go.lstore 67 #[.val (.ref a), .val (.int (4 : Int32)), .val (.ref r), .val (.int (4 : Int32)), .val (.long ((((0 : Int64) + ((Int32.toInt64 (1 : Int32)) * (Int32.toInt64 ct0))) + ((Int32.toInt64 ((1 : Int32) + (1 : Int32))) * (Int32.toInt64 ct1))) + ((Int32.toInt64 (((1 : Int32) + (1 : Int32)) + (1 : Int32))) * (Int32.toInt64 ct2)))), .second, .val (.int (((1 : Int32) + (1 : Int32)) + (1 : Int32)))] d2_65 rfl rfl ?_
    refine Go.iinc 70 (1) #[.val (.ref a), .val (.int (4 : Int32)), .val (.ref r), .val (.int (4 : Int32)), .val (.long ((((0 : Int64) + ((Int32.toInt64 (1 : Int32)) * (Int32.toInt64 ct0))) + ((Int32.toInt64 ((1 : Int32) + (1 : Int32))) * (Int32.toInt64 ct1))) + ((Int32.toInt64 (((1 : Int32) + (1 : Int32)) + (1 : Int32))) * (Int32.toInt64 ct2)))), .second, .val (.int ((((1 : Int32) + (1 : Int32)) + (1 : Int32)) + (1 : Int32)))] d2_67 (by decide) rfl rfl rfl ?_
    refine Go.goto 45 d2_70 (by decide) (by decide) ?_
    refine Go.iload 47 d2_45 rfl rfl ?_
    refine Go.iload_n 48 d2_47 rfl rfl ?_
    refine Go.icmp_gt 73 51 d2_48 (by decide) (by decide) rfl (fun c => absurd c (by decide)) (fun _ => ?_)
    refine Go.lload 53 d2_51 rfl rfl ?_
    refine Go.iload 55 d2_53 rfl rfl ?_
    refine Go.i2l 56 d2_55 rfl ?_
    refine Go.aload_n 57 d2_56 rfl rfl rfl ?_
    refine Go.iload 59 d2_57 rfl rfl ?_
    refine Go.iconst 60 (1) d2_59 (by decide) rfl ?_
    refine Go.isub 61 d2_60 rfl ?_
    refine Go.iaload (x := ct3) (3) 62 d2_61 f37 (by decide) (by decide) rfl rfl ?_
    refine Go.i2l 63 d2_62 rfl ?_
    refine Go.lmul 64 d2_63 rfl ?_
    refine Go.ladd 65 d2_64 rfl ?_
    refine Go.lstore 67 #[.val (.ref a), .val (.int (4 : Int32)), .val (.ref r), .val (.int (4 : Int32)), .val (.long (((((0 : Int64) + ((Int32.toInt64 (1 : Int32)) * (Int32.toInt64 ct0))) + ((Int32.toInt64 ((1 : Int32) + (1 : Int32))) * (Int32.toInt64 ct1))) + ((Int32.toInt64 (((1 : Int32) + (1 : Int32)) + (1 : Int32))) * (Int32.toInt64 ct2))) + ((Int32.toInt64 ((((1 : Int32) + (1 : Int32)) + (1 : Int32)) + (1 : Int32))) * (Int32.toInt64 ct3)))), .second, .val (.int ((((1 : Int32) + (1 : Int32)) + (1 : Int32)) + (1 : Int32)))] d2_65 rfl rfl ?_
    refine Go.iinc 70 (1) #[.val (.ref a), .val (.int (4 : Int32)), .val (.ref r), .val (.int (4 : Int32)), .val (.long (((((0 : Int64) + ((Int32.toInt64 (1 : Int32)) * (Int32.toInt64 ct0))) + ((Int32.toInt64 ((1 : Int32) + (1 : Int32))) * (Int32.toInt64 ct1))) + ((Int32.toInt64 (((1 : Int32) + (1 : Int32)) + (1 : Int32))) * (Int32.toInt64 ct2))) + ((Int32.toInt64 ((((1 : Int32) + (1 : Int32)) + (1 : Int32)) + (1 : Int32))) * (Int32.toInt64 ct3)))), .second, .val (.int (((((1 : Int32) + (1 : Int32)) + (1 : Int32)) + (1 : Int32)) + (1 : Int32)))] d2_67 (by decide) rfl rfl rfl ?_
    refine Go.goto 45 d2_70 (by decide) (by decide) ?_
    refine Go.iload 47 d2_45 rfl rfl ?_
    refine Go.iload_n 48 d2_47 rfl rfl ?_
    refine Go.icmp_gt 73 51 d2_48 (by decide) (by decide) rfl (fun _ => ?_) (fun c => absurd c (by decide))
    refine Go.aload_n 74 d2_73 rfl rfl rfl ?_
    refine Go.lload 76 d2_74 rfl rfl ?_
    refine Go.putfield (ty := .long) 79 d2_76 (tw44 hw) f35 f33 (Or.inr ⟨(tw45 hw), rfl, rfl⟩) (tw21 hw) (by decide) rfl rfl ge_a rfl (fun h47 W48 => ?_)
    have f49 : Exa Z h47 a "dev/stablemate/solve/Profile" := f33.wr W48
    have f50 : Fld Z h47 a "dev/stablemate/solve/Profile" "counts" "[I" (.ref a16) := f34.other W48 (Or.inr (slot_ne (Or.inr (tw43 hw)) (Or.inr (tw45 hw)) (by decide) (by decide +kernel : parseFieldDescriptor "[I" = some (.array .int)) (by decide +kernel : parseFieldDescriptor "J" = some .long)))
    have f51 : Fld Z h47 a "dev/stablemate/solve/Profile" "cost" "J" (.long (((((0 : Int64) + ((Int32.toInt64 (1 : Int32)) * (Int32.toInt64 ct0))) + ((Int32.toInt64 ((1 : Int32) + (1 : Int32))) * (Int32.toInt64 ct1))) + ((Int32.toInt64 (((1 : Int32) + (1 : Int32)) + (1 : Int32))) * (Int32.toInt64 ct2))) + ((Int32.toInt64 ((((1 : Int32) + (1 : Int32)) + (1 : Int32)) + (1 : Int32))) * (Int32.toInt64 ct3)))) := f35.same W48
    have f52 : Fld Z h47 a "dev/stablemate/solve/Profile" "length" "I" (.int (4 : Int32)) := f36.other W48 (Or.inr (slot_ne (Or.inr (tw29 hw)) (Or.inr (tw45 hw)) (by decide) (by decide +kernel : parseFieldDescriptor "I" = some .int) (by decide +kernel : parseFieldDescriptor "J" = some .long)))
    have f53 : Ari Z h47 r .int [ct0, ct1, ct2, ct3] := f37.other W48 (Ne.symm ne_a_r)
    have f54 : Exa Z h47 r "[I" := f38.wr W48
    have f55 : Ari Z h47 a16 .int [ct0, ct1, ct2, ct3] := f39.other W48 (Ne.symm ne19)
    have zs56 : Z.heap.size ≤ h47.size := W48.size ▸ zs40
    have kp57 : Keep h h47 [a] := kp41.wr W48 (Or.inl (by simp))
    refine Go.vreturn d2_79 rfl (by decide) (by decide) ?_
    have e9 : own_trim [ct0, ct1, ct2, ct3] = [ct0, ct1, ct2, ct3] := by simp [own_trim, c2]
    exact ⟨a16, fr22, kp57, f49, f50, (by unfold own_cost; rw [e9]; exact f51), (by rw [e9]; exact f55)⟩
  ·
    refine Go.iinc 22 (-1) #[.val (.ref a), .val (.int (4 : Int32)), .val (.ref r), .val (.int ((4 : Int32) + (-1 : Int32))), .unset, .unset, .unset] d2_19 (by decide) rfl rfl rfl ?_
    refine Go.goto 7 d2_22 (by decide) (by decide) ?_
    refine Go.iload_n 8 d2_7 rfl rfl ?_
    refine Go.if_le 25 11 d2_8 (by decide) (by decide) rfl (fun c => absurd c (by decide)) (fun _ => ?_)
    refine Go.aload_n 12 d2_11 rfl rfl rfl ?_
    refine Go.iload_n 13 d2_12 rfl rfl ?_
    refine Go.iconst 14 (1) d2_13 (by decide) rfl ?_
    refine Go.isub 15 d2_14 rfl ?_
    refine Go.iaload (x := ct2) (2) 16 d2_15 fa4 (by decide) (by decide) rfl rfl ?_
    refine Go.if_ne 25 19 d2_16 (by decide) (by decide) rfl (fun c59 => ?_) (fun c59 => ?_)
    ·
      refine Go.aload_n 26 d2_25 rfl rfl rfl ?_
      refine Go.iload_n 27 d2_26 rfl rfl ?_
      refine Go.putfield (ty := .int) 30 d2_27 (tw28 hw) fa3 fa0 (Or.inr ⟨(tw29 hw), rfl, rfl⟩) (tw21 hw) (by decide) rfl rfl ge_a rfl (fun h60 W61 => ?_)
      have f62 : Exa Z h60 a "dev/stablemate/solve/Profile" := fa0.wr W61
      have f63 : Fld Z h60 a "dev/stablemate/solve/Profile" "counts" "[I" (.null) := fa1.other W61 (Or.inr (slot_ne (Or.inr (tw43 hw)) (Or.inr (tw29 hw)) (by decide) (by decide +kernel : parseFieldDescriptor "[I" = some (.array .int)) (by decide +kernel : parseFieldDescriptor "I" = some .int)))
      have f64 : Fld Z h60 a "dev/stablemate/solve/Profile" "cost" "J" (.long (0 : Int64)) := fa2.other W61 (Or.inr (slot_ne (Or.inr (tw45 hw)) (Or.inr (tw29 hw)) (by decide) (by decide +kernel : parseFieldDescriptor "J" = some .long) (by decide +kernel : parseFieldDescriptor "I" = some .int)))
      have f65 : Fld Z h60 a "dev/stablemate/solve/Profile" "length" "I" (.int (4 : Int32)) := fa3.same W61
      have f66 : Ari Z h60 r .int [ct0, ct1, ct2, ct3] := fa4.other W61 (Ne.symm ne_a_r)
      have f67 : Exa Z h60 r "[I" := fa5.wr W61
      have zs68 : Z.heap.size ≤ h60.size := W61.size ▸ hz
      have kp69 : Keep h h60 [a] := kp0.wr W61 (Or.inl (by simp))
      refine Go.aload_n 31 d2_30 rfl rfl rfl ?_
      refine Go.aload_n 32 d2_31 rfl rfl rfl ?_
      refine Go.iload_n 33 d2_32 rfl rfl ?_
      refine Go.callSR [.ref r, .int ((4 : Int32) + (-1 : Int32))] [.ref a] 36 d2_33 (tw30 hw) (tw31 hw) (tw32 hw) (tw33 hw) pl4 (by decide) (lenOf pd4 rfl) rfl (fun m => ef_k_copy_4_3 m r ((4 : Int32) + (-1 : Int32))) _ (k_copy_4_3 hw h60 zs68 r f66 f67) 1 rfl (Nat.le_of_eq rfl) (by decide) (by decide) (by decide) (by decide) rfl ?_
      rintro z70 h71 ⟨a73, rfl, g74, K72, f75⟩
      have ne76 : a ≠ a73 := Nat.ne_of_lt (Nat.lt_of_lt_of_le f62.lt g74)
      have ne77 : r ≠ a73 := Nat.ne_of_lt (Nat.lt_of_lt_of_le f66.lt g74)
      have ge78 : Z.heap.size ≤ a73 := Nat.le_trans zs68 g74
      have fr79 : h.size ≤ a73 := Nat.le_trans kp69.1 g74
      have f80 : Exa Z h71 a "dev/stablemate/solve/Profile" := f62.keep K72
      have f81 : Fld Z h71 a "dev/stablemate/solve/Profile" "counts" "[I" (.null) := f63.keep K72 nin0
      have f82 : Fld Z h71 a "dev/stablemate/solve/Profile" "cost" "J" (.long (0 : Int64)) := f64.keep K72 nin0
      have f83 : Fld Z h71 a "dev/stablemate/solve/Profile" "length" "I" (.int (4 : Int32)) := f65.keep K72 nin0
      have f84 : Ari Z h71 r .int [ct0, ct1, ct2, ct3] := f66.keep K72 nin0
      have f85 : Exa Z h71 r "[I" := f67.keep K72
      have zs86 : Z.heap.size ≤ h71.size := Nat.le_trans zs68 K72.1
      have kp87 : Keep h h71 [a] := kp69.trans K72 all0
      refine Go.putfield (ty := (.array .int)) 39 d2_36 (tw42 hw) f81 f80 (Or.inr ⟨(tw43 hw), rfl, rfl⟩) (tw21 hw) (by decide) rfl rfl ge_a rfl (fun h88 W89 => ?_)
      have f90 : Exa Z h88 a "dev/stablemate/solve/Profile" := f80.wr W89
      have f91 : Fld Z h88 a "dev/stablemate/solve/Profile" "counts" "[I" (.ref a73) := f81.same W89
      have f92 : Fld Z h88 a "dev/stablemate/solve/Profile" "cost" "J" (.long (0 : Int64)) := f82.other W89 (Or.inr (slot_ne (Or.inr (tw45 hw)) (Or.inr (tw43 hw)) (by decide) (by decide +kernel : parseFieldDescriptor "J" = some .long) (by decide +kernel : parseFieldDescriptor "[I" = some (.array .int))))
      have f93 : Fld Z h88 a "dev/stablemate/solve/Profile" "length" "I" (.int (4 : Int32)) := f83.other W89 (Or.inr (slot_ne (Or.inr (tw29 hw)) (Or.inr (tw43 hw)) (by decide) (by decide +kernel : parseFieldDescriptor "I" = some .int) (by decide +kernel : parseFieldDescriptor "[I" = some (.array .int))))
      have f94 : Ari Z h88 r .int [ct0, ct1, ct2, ct3] := f84.other W89 (Ne.symm ne_a_r)
      have f95 : Exa Z h88 r "[I" := f85.wr W89
      have f96 : Ari Z h88 a73 .int [ct0, ct1, ct2] := f75.other W89 (Ne.symm ne76)
      have zs97 : Z.heap.size ≤ h88.size := W89.size ▸ zs86
      have kp98 : Keep h h88 [a] := kp87.wr W89 (Or.inl (by simp))
      refine Go.lconst 40 (0) d2_39 (by decide) rfl ?_
      refine Go.lstore 42 #[.val (.ref a), .val (.int (4 : Int32)), .val (.ref r), .val (.int ((4 : Int32) + (-1 : Int32))), .val (.long (0 : Int64)), .second, .unset] d2_40 rfl rfl ?_
      refine Go.iconst 43 (1) d2_42 (by decide) rfl ?_
      refine Go.istore 45 #[.val (.ref a), .val (.int (4 : Int32)), .val (.ref r), .val (.int ((4 : Int32) + (-1 : Int32))), .val (.long (0 : Int64)), .second, .val (.int (1 : Int32))] d2_43 rfl rfl ?_
      refine Go.iload 47 d2_45 rfl rfl ?_
      refine Go.iload_n 48 d2_47 rfl rfl ?_
      refine Go.icmp_gt 73 51 d2_48 (by decide) (by decide) rfl (fun c => absurd c (by decide)) (fun _ => ?_)
      refine Go.lload 53 d2_51 rfl rfl ?_
      refine Go.iload 55 d2_53 rfl rfl ?_
      refine Go.i2l 56 d2_55 rfl ?_
      refine Go.aload_n 57 d2_56 rfl rfl rfl ?_
      refine Go.iload 59 d2_57 rfl rfl ?_
      refine Go.iconst 60 (1) d2_59 (by decide) rfl ?_
      refine Go.isub 61 d2_60 rfl ?_
      refine Go.iaload (x := ct0) (0) 62 d2_61 f94 (by decide) (by decide) rfl rfl ?_
      refine Go.i2l 63 d2_62 rfl ?_
      refine Go.lmul 64 d2_63 rfl ?_
      refine Go.ladd 65 d2_64 rfl ?_
      refine Go.lstore 67 #[.val (.ref a), .val (.int (4 : Int32)), .val (.ref r), .val (.int ((4 : Int32) + (-1 : Int32))), .val (.long ((0 : Int64) + ((Int32.toInt64 (1 : Int32)) * (Int32.toInt64 ct0)))), .second, .val (.int (1 : Int32))] d2_65 rfl rfl ?_
      refine Go.iinc 70 (1) #[.val (.ref a), .val (.int (4 : Int32)), .val (.ref r), .val (.int ((4 : Int32) + (-1 : Int32))), .val (.long ((0 : Int64) + ((Int32.toInt64 (1 : Int32)) * (Int32.toInt64 ct0)))), .second, .val (.int ((1 : Int32) + (1 : Int32)))] d2_67 (by decide) rfl rfl rfl ?_
      refine Go.goto 45 d2_70 (by decide) (by decide) ?_
      refine Go.iload 47 d2_45 rfl rfl ?_
      refine Go.iload_n 48 d2_47 rfl rfl ?_
      refine Go.icmp_gt 73 51 d2_48 (by decide) (by decide) rfl (fun c => absurd c (by decide)) (fun _ => ?_)
      refine Go.lload 53 d2_51 rfl rfl ?_
      refine Go.iload 55 d2_53 rfl rfl ?_
      refine Go.i2l 56 d2_55 rfl ?_
      refine Go.aload_n 57 d2_56 rfl rfl rfl ?_
      refine Go.iload 59 d2_57 rfl rfl ?_
      refine Go.iconst 60 (1) d2_59 (by decide) rfl ?_
      refine Go.isub 61 d2_60 rfl ?_
      refine Go.iaload (x := ct1) (1) 62 d2_61 f94 (by decide) (by decide) rfl rfl ?_
      refine Go.i2l 63 d2_62 rfl ?_
      refine Go.lmul 64 d2_63 rfl ?_
      refine Go.ladd 65 d2_64 rfl ?_
      refine Go.lstore 67 #[.val (.ref a), .val (.int (4 : Int32)), .val (.ref r), .val (.int ((4 : Int32) + (-1 : Int32))), .val (.long (((0 : Int64) + ((Int32.toInt64 (1 : Int32)) * (Int32.toInt64 ct0))) + ((Int32.toInt64 ((1 : Int32) + (1 : Int32))) * (Int32.toInt64 ct1)))), .second, .val (.int ((1 : Int32) + (1 : Int32)))] d2_65 rfl rfl ?_
      refine Go.iinc 70 (1) #[.val (.ref a), .val (.int (4 : Int32)), .val (.ref r), .val (.int ((4 : Int32) + (-1 : Int32))), .val (.long (((0 : Int64) + ((Int32.toInt64 (1 : Int32)) * (Int32.toInt64 ct0))) + ((Int32.toInt64 ((1 : Int32) + (1 : Int32))) * (Int32.toInt64 ct1)))), .second, .val (.int (((1 : Int32) + (1 : Int32)) + (1 : Int32)))] d2_67 (by decide) rfl rfl rfl ?_
      refine Go.goto 45 d2_70 (by decide) (by decide) ?_
      refine Go.iload 47 d2_45 rfl rfl ?_
      refine Go.iload_n 48 d2_47 rfl rfl ?_
      refine Go.icmp_gt 73 51 d2_48 (by decide) (by decide) rfl (fun c => absurd c (by decide)) (fun _ => ?_)
      refine Go.lload 53 d2_51 rfl rfl ?_
      refine Go.iload 55 d2_53 rfl rfl ?_
      refine Go.i2l 56 d2_55 rfl ?_
      refine Go.aload_n 57 d2_56 rfl rfl rfl ?_
      refine Go.iload 59 d2_57 rfl rfl ?_
      refine Go.iconst 60 (1) d2_59 (by decide) rfl ?_
      refine Go.isub 61 d2_60 rfl ?_
      refine Go.iaload (x := ct2) (2) 62 d2_61 f94 (by decide) (by decide) rfl rfl ?_
      refine Go.i2l 63 d2_62 rfl ?_
      refine Go.lmul 64 d2_63 rfl ?_
      refine Go.ladd 65 d2_64 rfl ?_
      refine Go.lstore 67 #[.val (.ref a), .val (.int (4 : Int32)), .val (.ref r), .val (.int ((4 : Int32) + (-1 : Int32))), .val (.long ((((0 : Int64) + ((Int32.toInt64 (1 : Int32)) * (Int32.toInt64 ct0))) + ((Int32.toInt64 ((1 : Int32) + (1 : Int32))) * (Int32.toInt64 ct1))) + ((Int32.toInt64 (((1 : Int32) + (1 : Int32)) + (1 : Int32))) * (Int32.toInt64 ct2)))), .second, .val (.int (((1 : Int32) + (1 : Int32)) + (1 : Int32)))] d2_65 rfl rfl ?_
      refine Go.iinc 70 (1) #[.val (.ref a), .val (.int (4 : Int32)), .val (.ref r), .val (.int ((4 : Int32) + (-1 : Int32))), .val (.long ((((0 : Int64) + ((Int32.toInt64 (1 : Int32)) * (Int32.toInt64 ct0))) + ((Int32.toInt64 ((1 : Int32) + (1 : Int32))) * (Int32.toInt64 ct1))) + ((Int32.toInt64 (((1 : Int32) + (1 : Int32)) + (1 : Int32))) * (Int32.toInt64 ct2)))), .second, .val (.int ((((1 : Int32) + (1 : Int32)) + (1 : Int32)) + (1 : Int32)))] d2_67 (by decide) rfl rfl rfl ?_
      refine Go.goto 45 d2_70 (by decide) (by decide) ?_
      refine Go.iload 47 d2_45 rfl rfl ?_
      refine Go.iload_n 48 d2_47 rfl rfl ?_
      refine Go.icmp_gt 73 51 d2_48 (by decide) (by decide) rfl (fun _ => ?_) (fun c => absurd c (by decide))
      refine Go.aload_n 74 d2_73 rfl rfl rfl ?_
      refine Go.lload 76 d2_74 rfl rfl ?_
      refine Go.putfield (ty := .long) 79 d2_76 (tw44 hw) f92 f90 (Or.inr ⟨(tw45 hw), rfl, rfl⟩) (tw21 hw) (by decide) rfl rfl ge_a rfl (fun h103 W104 => ?_)
      have f105 : Exa Z h103 a "dev/stablemate/solve/Profile" := f90.wr W104
      have f106 : Fld Z h103 a "dev/stablemate/solve/Profile" "counts" "[I" (.ref a73) := f91.other W104 (Or.inr (slot_ne (Or.inr (tw43 hw)) (Or.inr (tw45 hw)) (by decide) (by decide +kernel : parseFieldDescriptor "[I" = some (.array .int)) (by decide +kernel : parseFieldDescriptor "J" = some .long)))
      have f107 : Fld Z h103 a "dev/stablemate/solve/Profile" "cost" "J" (.long ((((0 : Int64) + ((Int32.toInt64 (1 : Int32)) * (Int32.toInt64 ct0))) + ((Int32.toInt64 ((1 : Int32) + (1 : Int32))) * (Int32.toInt64 ct1))) + ((Int32.toInt64 (((1 : Int32) + (1 : Int32)) + (1 : Int32))) * (Int32.toInt64 ct2)))) := f92.same W104
      have f108 : Fld Z h103 a "dev/stablemate/solve/Profile" "length" "I" (.int (4 : Int32)) := f93.other W104 (Or.inr (slot_ne (Or.inr (tw29 hw)) (Or.inr (tw45 hw)) (by decide) (by decide +kernel : parseFieldDescriptor "I" = some .int) (by decide +kernel : parseFieldDescriptor "J" = some .long)))
      have f109 : Ari Z h103 r .int [ct0, ct1, ct2, ct3] := f94.other W104 (Ne.symm ne_a_r)
      have f110 : Exa Z h103 r "[I" := f95.wr W104
      have f111 : Ari Z h103 a73 .int [ct0, ct1, ct2] := f96.other W104 (Ne.symm ne76)
      have zs112 : Z.heap.size ≤ h103.size := W104.size ▸ zs97
      have kp113 : Keep h h103 [a] := kp98.wr W104 (Or.inl (by simp))
      refine Go.vreturn d2_79 rfl (by decide) (by decide) ?_
      have e9 : own_trim [ct0, ct1, ct2, ct3] = [ct0, ct1, ct2] := by simp [own_trim, c2, c59]
      exact ⟨a73, fr79, kp113, f105, f106, (by unfold own_cost; rw [e9]; exact f107), (by rw [e9]; exact f111)⟩
    ·
      refine Go.iinc 22 (-1) #[.val (.ref a), .val (.int (4 : Int32)), .val (.ref r), .val (.int (((4 : Int32) + (-1 : Int32)) + (-1 : Int32))), .unset, .unset, .unset] d2_19 (by decide) rfl rfl rfl ?_
      refine Go.goto 7 d2_22 (by decide) (by decide) ?_
      refine Go.iload_n 8 d2_7 rfl rfl ?_
      refine Go.if_le 25 11 d2_8 (by decide) (by decide) rfl (fun c => absurd c (by decide)) (fun _ => ?_)
      refine Go.aload_n 12 d2_11 rfl rfl rfl ?_
      refine Go.iload_n 13 d2_12 rfl rfl ?_
      refine Go.iconst 14 (1) d2_13 (by decide) rfl ?_
      refine Go.isub 15 d2_14 rfl ?_
      refine Go.iaload (x := ct1) (1) 16 d2_15 fa4 (by decide) (by decide) rfl rfl ?_
      refine Go.if_ne 25 19 d2_16 (by decide) (by decide) rfl (fun c115 => ?_) (fun c115 => ?_)
      ·
        refine Go.aload_n 26 d2_25 rfl rfl rfl ?_
        refine Go.iload_n 27 d2_26 rfl rfl ?_
        refine Go.putfield (ty := .int) 30 d2_27 (tw28 hw) fa3 fa0 (Or.inr ⟨(tw29 hw), rfl, rfl⟩) (tw21 hw) (by decide) rfl rfl ge_a rfl (fun h116 W117 => ?_)
        have f118 : Exa Z h116 a "dev/stablemate/solve/Profile" := fa0.wr W117
        have f119 : Fld Z h116 a "dev/stablemate/solve/Profile" "counts" "[I" (.null) := fa1.other W117 (Or.inr (slot_ne (Or.inr (tw43 hw)) (Or.inr (tw29 hw)) (by decide) (by decide +kernel : parseFieldDescriptor "[I" = some (.array .int)) (by decide +kernel : parseFieldDescriptor "I" = some .int)))
        have f120 : Fld Z h116 a "dev/stablemate/solve/Profile" "cost" "J" (.long (0 : Int64)) := fa2.other W117 (Or.inr (slot_ne (Or.inr (tw45 hw)) (Or.inr (tw29 hw)) (by decide) (by decide +kernel : parseFieldDescriptor "J" = some .long) (by decide +kernel : parseFieldDescriptor "I" = some .int)))
        have f121 : Fld Z h116 a "dev/stablemate/solve/Profile" "length" "I" (.int (4 : Int32)) := fa3.same W117
        have f122 : Ari Z h116 r .int [ct0, ct1, ct2, ct3] := fa4.other W117 (Ne.symm ne_a_r)
        have f123 : Exa Z h116 r "[I" := fa5.wr W117
        have zs124 : Z.heap.size ≤ h116.size := W117.size ▸ hz
        have kp125 : Keep h h116 [a] := kp0.wr W117 (Or.inl (by simp))
        refine Go.aload_n 31 d2_30 rfl rfl rfl ?_
        refine Go.aload_n 32 d2_31 rfl rfl rfl ?_
        refine Go.iload_n 33 d2_32 rfl rfl ?_
        refine Go.callSR [.ref r, .int (((4 : Int32) + (-1 : Int32)) + (-1 : Int32))] [.ref a] 36 d2_33 (tw30 hw) (tw31 hw) (tw32 hw) (tw33 hw) pl4 (by decide) (lenOf pd4 rfl) rfl (fun m => ef_k_copy_4_2 m r (((4 : Int32) + (-1 : Int32)) + (-1 : Int32))) _ (k_copy_4_2 hw h116 zs124 r f122 f123) 1 rfl (Nat.le_of_eq rfl) (by decide) (by decide) (by decide) (by decide) rfl ?_
        rintro z126 h127 ⟨a129, rfl, g130, K128, f131⟩
        have ne132 : a ≠ a129 := Nat.ne_of_lt (Nat.lt_of_lt_of_le f118.lt g130)
        have ne133 : r ≠ a129 := Nat.ne_of_lt (Nat.lt_of_lt_of_le f122.lt g130)
        have ge134 : Z.heap.size ≤ a129 := Nat.le_trans zs124 g130
        have fr135 : h.size ≤ a129 := Nat.le_trans kp125.1 g130
        have f136 : Exa Z h127 a "dev/stablemate/solve/Profile" := f118.keep K128
        have f137 : Fld Z h127 a "dev/stablemate/solve/Profile" "counts" "[I" (.null) := f119.keep K128 nin0
        have f138 : Fld Z h127 a "dev/stablemate/solve/Profile" "cost" "J" (.long (0 : Int64)) := f120.keep K128 nin0
        have f139 : Fld Z h127 a "dev/stablemate/solve/Profile" "length" "I" (.int (4 : Int32)) := f121.keep K128 nin0
        have f140 : Ari Z h127 r .int [ct0, ct1, ct2, ct3] := f122.keep K128 nin0
        have f141 : Exa Z h127 r "[I" := f123.keep K128
        have zs142 : Z.heap.size ≤ h127.size := Nat.le_trans zs124 K128.1
        have kp143 : Keep h h127 [a] := kp125.trans K128 all0
        refine Go.putfield (ty := (.array .int)) 39 d2_36 (tw42 hw) f137 f136 (Or.inr ⟨(tw43 hw), rfl, rfl⟩) (tw21 hw) (by decide) rfl rfl ge_a rfl (fun h144 W145 => ?_)
        have f146 : Exa Z h144 a "dev/stablemate/solve/Profile" := f136.wr W145
        have f147 : Fld Z h144 a "dev/stablemate/solve/Profile" "counts" "[I" (.ref a129) := f137.same W145
        have f148 : Fld Z h144 a "dev/stablemate/solve/Profile" "cost" "J" (.long (0 : Int64)) := f138.other W145 (Or.inr (slot_ne (Or.inr (tw45 hw)) (Or.inr (tw43 hw)) (by decide) (by decide +kernel : parseFieldDescriptor "J" = some .long) (by decide +kernel : parseFieldDescriptor "[I" = some (.array .int))))
        have f149 : Fld Z h144 a "dev/stablemate/solve/Profile" "length" "I" (.int (4 : Int32)) := f139.other W145 (Or.inr (slot_ne (Or.inr (tw29 hw)) (Or.inr (tw43 hw)) (by decide) (by decide +kernel : parseFieldDescriptor "I" = some .int) (by decide +kernel : parseFieldDescriptor "[I" = some (.array .int))))
        have f150 : Ari Z h144 r .int [ct0, ct1, ct2, ct3] := f140.other W145 (Ne.symm ne_a_r)
        have f151 : Exa Z h144 r "[I" := f141.wr W145
        have f152 : Ari Z h144 a129 .int [ct0, ct1] := f131.other W145 (Ne.symm ne132)
        have zs153 : Z.heap.size ≤ h144.size := W145.size ▸ zs142
        have kp154 : Keep h h144 [a] := kp143.wr W145 (Or.inl (by simp))
        refine Go.lconst 40 (0) d2_39 (by decide) rfl ?_
        refine Go.lstore 42 #[.val (.ref a), .val (.int (4 : Int32)), .val (.ref r), .val (.int (((4 : Int32) + (-1 : Int32)) + (-1 : Int32))), .val (.long (0 : Int64)), .second, .unset] d2_40 rfl rfl ?_
        refine Go.iconst 43 (1) d2_42 (by decide) rfl ?_
        refine Go.istore 45 #[.val (.ref a), .val (.int (4 : Int32)), .val (.ref r), .val (.int (((4 : Int32) + (-1 : Int32)) + (-1 : Int32))), .val (.long (0 : Int64)), .second, .val (.int (1 : Int32))] d2_43 rfl rfl ?_
        refine Go.iload 47 d2_45 rfl rfl ?_
        refine Go.iload_n 48 d2_47 rfl rfl ?_
        refine Go.icmp_gt 73 51 d2_48 (by decide) (by decide) rfl (fun c => absurd c (by decide)) (fun _ => ?_)
        refine Go.lload 53 d2_51 rfl rfl ?_
        refine Go.iload 55 d2_53 rfl rfl ?_
        refine Go.i2l 56 d2_55 rfl ?_
        refine Go.aload_n 57 d2_56 rfl rfl rfl ?_
        refine Go.iload 59 d2_57 rfl rfl ?_
        refine Go.iconst 60 (1) d2_59 (by decide) rfl ?_
        refine Go.isub 61 d2_60 rfl ?_
        refine Go.iaload (x := ct0) (0) 62 d2_61 f150 (by decide) (by decide) rfl rfl ?_
        refine Go.i2l 63 d2_62 rfl ?_
        refine Go.lmul 64 d2_63 rfl ?_
        refine Go.ladd 65 d2_64 rfl ?_
        refine Go.lstore 67 #[.val (.ref a), .val (.int (4 : Int32)), .val (.ref r), .val (.int (((4 : Int32) + (-1 : Int32)) + (-1 : Int32))), .val (.long ((0 : Int64) + ((Int32.toInt64 (1 : Int32)) * (Int32.toInt64 ct0)))), .second, .val (.int (1 : Int32))] d2_65 rfl rfl ?_
        refine Go.iinc 70 (1) #[.val (.ref a), .val (.int (4 : Int32)), .val (.ref r), .val (.int (((4 : Int32) + (-1 : Int32)) + (-1 : Int32))), .val (.long ((0 : Int64) + ((Int32.toInt64 (1 : Int32)) * (Int32.toInt64 ct0)))), .second, .val (.int ((1 : Int32) + (1 : Int32)))] d2_67 (by decide) rfl rfl rfl ?_
        refine Go.goto 45 d2_70 (by decide) (by decide) ?_
        refine Go.iload 47 d2_45 rfl rfl ?_
        refine Go.iload_n 48 d2_47 rfl rfl ?_
        refine Go.icmp_gt 73 51 d2_48 (by decide) (by decide) rfl (fun c => absurd c (by decide)) (fun _ => ?_)
        refine Go.lload 53 d2_51 rfl rfl ?_
        refine Go.iload 55 d2_53 rfl rfl ?_
        refine Go.i2l 56 d2_55 rfl ?_
        refine Go.aload_n 57 d2_56 rfl rfl rfl ?_
        refine Go.iload 59 d2_57 rfl rfl ?_
        refine Go.iconst 60 (1) d2_59 (by decide) rfl ?_
        refine Go.isub 61 d2_60 rfl ?_
        refine Go.iaload (x := ct1) (1) 62 d2_61 f150 (by decide) (by decide) rfl rfl ?_
        refine Go.i2l 63 d2_62 rfl ?_
        refine Go.lmul 64 d2_63 rfl ?_
        refine Go.ladd 65 d2_64 rfl ?_
        refine Go.lstore 67 #[.val (.ref a), .val (.int (4 : Int32)), .val (.ref r), .val (.int (((4 : Int32) + (-1 : Int32)) + (-1 : Int32))), .val (.long (((0 : Int64) + ((Int32.toInt64 (1 : Int32)) * (Int32.toInt64 ct0))) + ((Int32.toInt64 ((1 : Int32) + (1 : Int32))) * (Int32.toInt64 ct1)))), .second, .val (.int ((1 : Int32) + (1 : Int32)))] d2_65 rfl rfl ?_
        refine Go.iinc 70 (1) #[.val (.ref a), .val (.int (4 : Int32)), .val (.ref r), .val (.int (((4 : Int32) + (-1 : Int32)) + (-1 : Int32))), .val (.long (((0 : Int64) + ((Int32.toInt64 (1 : Int32)) * (Int32.toInt64 ct0))) + ((Int32.toInt64 ((1 : Int32) + (1 : Int32))) * (Int32.toInt64 ct1)))), .second, .val (.int (((1 : Int32) + (1 : Int32)) + (1 : Int32)))] d2_67 (by decide) rfl rfl rfl ?_
        refine Go.goto 45 d2_70 (by decide) (by decide) ?_
        refine Go.iload 47 d2_45 rfl rfl ?_
        refine Go.iload_n 48 d2_47 rfl rfl ?_
        refine Go.icmp_gt 73 51 d2_48 (by decide) (by decide) rfl (fun _ => ?_) (fun c => absurd c (by decide))
        refine Go.aload_n 74 d2_73 rfl rfl rfl ?_
        refine Go.lload 76 d2_74 rfl rfl ?_
        refine Go.putfield (ty := .long) 79 d2_76 (tw44 hw) f148 f146 (Or.inr ⟨(tw45 hw), rfl, rfl⟩) (tw21 hw) (by decide) rfl rfl ge_a rfl (fun h158 W159 => ?_)
        have f160 : Exa Z h158 a "dev/stablemate/solve/Profile" := f146.wr W159
        have f161 : Fld Z h158 a "dev/stablemate/solve/Profile" "counts" "[I" (.ref a129) := f147.other W159 (Or.inr (slot_ne (Or.inr (tw43 hw)) (Or.inr (tw45 hw)) (by decide) (by decide +kernel : parseFieldDescriptor "[I" = some (.array .int)) (by decide +kernel : parseFieldDescriptor "J" = some .long)))
        have f162 : Fld Z h158 a "dev/stablemate/solve/Profile" "cost" "J" (.long (((0 : Int64) + ((Int32.toInt64 (1 : Int32)) * (Int32.toInt64 ct0))) + ((Int32.toInt64 ((1 : Int32) + (1 : Int32))) * (Int32.toInt64 ct1)))) := f148.same W159
        have f163 : Fld Z h158 a "dev/stablemate/solve/Profile" "length" "I" (.int (4 : Int32)) := f149.other W159 (Or.inr (slot_ne (Or.inr (tw29 hw)) (Or.inr (tw45 hw)) (by decide) (by decide +kernel : parseFieldDescriptor "I" = some .int) (by decide +kernel : parseFieldDescriptor "J" = some .long)))
        have f164 : Ari Z h158 r .int [ct0, ct1, ct2, ct3] := f150.other W159 (Ne.symm ne_a_r)
        have f165 : Exa Z h158 r "[I" := f151.wr W159
        have f166 : Ari Z h158 a129 .int [ct0, ct1] := f152.other W159 (Ne.symm ne132)
        have zs167 : Z.heap.size ≤ h158.size := W159.size ▸ zs153
        have kp168 : Keep h h158 [a] := kp154.wr W159 (Or.inl (by simp))
        refine Go.vreturn d2_79 rfl (by decide) (by decide) ?_
        have e9 : own_trim [ct0, ct1, ct2, ct3] = [ct0, ct1] := by simp [own_trim, c2, c59, c115]
        exact ⟨a129, fr135, kp168, f160, f161, (by unfold own_cost; rw [e9]; exact f162), (by rw [e9]; exact f166)⟩
      ·
        refine Go.iinc 22 (-1) #[.val (.ref a), .val (.int (4 : Int32)), .val (.ref r), .val (.int ((((4 : Int32) + (-1 : Int32)) + (-1 : Int32)) + (-1 : Int32))), .unset, .unset, .unset] d2_19 (by decide) rfl rfl rfl ?_
        refine Go.goto 7 d2_22 (by decide) (by decide) ?_
        refine Go.iload_n 8 d2_7 rfl rfl ?_
        refine Go.if_le 25 11 d2_8 (by decide) (by decide) rfl (fun c => absurd c (by decide)) (fun _ => ?_)
        refine Go.aload_n 12 d2_11 rfl rfl rfl ?_
        refine Go.iload_n 13 d2_12 rfl rfl ?_
        refine Go.iconst 14 (1) d2_13 (by decide) rfl ?_
        refine Go.isub 15 d2_14 rfl ?_
        refine Go.iaload (x := ct0) (0) 16 d2_15 fa4 (by decide) (by decide) rfl rfl ?_
        refine Go.if_ne 25 19 d2_16 (by decide) (by decide) rfl (fun c170 => ?_) (fun c170 => ?_)
        ·
          refine Go.aload_n 26 d2_25 rfl rfl rfl ?_
          refine Go.iload_n 27 d2_26 rfl rfl ?_
          refine Go.putfield (ty := .int) 30 d2_27 (tw28 hw) fa3 fa0 (Or.inr ⟨(tw29 hw), rfl, rfl⟩) (tw21 hw) (by decide) rfl rfl ge_a rfl (fun h171 W172 => ?_)
          have f173 : Exa Z h171 a "dev/stablemate/solve/Profile" := fa0.wr W172
          have f174 : Fld Z h171 a "dev/stablemate/solve/Profile" "counts" "[I" (.null) := fa1.other W172 (Or.inr (slot_ne (Or.inr (tw43 hw)) (Or.inr (tw29 hw)) (by decide) (by decide +kernel : parseFieldDescriptor "[I" = some (.array .int)) (by decide +kernel : parseFieldDescriptor "I" = some .int)))
          have f175 : Fld Z h171 a "dev/stablemate/solve/Profile" "cost" "J" (.long (0 : Int64)) := fa2.other W172 (Or.inr (slot_ne (Or.inr (tw45 hw)) (Or.inr (tw29 hw)) (by decide) (by decide +kernel : parseFieldDescriptor "J" = some .long) (by decide +kernel : parseFieldDescriptor "I" = some .int)))
          have f176 : Fld Z h171 a "dev/stablemate/solve/Profile" "length" "I" (.int (4 : Int32)) := fa3.same W172
          have f177 : Ari Z h171 r .int [ct0, ct1, ct2, ct3] := fa4.other W172 (Ne.symm ne_a_r)
          have f178 : Exa Z h171 r "[I" := fa5.wr W172
          have zs179 : Z.heap.size ≤ h171.size := W172.size ▸ hz
          have kp180 : Keep h h171 [a] := kp0.wr W172 (Or.inl (by simp))
          refine Go.aload_n 31 d2_30 rfl rfl rfl ?_
          refine Go.aload_n 32 d2_31 rfl rfl rfl ?_
          refine Go.iload_n 33 d2_32 rfl rfl ?_
          refine Go.callSR [.ref r, .int ((((4 : Int32) + (-1 : Int32)) + (-1 : Int32)) + (-1 : Int32))] [.ref a] 36 d2_33 (tw30 hw) (tw31 hw) (tw32 hw) (tw33 hw) pl4 (by decide) (lenOf pd4 rfl) rfl (fun m => ef_k_copy_4_1 m r ((((4 : Int32) + (-1 : Int32)) + (-1 : Int32)) + (-1 : Int32))) _ (k_copy_4_1 hw h171 zs179 r f177 f178) 1 rfl (Nat.le_of_eq rfl) (by decide) (by decide) (by decide) (by decide) rfl ?_
          rintro z181 h182 ⟨a184, rfl, g185, K183, f186⟩
          have ne187 : a ≠ a184 := Nat.ne_of_lt (Nat.lt_of_lt_of_le f173.lt g185)
          have ne188 : r ≠ a184 := Nat.ne_of_lt (Nat.lt_of_lt_of_le f177.lt g185)
          have ge189 : Z.heap.size ≤ a184 := Nat.le_trans zs179 g185
          have fr190 : h.size ≤ a184 := Nat.le_trans kp180.1 g185
          have f191 : Exa Z h182 a "dev/stablemate/solve/Profile" := f173.keep K183
          have f192 : Fld Z h182 a "dev/stablemate/solve/Profile" "counts" "[I" (.null) := f174.keep K183 nin0
          have f193 : Fld Z h182 a "dev/stablemate/solve/Profile" "cost" "J" (.long (0 : Int64)) := f175.keep K183 nin0
          have f194 : Fld Z h182 a "dev/stablemate/solve/Profile" "length" "I" (.int (4 : Int32)) := f176.keep K183 nin0
          have f195 : Ari Z h182 r .int [ct0, ct1, ct2, ct3] := f177.keep K183 nin0
          have f196 : Exa Z h182 r "[I" := f178.keep K183
          have zs197 : Z.heap.size ≤ h182.size := Nat.le_trans zs179 K183.1
          have kp198 : Keep h h182 [a] := kp180.trans K183 all0
          refine Go.putfield (ty := (.array .int)) 39 d2_36 (tw42 hw) f192 f191 (Or.inr ⟨(tw43 hw), rfl, rfl⟩) (tw21 hw) (by decide) rfl rfl ge_a rfl (fun h199 W200 => ?_)
          have f201 : Exa Z h199 a "dev/stablemate/solve/Profile" := f191.wr W200
          have f202 : Fld Z h199 a "dev/stablemate/solve/Profile" "counts" "[I" (.ref a184) := f192.same W200
          have f203 : Fld Z h199 a "dev/stablemate/solve/Profile" "cost" "J" (.long (0 : Int64)) := f193.other W200 (Or.inr (slot_ne (Or.inr (tw45 hw)) (Or.inr (tw43 hw)) (by decide) (by decide +kernel : parseFieldDescriptor "J" = some .long) (by decide +kernel : parseFieldDescriptor "[I" = some (.array .int))))
          have f204 : Fld Z h199 a "dev/stablemate/solve/Profile" "length" "I" (.int (4 : Int32)) := f194.other W200 (Or.inr (slot_ne (Or.inr (tw29 hw)) (Or.inr (tw43 hw)) (by decide) (by decide +kernel : parseFieldDescriptor "I" = some .int) (by decide +kernel : parseFieldDescriptor "[I" = some (.array .int))))
          have f205 : Ari Z h199 r .int [ct0, ct1, ct2, ct3] := f195.other W200 (Ne.symm ne_a_r)
          have f206 : Exa Z h199 r "[I" := f196.wr W200
          have f207 : Ari Z h199 a184 .int [ct0] := f186.other W200 (Ne.symm ne187)
          have zs208 : Z.heap.size ≤ h199.size := W200.size ▸ zs197
          have kp209 : Keep h h199 [a] := kp198.wr W200 (Or.inl (by simp))
          refine Go.lconst 40 (0) d2_39 (by decide) rfl ?_
          refine Go.lstore 42 #[.val (.ref a), .val (.int (4 : Int32)), .val (.ref r), .val (.int ((((4 : Int32) + (-1 : Int32)) + (-1 : Int32)) + (-1 : Int32))), .val (.long (0 : Int64)), .second, .unset] d2_40 rfl rfl ?_
          refine Go.iconst 43 (1) d2_42 (by decide) rfl ?_
          refine Go.istore 45 #[.val (.ref a), .val (.int (4 : Int32)), .val (.ref r), .val (.int ((((4 : Int32) + (-1 : Int32)) + (-1 : Int32)) + (-1 : Int32))), .val (.long (0 : Int64)), .second, .val (.int (1 : Int32))] d2_43 rfl rfl ?_
          refine Go.iload 47 d2_45 rfl rfl ?_
          refine Go.iload_n 48 d2_47 rfl rfl ?_
          refine Go.icmp_gt 73 51 d2_48 (by decide) (by decide) rfl (fun c => absurd c (by decide)) (fun _ => ?_)
          refine Go.lload 53 d2_51 rfl rfl ?_
          refine Go.iload 55 d2_53 rfl rfl ?_
          refine Go.i2l 56 d2_55 rfl ?_
          refine Go.aload_n 57 d2_56 rfl rfl rfl ?_
          refine Go.iload 59 d2_57 rfl rfl ?_
          refine Go.iconst 60 (1) d2_59 (by decide) rfl ?_
          refine Go.isub 61 d2_60 rfl ?_
          refine Go.iaload (x := ct0) (0) 62 d2_61 f205 (by decide) (by decide) rfl rfl ?_
          refine Go.i2l 63 d2_62 rfl ?_
          refine Go.lmul 64 d2_63 rfl ?_
          refine Go.ladd 65 d2_64 rfl ?_
          refine Go.lstore 67 #[.val (.ref a), .val (.int (4 : Int32)), .val (.ref r), .val (.int ((((4 : Int32) + (-1 : Int32)) + (-1 : Int32)) + (-1 : Int32))), .val (.long ((0 : Int64) + ((Int32.toInt64 (1 : Int32)) * (Int32.toInt64 ct0)))), .second, .val (.int (1 : Int32))] d2_65 rfl rfl ?_
          refine Go.iinc 70 (1) #[.val (.ref a), .val (.int (4 : Int32)), .val (.ref r), .val (.int ((((4 : Int32) + (-1 : Int32)) + (-1 : Int32)) + (-1 : Int32))), .val (.long ((0 : Int64) + ((Int32.toInt64 (1 : Int32)) * (Int32.toInt64 ct0)))), .second, .val (.int ((1 : Int32) + (1 : Int32)))] d2_67 (by decide) rfl rfl rfl ?_
          refine Go.goto 45 d2_70 (by decide) (by decide) ?_
          refine Go.iload 47 d2_45 rfl rfl ?_
          refine Go.iload_n 48 d2_47 rfl rfl ?_
          refine Go.icmp_gt 73 51 d2_48 (by decide) (by decide) rfl (fun _ => ?_) (fun c => absurd c (by decide))
          refine Go.aload_n 74 d2_73 rfl rfl rfl ?_
          refine Go.lload 76 d2_74 rfl rfl ?_
          refine Go.putfield (ty := .long) 79 d2_76 (tw44 hw) f203 f201 (Or.inr ⟨(tw45 hw), rfl, rfl⟩) (tw21 hw) (by decide) rfl rfl ge_a rfl (fun h212 W213 => ?_)
          have f214 : Exa Z h212 a "dev/stablemate/solve/Profile" := f201.wr W213
          have f215 : Fld Z h212 a "dev/stablemate/solve/Profile" "counts" "[I" (.ref a184) := f202.other W213 (Or.inr (slot_ne (Or.inr (tw43 hw)) (Or.inr (tw45 hw)) (by decide) (by decide +kernel : parseFieldDescriptor "[I" = some (.array .int)) (by decide +kernel : parseFieldDescriptor "J" = some .long)))
          have f216 : Fld Z h212 a "dev/stablemate/solve/Profile" "cost" "J" (.long ((0 : Int64) + ((Int32.toInt64 (1 : Int32)) * (Int32.toInt64 ct0)))) := f203.same W213
          have f217 : Fld Z h212 a "dev/stablemate/solve/Profile" "length" "I" (.int (4 : Int32)) := f204.other W213 (Or.inr (slot_ne (Or.inr (tw29 hw)) (Or.inr (tw45 hw)) (by decide) (by decide +kernel : parseFieldDescriptor "I" = some .int) (by decide +kernel : parseFieldDescriptor "J" = some .long)))
          have f218 : Ari Z h212 r .int [ct0, ct1, ct2, ct3] := f205.other W213 (Ne.symm ne_a_r)
          have f219 : Exa Z h212 r "[I" := f206.wr W213
          have f220 : Ari Z h212 a184 .int [ct0] := f207.other W213 (Ne.symm ne187)
          have zs221 : Z.heap.size ≤ h212.size := W213.size ▸ zs208
          have kp222 : Keep h h212 [a] := kp209.wr W213 (Or.inl (by simp))
          refine Go.vreturn d2_79 rfl (by decide) (by decide) ?_
          have e9 : own_trim [ct0, ct1, ct2, ct3] = [ct0] := by simp [own_trim, c2, c59, c115, c170]
          exact ⟨a184, fr190, kp222, f214, f215, (by unfold own_cost; rw [e9]; exact f216), (by rw [e9]; exact f220)⟩
        ·
          refine Go.iinc 22 (-1) #[.val (.ref a), .val (.int (4 : Int32)), .val (.ref r), .val (.int (((((4 : Int32) + (-1 : Int32)) + (-1 : Int32)) + (-1 : Int32)) + (-1 : Int32))), .unset, .unset, .unset] d2_19 (by decide) rfl rfl rfl ?_
          refine Go.goto 7 d2_22 (by decide) (by decide) ?_
          refine Go.iload_n 8 d2_7 rfl rfl ?_
          refine Go.if_le 25 11 d2_8 (by decide) (by decide) rfl (fun _ => ?_) (fun c => absurd c (by decide))
          refine Go.aload_n 26 d2_25 rfl rfl rfl ?_
          refine Go.iload_n 27 d2_26 rfl rfl ?_
          refine Go.putfield (ty := .int) 30 d2_27 (tw28 hw) fa3 fa0 (Or.inr ⟨(tw29 hw), rfl, rfl⟩) (tw21 hw) (by decide) rfl rfl ge_a rfl (fun h224 W225 => ?_)
          have f226 : Exa Z h224 a "dev/stablemate/solve/Profile" := fa0.wr W225
          have f227 : Fld Z h224 a "dev/stablemate/solve/Profile" "counts" "[I" (.null) := fa1.other W225 (Or.inr (slot_ne (Or.inr (tw43 hw)) (Or.inr (tw29 hw)) (by decide) (by decide +kernel : parseFieldDescriptor "[I" = some (.array .int)) (by decide +kernel : parseFieldDescriptor "I" = some .int)))
          have f228 : Fld Z h224 a "dev/stablemate/solve/Profile" "cost" "J" (.long (0 : Int64)) := fa2.other W225 (Or.inr (slot_ne (Or.inr (tw45 hw)) (Or.inr (tw29 hw)) (by decide) (by decide +kernel : parseFieldDescriptor "J" = some .long) (by decide +kernel : parseFieldDescriptor "I" = some .int)))
          have f229 : Fld Z h224 a "dev/stablemate/solve/Profile" "length" "I" (.int (4 : Int32)) := fa3.same W225
          have f230 : Ari Z h224 r .int [ct0, ct1, ct2, ct3] := fa4.other W225 (Ne.symm ne_a_r)
          have f231 : Exa Z h224 r "[I" := fa5.wr W225
          have zs232 : Z.heap.size ≤ h224.size := W225.size ▸ hz
          have kp233 : Keep h h224 [a] := kp0.wr W225 (Or.inl (by simp))
          refine Go.aload_n 31 d2_30 rfl rfl rfl ?_
          refine Go.aload_n 32 d2_31 rfl rfl rfl ?_
          refine Go.iload_n 33 d2_32 rfl rfl ?_
          refine Go.callSR [.ref r, .int (((((4 : Int32) + (-1 : Int32)) + (-1 : Int32)) + (-1 : Int32)) + (-1 : Int32))] [.ref a] 36 d2_33 (tw30 hw) (tw31 hw) (tw32 hw) (tw33 hw) pl4 (by decide) (lenOf pd4 rfl) rfl (fun m => ef_k_copy_4_0 m r (((((4 : Int32) + (-1 : Int32)) + (-1 : Int32)) + (-1 : Int32)) + (-1 : Int32))) _ (k_copy_4_0 hw h224 zs232 r f230 f231) 1 rfl (Nat.le_of_eq rfl) (by decide) (by decide) (by decide) (by decide) rfl ?_
          rintro z234 h235 ⟨a237, rfl, g238, K236, f239⟩
          have ne240 : a ≠ a237 := Nat.ne_of_lt (Nat.lt_of_lt_of_le f226.lt g238)
          have ne241 : r ≠ a237 := Nat.ne_of_lt (Nat.lt_of_lt_of_le f230.lt g238)
          have ge242 : Z.heap.size ≤ a237 := Nat.le_trans zs232 g238
          have fr243 : h.size ≤ a237 := Nat.le_trans kp233.1 g238
          have f244 : Exa Z h235 a "dev/stablemate/solve/Profile" := f226.keep K236
          have f245 : Fld Z h235 a "dev/stablemate/solve/Profile" "counts" "[I" (.null) := f227.keep K236 nin0
          have f246 : Fld Z h235 a "dev/stablemate/solve/Profile" "cost" "J" (.long (0 : Int64)) := f228.keep K236 nin0
          have f247 : Fld Z h235 a "dev/stablemate/solve/Profile" "length" "I" (.int (4 : Int32)) := f229.keep K236 nin0
          have f248 : Ari Z h235 r .int [ct0, ct1, ct2, ct3] := f230.keep K236 nin0
          have f249 : Exa Z h235 r "[I" := f231.keep K236
          have zs250 : Z.heap.size ≤ h235.size := Nat.le_trans zs232 K236.1
          have kp251 : Keep h h235 [a] := kp233.trans K236 all0
          refine Go.putfield (ty := (.array .int)) 39 d2_36 (tw42 hw) f245 f244 (Or.inr ⟨(tw43 hw), rfl, rfl⟩) (tw21 hw) (by decide) rfl rfl ge_a rfl (fun h252 W253 => ?_)
          have f254 : Exa Z h252 a "dev/stablemate/solve/Profile" := f244.wr W253
          have f255 : Fld Z h252 a "dev/stablemate/solve/Profile" "counts" "[I" (.ref a237) := f245.same W253
          have f256 : Fld Z h252 a "dev/stablemate/solve/Profile" "cost" "J" (.long (0 : Int64)) := f246.other W253 (Or.inr (slot_ne (Or.inr (tw45 hw)) (Or.inr (tw43 hw)) (by decide) (by decide +kernel : parseFieldDescriptor "J" = some .long) (by decide +kernel : parseFieldDescriptor "[I" = some (.array .int))))
          have f257 : Fld Z h252 a "dev/stablemate/solve/Profile" "length" "I" (.int (4 : Int32)) := f247.other W253 (Or.inr (slot_ne (Or.inr (tw29 hw)) (Or.inr (tw43 hw)) (by decide) (by decide +kernel : parseFieldDescriptor "I" = some .int) (by decide +kernel : parseFieldDescriptor "[I" = some (.array .int))))
          have f258 : Ari Z h252 r .int [ct0, ct1, ct2, ct3] := f248.other W253 (Ne.symm ne_a_r)
          have f259 : Exa Z h252 r "[I" := f249.wr W253
          have f260 : Ari Z h252 a237 .int [] := f239.other W253 (Ne.symm ne240)
          have zs261 : Z.heap.size ≤ h252.size := W253.size ▸ zs250
          have kp262 : Keep h h252 [a] := kp251.wr W253 (Or.inl (by simp))
          refine Go.lconst 40 (0) d2_39 (by decide) rfl ?_
          refine Go.lstore 42 #[.val (.ref a), .val (.int (4 : Int32)), .val (.ref r), .val (.int (((((4 : Int32) + (-1 : Int32)) + (-1 : Int32)) + (-1 : Int32)) + (-1 : Int32))), .val (.long (0 : Int64)), .second, .unset] d2_40 rfl rfl ?_
          refine Go.iconst 43 (1) d2_42 (by decide) rfl ?_
          refine Go.istore 45 #[.val (.ref a), .val (.int (4 : Int32)), .val (.ref r), .val (.int (((((4 : Int32) + (-1 : Int32)) + (-1 : Int32)) + (-1 : Int32)) + (-1 : Int32))), .val (.long (0 : Int64)), .second, .val (.int (1 : Int32))] d2_43 rfl rfl ?_
          refine Go.iload 47 d2_45 rfl rfl ?_
          refine Go.iload_n 48 d2_47 rfl rfl ?_
          refine Go.icmp_gt 73 51 d2_48 (by decide) (by decide) rfl (fun _ => ?_) (fun c => absurd c (by decide))
          refine Go.aload_n 74 d2_73 rfl rfl rfl ?_
          refine Go.lload 76 d2_74 rfl rfl ?_
          refine Go.putfield (ty := .long) 79 d2_76 (tw44 hw) f256 f254 (Or.inr ⟨(tw45 hw), rfl, rfl⟩) (tw21 hw) (by decide) rfl rfl ge_a rfl (fun h264 W265 => ?_)
          have f266 : Exa Z h264 a "dev/stablemate/solve/Profile" := f254.wr W265
          have f267 : Fld Z h264 a "dev/stablemate/solve/Profile" "counts" "[I" (.ref a237) := f255.other W265 (Or.inr (slot_ne (Or.inr (tw43 hw)) (Or.inr (tw45 hw)) (by decide) (by decide +kernel : parseFieldDescriptor "[I" = some (.array .int)) (by decide +kernel : parseFieldDescriptor "J" = some .long)))
          have f268 : Fld Z h264 a "dev/stablemate/solve/Profile" "cost" "J" (.long (0 : Int64)) := f256.same W265
          have f269 : Fld Z h264 a "dev/stablemate/solve/Profile" "length" "I" (.int (4 : Int32)) := f257.other W265 (Or.inr (slot_ne (Or.inr (tw29 hw)) (Or.inr (tw45 hw)) (by decide) (by decide +kernel : parseFieldDescriptor "I" = some .int) (by decide +kernel : parseFieldDescriptor "J" = some .long)))
          have f270 : Ari Z h264 r .int [ct0, ct1, ct2, ct3] := f258.other W265 (Ne.symm ne_a_r)
          have f271 : Exa Z h264 r "[I" := f259.wr W265
          have f272 : Ari Z h264 a237 .int [] := f260.other W265 (Ne.symm ne240)
          have zs273 : Z.heap.size ≤ h264.size := W265.size ▸ zs261
          have kp274 : Keep h h264 [a] := kp262.wr W265 (Or.inl (by simp))
          refine Go.vreturn d2_79 rfl (by decide) (by decide) ?_
          have e9 : own_trim [ct0, ct1, ct2, ct3] = [] := by simp [own_trim, c2, c59, c115, c170]
          exact ⟨a237, fr243, kp274, f266, f267, (by unfold own_cost; rw [e9]; exact f268), (by rw [e9]; exact f272)⟩

theorem d1_0 : decode prog_26_method_3_code 0 = .ok (.iload_n 0, 1) := by decide +kernel
theorem d1_1 : decode prog_26_method_3_code 1 = .ok (.newarray .int, 2) := by decide +kernel
theorem d1_3 : decode prog_26_method_3_code 3 = .ok (.astore_n 3, 1) := by decide +kernel
theorem d1_4 : decode prog_26_method_3_code 4 = .ok (.iconst 0, 1) := by decide +kernel
theorem d1_5 : decode prog_26_method_3_code 5 = .ok (.istore 4, 2) := by decide +kernel
theorem d1_7 : decode prog_26_method_3_code 7 = .ok (.iload 4, 2) := by decide +kernel
theorem d1_9 : decode prog_26_method_3_code 9 = .ok (.iload_n 2, 1) := by decide +kernel
theorem d1_10 : decode prog_26_method_3_code 10 = .ok (.if_icmp .ge 21, 3) := by decide +kernel
theorem d1_13 : decode prog_26_method_3_code 13 = .ok (.aload_n 3, 1) := by decide +kernel
theorem d1_14 : decode prog_26_method_3_code 14 = .ok (.aload_n 1, 1) := by decide +kernel
theorem d1_15 : decode prog_26_method_3_code 15 = .ok (.iload 4, 2) := by decide +kernel
theorem d1_17 : decode prog_26_method_3_code 17 = .ok (.iaload, 1) := by decide +kernel
theorem d1_18 : decode prog_26_method_3_code 18 = .ok (.iconst 1, 1) := by decide +kernel
theorem d1_19 : decode prog_26_method_3_code 19 = .ok (.isub, 1) := by decide +kernel
theorem d1_20 : decode prog_26_method_3_code 20 = .ok (.dup2, 1) := by decide +kernel
theorem d1_21 : decode prog_26_method_3_code 21 = .ok (.iaload, 1) := by decide +kernel
theorem d1_22 : decode prog_26_method_3_code 22 = .ok (.iconst 1, 1) := by decide +kernel
theorem d1_23 : decode prog_26_method_3_code 23 = .ok (.iadd, 1) := by decide +kernel
theorem d1_24 : decode prog_26_method_3_code 24 = .ok (.iastore, 1) := by decide +kernel
theorem d1_25 : decode prog_26_method_3_code 25 = .ok (.iinc 4 1, 3) := by decide +kernel
theorem d1_28 : decode prog_26_method_3_code 28 = .ok (.goto (-21), 3) := by decide +kernel
theorem d1_31 : decode prog_26_method_3_code 31 = .ok (.new 8, 3) := by decide +kernel
theorem d1_34 : decode prog_26_method_3_code 34 = .ok (.dup, 1) := by decide +kernel
theorem d1_35 : decode prog_26_method_3_code 35 = .ok (.iload_n 0, 1) := by decide +kernel
theorem d1_36 : decode prog_26_method_3_code 36 = .ok (.aload_n 3, 1) := by decide +kernel
theorem d1_37 : decode prog_26_method_3_code 37 = .ok (.invokespecial 51, 3) := by decide +kernel
theorem d1_40 : decode prog_26_method_3_code 40 = .ok (.areturn, 1) := by decide +kernel

theorem pd1 : parseMethodDescriptor "(I[II)Ldev/stablemate/solve/Profile;" = some ⟨[.int, (.array .int), .int], some (.object "dev/stablemate/solve/Profile")⟩ := by decide +kernel
theorem pl1 : plainFor (⟨"dev/stablemate/solve/Profile", "ofRanks", "(I[II)Ldev/stablemate/solve/Profile;"⟩ : MethodName) = true := by first | exact plainFor_of_name (by first | (simp [plainName, overriddenIn]; done) | decide +kernel) | decide +kernel

theorem ef_k_of_x (m : MethodId) (x0 : Int32) (x1 : Addr) (x2 : Int32) : entryFrame m #[(.int x0), (.ref x1), (.int x2)] 5 = mkF m 0 #[.val (.int x0), .val (.ref x1), .val (.int x2), .unset, .unset] [] := by first | (simp [entryFrame, mkF, argsToLocals, Value.category]; done) | rfl

set_option maxRecDepth 65536 in
set_option maxHeartbeats 40000000 in
theorem k_of_x {l : Launch} {Z : State} {a0 : Array Value} (hw : ∀ d ∈ tables_1, d.before a0 Z = true)  (h : Heap) (hz : Z.heap.size ≤ h.size) (r : Addr) (fa0 : Ari Z h r .int [(2 : Int32), (2 : Int32), (2 : Int32)])    : Go l Z (⟨"dev/stablemate/solve/Profile", "ofRanks", "(I[II)Ldev/stablemate/solve/Profile;"⟩ : MethodName) prog_26_method_3_code 5 (Option.some (Jvm.ClassFile.FieldType.object "dev/stablemate/solve/Profile")) ({ frames := 3, cells := 3, slots := 11, locals := 88 } : Room) (QR fun rz h' => ∃ a am : Addr, rz = .ref a ∧ h.size ≤ a ∧ h.size ≤ am ∧ a ≠ am ∧ Keep h h' [] ∧ Exa Z h' a "dev/stablemate/solve/Profile" ∧ Fld Z h' a "dev/stablemate/solve/Profile" "counts" "[I" (.ref am) ∧ Fld Z h' a "dev/stablemate/solve/Profile" "cost" "J" (.long (6 : Int64)) ∧ Ari Z h' am .int [(0 : Int32), (3 : Int32)]) 0 0 h 0 #[.val (.int (3 : Int32)), .val (.ref r), .val (.int (3 : Int32)), .unset, .unset] [] := by
  have kp0 : Keep h h [] := Keep.refl _ _
  refine Go.iload_n 1 d1_0 rfl rfl ?_
  refine Go.newIE (cap := 3) (xs := [0, 0, 0]) "[I" 3 d1_1 (tw15 hw) rfl (by decide) (by decide) (by decide) (by decide) rfl (by decide) (by decide) rfl (fun a1 h2 q3 E4 A5 Ex6 => ?_)
  have ne7 : r ≠ a1 := fun e => absurd fa0.lt (by rw [e, q3]; exact Nat.lt_irrefl _)
  have ge8 : Z.heap.size ≤ a1 := (Eq.symm q3) ▸ hz
  have fr9 : h.size ≤ a1 := by rw [q3]; exact kp0.1
  have f10 : Ari Z h2 r .int [(2 : Int32), (2 : Int32), (2 : Int32)] := fa0.ext E4
  have zs11 : Z.heap.size ≤ h2.size := Nat.le_trans hz E4.1
  have kp12 : Keep h h2 [] := kp0.ext E4
  refine Go.astore_n 4 #[.val (.int (3 : Int32)), .val (.ref r), .val (.int (3 : Int32)), .val (.ref a1), .unset] d1_3 rfl rfl rfl ?_
  refine Go.iconst 5 (0) d1_4 (by decide) rfl ?_
  refine Go.istore 7 #[.val (.int (3 : Int32)), .val (.ref r), .val (.int (3 : Int32)), .val (.ref a1), .val (.int (0 : Int32))] d1_5 rfl rfl ?_
  refine Go.iload 9 d1_7 rfl rfl ?_
  refine Go.iload_n 10 d1_9 rfl rfl ?_
  refine Go.icmp_ge 31 13 d1_10 (by decide) (by decide) rfl (fun c => absurd c (by decide)) (fun _ => ?_)
  refine Go.aload_n 14 d1_13 rfl rfl rfl ?_
  refine Go.aload_n 15 d1_14 rfl rfl rfl ?_
  refine Go.iload 17 d1_15 rfl rfl ?_
  refine Go.iaload (x := (2 : Int32)) (0) 18 d1_17 f10 (by decide) (by decide) rfl rfl ?_
  refine Go.iconst 19 (1) d1_18 (by decide) rfl ?_
  refine Go.isub 20 d1_19 rfl ?_
  refine Go.dup2 21 d1_20 rfl rfl rfl ?_
  refine Go.iaload (x := (0 : Int32)) (1) 22 d1_21 A5 (by decide) (by decide) rfl rfl ?_
  refine Go.iconst 23 (1) d1_22 (by decide) rfl ?_
  refine Go.iadd 24 d1_23 rfl ?_
  refine Go.iastore (1) ([0, ((0 : Int32) + (1 : Int32)), 0]) 25 d1_24 A5 (by decide) (by decide) (by decide : (1 : Nat) < 3) rfl ge8 rfl (fun h14 W15 A16 => ?_)
  have f17 : Ari Z h14 r .int [(2 : Int32), (2 : Int32), (2 : Int32)] := f10.other W15 ne7
  have f18 : Exa Z h14 a1 "[I" := Ex6.wr W15
  have zs19 : Z.heap.size ≤ h14.size := W15.size ▸ zs11
  have kp20 : Keep h h14 [] := kp12.wr W15 (Or.inr fr9)
  refine Go.iinc 28 (1) #[.val (.int (3 : Int32)), .val (.ref r), .val (.int (3 : Int32)), .val (.ref a1), .val (.int ((0 : Int32) + (1 : Int32)))] d1_25 (by decide) rfl rfl rfl ?_
  refine Go.goto 7 d1_28 (by decide) (by decide) ?_
  refine Go.iload 9 d1_7 rfl rfl ?_
  refine Go.iload_n 10 d1_9 rfl rfl ?_
  refine Go.icmp_ge 31 13 d1_10 (by decide) (by decide) rfl (fun c => absurd c (by decide)) (fun _ => ?_)
  refine Go.aload_n 14 d1_13 rfl rfl rfl ?_
  refine Go.aload_n 15 d1_14 rfl rfl rfl ?_
  refine Go.iload 17 d1_15 rfl rfl ?_
  refine Go.iaload (x := (2 : Int32)) (1) 18 d1_17 f17 (by decide) (by decide) rfl rfl ?_
  refine Go.iconst 19 (1) d1_18 (by decide) rfl ?_
  refine Go.isub 20 d1_19 rfl ?_
  refine Go.dup2 21 d1_20 rfl rfl rfl ?_
  refine Go.iaload (x := ((0 : Int32) + (1 : Int32))) (1) 22 d1_21 A16 (by decide) (by decide) rfl rfl ?_
  refine Go.iconst 23 (1) d1_22 (by decide) rfl ?_
  refine Go.iadd 24 d1_23 rfl ?_
  refine Go.iastore (1) ([0, (((0 : Int32) + (1 : Int32)) + (1 : Int32)), 0]) 25 d1_24 A16 (by decide) (by decide) (by decide : (1 : Nat) < 3) rfl ge8 rfl (fun h22 W23 A24 => ?_)
  have f25 : Ari Z h22 r .int [(2 : Int32), (2 : Int32), (2 : Int32)] := f17.other W23 ne7
  have f26 : Exa Z h22 a1 "[I" := f18.wr W23
  have zs27 : Z.heap.size ≤ h22.size := W23.size ▸ zs19
  have kp28 : Keep h h22 [] := kp20.wr W23 (Or.inr fr9)
  refine Go.iinc 28 (1) #[.val (.int (3 : Int32)), .val (.ref r), .val (.int (3 : Int32)), .val (.ref a1), .val (.int (((0 : Int32) + (1 : Int32)) + (1 : Int32)))] d1_25 (by decide) rfl rfl rfl ?_
  refine Go.goto 7 d1_28 (by decide) (by decide) ?_
  refine Go.iload 9 d1_7 rfl rfl ?_
  refine Go.iload_n 10 d1_9 rfl rfl ?_
  refine Go.icmp_ge 31 13 d1_10 (by decide) (by decide) rfl (fun c => absurd c (by decide)) (fun _ => ?_)
  refine Go.aload_n 14 d1_13 rfl rfl rfl ?_
  refine Go.aload_n 15 d1_14 rfl rfl rfl ?_
  refine Go.iload 17 d1_15 rfl rfl ?_
  refine Go.iaload (x := (2 : Int32)) (2) 18 d1_17 f25 (by decide) (by decide) rfl rfl ?_
  refine Go.iconst 19 (1) d1_18 (by decide) rfl ?_
  refine Go.isub 20 d1_19 rfl ?_
  refine Go.dup2 21 d1_20 rfl rfl rfl ?_
  refine Go.iaload (x := (((0 : Int32) + (1 : Int32)) + (1 : Int32))) (1) 22 d1_21 A24 (by decide) (by decide) rfl rfl ?_
  refine Go.iconst 23 (1) d1_22 (by decide) rfl ?_
  refine Go.iadd 24 d1_23 rfl ?_
  refine Go.iastore (1) ([0, ((((0 : Int32) + (1 : Int32)) + (1 : Int32)) + (1 : Int32)), 0]) 25 d1_24 A24 (by decide) (by decide) (by decide : (1 : Nat) < 3) rfl ge8 rfl (fun h30 W31 A32 => ?_)
  have f33 : Ari Z h30 r .int [(2 : Int32), (2 : Int32), (2 : Int32)] := f25.other W31 ne7
  have f34 : Exa Z h30 a1 "[I" := f26.wr W31
  have zs35 : Z.heap.size ≤ h30.size := W31.size ▸ zs27
  have kp36 : Keep h h30 [] := kp28.wr W31 (Or.inr fr9)
  refine Go.iinc 28 (1) #[.val (.int (3 : Int32)), .val (.ref r), .val (.int (3 : Int32)), .val (.ref a1), .val (.int ((((0 : Int32) + (1 : Int32)) + (1 : Int32)) + (1 : Int32)))] d1_25 (by decide) rfl rfl rfl ?_
  refine Go.goto 7 d1_28 (by decide) (by decide) ?_
  refine Go.iload 9 d1_7 rfl rfl ?_
  refine Go.iload_n 10 d1_9 rfl rfl ?_
  refine Go.icmp_ge 31 13 d1_10 (by decide) (by decide) rfl (fun _ => ?_) (fun c => absurd c (by decide))
  refine Go.new 34 d1_31 (tw20 hw) (tw21 hw) (tw18 hw) (by decide) (by decide) rfl (fun a38 h39 q40 E41 A42 D43 => ?_)
  have ne44 : r ≠ a38 := fun e => absurd f33.lt (by rw [e, q40]; exact Nat.lt_irrefl _)
  have ne45 : a1 ≠ a38 := fun e => absurd f34.lt (by rw [e, q40]; exact Nat.lt_irrefl _)
  have ge46 : Z.heap.size ≤ a38 := (Eq.symm q40) ▸ zs35
  have fr47 : h.size ≤ a38 := by rw [q40]; exact kp36.1
  have f48 : Ari Z h39 r .int [(2 : Int32), (2 : Int32), (2 : Int32)] := f33.ext E41
  have f49 : Exa Z h39 a1 "[I" := f34.ext E41
  have f50 : Ari Z h39 a1 .int [0, ((((0 : Int32) + (1 : Int32)) + (1 : Int32)) + (1 : Int32)), 0] := A32.ext E41
  have zs51 : Z.heap.size ≤ h39.size := Nat.le_trans zs35 E41.1
  have kp52 : Keep h h39 [] := kp36.ext E41
  have f53 : Fld Z h39 a38 "dev/stablemate/solve/Profile" "length" "I" (.int (0 : Int32)) := D43 (Or.inr (tw29 hw)) (ty := .int) (by decide)
  have f54 : Fld Z h39 a38 "dev/stablemate/solve/Profile" "counts" "[I" (.null) := D43 (Or.inr (tw43 hw)) (ty := (.array .int)) (by decide)
  have f55 : Fld Z h39 a38 "dev/stablemate/solve/Profile" "cost" "J" (.long (0 : Int64)) := D43 (Or.inr (tw45 hw)) (ty := .long) (by decide)
  refine Go.dup 35 d1_34 rfl rfl ?_
  refine Go.iload_n 36 d1_35 rfl rfl ?_
  refine Go.aload_n 37 d1_36 rfl rfl rfl ?_
  refine Go.callC [.int (3 : Int32), .ref a1] [.ref a38] 40 d1_37 rfl (tw22 hw) (tw23 hw) (tw18 hw) (tw24 hw) pl2 (by decide) (lenOf pd2 rfl) rfl (fun m => ef_k_init_3 m a38 (3 : Int32) a1) _ (k_init_3 hw h39 zs51 a38 a1 A42 f54 f55 f53 f50 f49 ge46 (Ne.symm ne45)) 1 rfl (Nat.le_of_eq rfl) (by decide) (by decide) (by decide) (by decide) rfl ?_
  rintro h57 ⟨a59, g60, K58, f61, f62, f63, f64⟩
  have ne65 : r ≠ a59 := Nat.ne_of_lt (Nat.lt_of_lt_of_le f48.lt g60)
  have ne66 : a1 ≠ a59 := Nat.ne_of_lt (Nat.lt_of_lt_of_le f49.lt g60)
  have ne67 : a38 ≠ a59 := Nat.ne_of_lt (Nat.lt_of_lt_of_le A42.lt g60)
  have ge68 : Z.heap.size ≤ a59 := Nat.le_trans zs51 g60
  have fr69 : h.size ≤ a59 := Nat.le_trans kp52.1 g60
  have f70 : Ari Z h57 r .int [(2 : Int32), (2 : Int32), (2 : Int32)] := f48.keep K58 (ninS ne44 nin0)
  have f71 : Exa Z h57 a1 "[I" := f49.keep K58
  have f72 : Ari Z h57 a1 .int [0, ((((0 : Int32) + (1 : Int32)) + (1 : Int32)) + (1 : Int32)), 0] := f50.keep K58 (ninS ne45 nin0)
  have zs73 : Z.heap.size ≤ h57.size := Nat.le_trans zs51 K58.1
  have kp74 : Keep h h57 [] := kp52.trans K58 (allS (Or.inr fr47) all0)
  refine Go.areturn d1_40 rfl rfl rfl (by decide) (by decide) ?_
  exact ⟨a38, a59, rfl, fr47, fr69, ne67, kp74, f61, f62, ((by decide : (own_cost [0, ((((0 : Int32) + (1 : Int32)) + (1 : Int32)) + (1 : Int32)), 0]) = (6 : Int64)) ▸ f63), ((by decide : (own_trim [0, ((((0 : Int32) + (1 : Int32)) + (1 : Int32)) + (1 : Int32)), 0]) = [(0 : Int32), (3 : Int32)]) ▸ f64)⟩

theorem ef_k_of_y (m : MethodId) (x0 : Int32) (x1 : Addr) (x2 : Int32) : entryFrame m #[(.int x0), (.ref x1), (.int x2)] 5 = mkF m 0 #[.val (.int x0), .val (.ref x1), .val (.int x2), .unset, .unset] [] := by first | (simp [entryFrame, mkF, argsToLocals, Value.category]; done) | rfl

set_option maxRecDepth 65536 in
set_option maxHeartbeats 40000000 in
theorem k_of_y {l : Launch} {Z : State} {a0 : Array Value} (hw : ∀ d ∈ tables_1, d.before a0 Z = true)  (h : Heap) (hz : Z.heap.size ≤ h.size) (r : Addr) (fa0 : Ari Z h r .int [(1 : Int32), (3 : Int32), (1 : Int32)])    : Go l Z (⟨"dev/stablemate/solve/Profile", "ofRanks", "(I[II)Ldev/stablemate/solve/Profile;"⟩ : MethodName) prog_26_method_3_code 5 (Option.some (Jvm.ClassFile.FieldType.object "dev/stablemate/solve/Profile")) ({ frames := 3, cells := 3, slots := 11, locals := 88 } : Room) (QR fun rz h' => ∃ a am : Addr, rz = .ref a ∧ h.size ≤ a ∧ h.size ≤ am ∧ a ≠ am ∧ Keep h h' [] ∧ Exa Z h' a "dev/stablemate/solve/Profile" ∧ Fld Z h' a "dev/stablemate/solve/Profile" "counts" "[I" (.ref am) ∧ Fld Z h' a "dev/stablemate/solve/Profile" "cost" "J" (.long (4 : Int64)) ∧ Ari Z h' am .int [(1 : Int32), (0 : Int32), (1 : Int32)]) 0 0 h 0 #[.val (.int (3 : Int32)), .val (.ref r), .val (.int (2 : Int32)), .unset, .unset] [] := by
  have kp0 : Keep h h [] := Keep.refl _ _
  refine Go.iload_n 1 d1_0 rfl rfl ?_
  refine Go.newIE (cap := 3) (xs := [0, 0, 0]) "[I" 3 d1_1 (tw15 hw) rfl (by decide) (by decide) (by decide) (by decide) rfl (by decide) (by decide) rfl (fun a1 h2 q3 E4 A5 Ex6 => ?_)
  have ne7 : r ≠ a1 := fun e => absurd fa0.lt (by rw [e, q3]; exact Nat.lt_irrefl _)
  have ge8 : Z.heap.size ≤ a1 := (Eq.symm q3) ▸ hz
  have fr9 : h.size ≤ a1 := by rw [q3]; exact kp0.1
  have f10 : Ari Z h2 r .int [(1 : Int32), (3 : Int32), (1 : Int32)] := fa0.ext E4
  have zs11 : Z.heap.size ≤ h2.size := Nat.le_trans hz E4.1
  have kp12 : Keep h h2 [] := kp0.ext E4
  refine Go.astore_n 4 #[.val (.int (3 : Int32)), .val (.ref r), .val (.int (2 : Int32)), .val (.ref a1), .unset] d1_3 rfl rfl rfl ?_
  refine Go.iconst 5 (0) d1_4 (by decide) rfl ?_
  refine Go.istore 7 #[.val (.int (3 : Int32)), .val (.ref r), .val (.int (2 : Int32)), .val (.ref a1), .val (.int (0 : Int32))] d1_5 rfl rfl ?_
  refine Go.iload 9 d1_7 rfl rfl ?_
  refine Go.iload_n 10 d1_9 rfl rfl ?_
  refine Go.icmp_ge 31 13 d1_10 (by decide) (by decide) rfl (fun c => absurd c (by decide)) (fun _ => ?_)
  refine Go.aload_n 14 d1_13 rfl rfl rfl ?_
  refine Go.aload_n 15 d1_14 rfl rfl rfl ?_
  refine Go.iload 17 d1_15 rfl rfl ?_
  refine Go.iaload (x := (1 : Int32)) (0) 18 d1_17 f10 (by decide) (by decide) rfl rfl ?_
  refine Go.iconst 19 (1) d1_18 (by decide) rfl ?_
  refine Go.isub 20 d1_19 rfl ?_
  refine Go.dup2 21 d1_20 rfl rfl rfl ?_
  refine Go.iaload (x := (0 : Int32)) (0) 22 d1_21 A5 (by decide) (by decide) rfl rfl ?_
  refine Go.iconst 23 (1) d1_22 (by decide) rfl ?_
  refine Go.iadd 24 d1_23 rfl ?_
  refine Go.iastore (0) ([((0 : Int32) + (1 : Int32)), 0, 0]) 25 d1_24 A5 (by decide) (by decide) (by decide : (0 : Nat) < 3) rfl ge8 rfl (fun h14 W15 A16 => ?_)
  have f17 : Ari Z h14 r .int [(1 : Int32), (3 : Int32), (1 : Int32)] := f10.other W15 ne7
  have f18 : Exa Z h14 a1 "[I" := Ex6.wr W15
  have zs19 : Z.heap.size ≤ h14.size := W15.size ▸ zs11
  have kp20 : Keep h h14 [] := kp12.wr W15 (Or.inr fr9)
  refine Go.iinc 28 (1) #[.val (.int (3 : Int32)), .val (.ref r), .val (.int (2 : Int32)), .val (.ref a1), .val (.int ((0 : Int32) + (1 : Int32)))] d1_25 (by decide) rfl rfl rfl ?_
  refine Go.goto 7 d1_28 (by decide) (by decide) ?_
  refine Go.iload 9 d1_7 rfl rfl ?_
  refine Go.iload_n 10 d1_9 rfl rfl ?_
  refine Go.icmp_ge 31 13 d1_10 (by decide) (by decide) rfl (fun c => absurd c (by decide)) (fun _ => ?_)
  refine Go.aload_n 14 d1_13 rfl rfl rfl ?_
  refine Go.aload_n 15 d1_14 rfl rfl rfl ?_
  refine Go.iload 17 d1_15 rfl rfl ?_
  refine Go.iaload (x := (3 : Int32)) (1) 18 d1_17 f17 (by decide) (by decide) rfl rfl ?_
  refine Go.iconst 19 (1) d1_18 (by decide) rfl ?_
  refine Go.isub 20 d1_19 rfl ?_
  refine Go.dup2 21 d1_20 rfl rfl rfl ?_
  refine Go.iaload (x := (0 : Int32)) (2) 22 d1_21 A16 (by decide) (by decide) rfl rfl ?_
  refine Go.iconst 23 (1) d1_22 (by decide) rfl ?_
  refine Go.iadd 24 d1_23 rfl ?_
  refine Go.iastore (2) ([((0 : Int32) + (1 : Int32)), 0, ((0 : Int32) + (1 : Int32))]) 25 d1_24 A16 (by decide) (by decide) (by decide : (2 : Nat) < 3) rfl ge8 rfl (fun h22 W23 A24 => ?_)
  have f25 : Ari Z h22 r .int [(1 : Int32), (3 : Int32), (1 : Int32)] := f17.other W23 ne7
  have f26 : Exa Z h22 a1 "[I" := f18.wr W23
  have zs27 : Z.heap.size ≤ h22.size := W23.size ▸ zs19
  have kp28 : Keep h h22 [] := kp20.wr W23 (Or.inr fr9)
  refine Go.iinc 28 (1) #[.val (.int (3 : Int32)), .val (.ref r), .val (.int (2 : Int32)), .val (.ref a1), .val (.int (((0 : Int32) + (1 : Int32)) + (1 : Int32)))] d1_25 (by decide) rfl rfl rfl ?_
  refine Go.goto 7 d1_28 (by decide) (by decide) ?_
  refine Go.iload 9 d1_7 rfl rfl ?_
  refine Go.iload_n 10 d1_9 rfl rfl ?_
  refine Go.icmp_ge 31 13 d1_10 (by decide) (by decide) rfl (fun _ => ?_) (fun c => absurd c (by decide))
  refine Go.new 34 d1_31 (tw20 hw) (tw21 hw) (tw18 hw) (by decide) (by decide) rfl (fun a30 h31 q32 E33 A34 D35 => ?_)
  have ne36 : r ≠ a30 := fun e => absurd f25.lt (by rw [e, q32]; exact Nat.lt_irrefl _)
  have ne37 : a1 ≠ a30 := fun e => absurd f26.lt (by rw [e, q32]; exact Nat.lt_irrefl _)
  have ge38 : Z.heap.size ≤ a30 := (Eq.symm q32) ▸ zs27
  have fr39 : h.size ≤ a30 := by rw [q32]; exact kp28.1
  have f40 : Ari Z h31 r .int [(1 : Int32), (3 : Int32), (1 : Int32)] := f25.ext E33
  have f41 : Exa Z h31 a1 "[I" := f26.ext E33
  have f42 : Ari Z h31 a1 .int [((0 : Int32) + (1 : Int32)), 0, ((0 : Int32) + (1 : Int32))] := A24.ext E33
  have zs43 : Z.heap.size ≤ h31.size := Nat.le_trans zs27 E33.1
  have kp44 : Keep h h31 [] := kp28.ext E33
  have f45 : Fld Z h31 a30 "dev/stablemate/solve/Profile" "length" "I" (.int (0 : Int32)) := D35 (Or.inr (tw29 hw)) (ty := .int) (by decide)
  have f46 : Fld Z h31 a30 "dev/stablemate/solve/Profile" "counts" "[I" (.null) := D35 (Or.inr (tw43 hw)) (ty := (.array .int)) (by decide)
  have f47 : Fld Z h31 a30 "dev/stablemate/solve/Profile" "cost" "J" (.long (0 : Int64)) := D35 (Or.inr (tw45 hw)) (ty := .long) (by decide)
  refine Go.dup 35 d1_34 rfl rfl ?_
  refine Go.iload_n 36 d1_35 rfl rfl ?_
  refine Go.aload_n 37 d1_36 rfl rfl rfl ?_
  refine Go.callC [.int (3 : Int32), .ref a1] [.ref a30] 40 d1_37 rfl (tw22 hw) (tw23 hw) (tw18 hw) (tw24 hw) pl2 (by decide) (lenOf pd2 rfl) rfl (fun m => ef_k_init_3 m a30 (3 : Int32) a1) _ (k_init_3 hw h31 zs43 a30 a1 A34 f46 f47 f45 f42 f41 ge38 (Ne.symm ne37)) 1 rfl (Nat.le_of_eq rfl) (by decide) (by decide) (by decide) (by decide) rfl ?_
  rintro h49 ⟨a51, g52, K50, f53, f54, f55, f56⟩
  have ne57 : r ≠ a51 := Nat.ne_of_lt (Nat.lt_of_lt_of_le f40.lt g52)
  have ne58 : a1 ≠ a51 := Nat.ne_of_lt (Nat.lt_of_lt_of_le f41.lt g52)
  have ne59 : a30 ≠ a51 := Nat.ne_of_lt (Nat.lt_of_lt_of_le A34.lt g52)
  have ge60 : Z.heap.size ≤ a51 := Nat.le_trans zs43 g52
  have fr61 : h.size ≤ a51 := Nat.le_trans kp44.1 g52
  have f62 : Ari Z h49 r .int [(1 : Int32), (3 : Int32), (1 : Int32)] := f40.keep K50 (ninS ne36 nin0)
  have f63 : Exa Z h49 a1 "[I" := f41.keep K50
  have f64 : Ari Z h49 a1 .int [((0 : Int32) + (1 : Int32)), 0, ((0 : Int32) + (1 : Int32))] := f42.keep K50 (ninS ne37 nin0)
  have zs65 : Z.heap.size ≤ h49.size := Nat.le_trans zs43 K50.1
  have kp66 : Keep h h49 [] := kp44.trans K50 (allS (Or.inr fr39) all0)
  refine Go.areturn d1_40 rfl rfl rfl (by decide) (by decide) ?_
  exact ⟨a30, a51, rfl, fr39, fr61, ne59, kp66, f53, f54, ((by decide : (own_cost [((0 : Int32) + (1 : Int32)), 0, ((0 : Int32) + (1 : Int32))]) = (4 : Int64)) ▸ f55), ((by decide : (own_trim [((0 : Int32) + (1 : Int32)), 0, ((0 : Int32) + (1 : Int32))]) = [(1 : Int32), (0 : Int32), (1 : Int32)]) ▸ f56)⟩

theorem ef_k_of (m : MethodId) (x0 : Int32) (x1 : Addr) (x2 : Int32) : entryFrame m #[(.int x0), (.ref x1), (.int x2)] 5 = mkF m 0 #[.val (.int x0), .val (.ref x1), .val (.int x2), .unset, .unset] [] := by first | (simp [entryFrame, mkF, argsToLocals, Value.category]; done) | rfl

set_option maxRecDepth 65536 in
set_option maxHeartbeats 40000000 in
theorem k_of {l : Launch} {Z : State} {a0 : Array Value} (hw : ∀ d ∈ tables_1, d.before a0 Z = true) {r0 : Int32} {r1 : Int32} {r2 : Int32} (h : Heap) (hz : Z.heap.size ≤ h.size) (r : Addr) (m : Int32) (fa0 : Ari Z h r .int [r0, r1, r2]) (hm : m = 0 ∨ m = 1 ∨ m = 2 ∨ m = 3) (h0 : own_rk r0) (h1 : own_rk r1) (h2 : own_rk r2)   : Go l Z (⟨"dev/stablemate/solve/Profile", "ofRanks", "(I[II)Ldev/stablemate/solve/Profile;"⟩ : MethodName) prog_26_method_3_code 5 (Option.some (Jvm.ClassFile.FieldType.object "dev/stablemate/solve/Profile")) ({ frames := 3, cells := 3, slots := 11, locals := 88 } : Room) (QR fun rz h' => ∃ a am : Addr, rz = .ref a ∧ h.size ≤ a ∧ h.size ≤ am ∧ a ≠ am ∧ Keep h h' [] ∧ Exa Z h' a "dev/stablemate/solve/Profile" ∧ Fld Z h' a "dev/stablemate/solve/Profile" "counts" "[I" (.ref am) ∧ Ari Z h' am .int (own_trim (own_cnt m r0 r1 r2))) 0 0 h 0 #[.val (.int (4 : Int32)), .val (.ref r), .val (.int m), .unset, .unset] [] := by
  have kp0 : Keep h h [] := Keep.refl _ _
  rcases hm with hs0 | hs0 | hs0 | hs0
  ·
    subst hs0
    refine Go.iload_n 1 d1_0 rfl rfl ?_
    refine Go.newIE (cap := 4) (xs := [0, 0, 0, 0]) "[I" 3 d1_1 (tw15 hw) rfl (by decide) (by decide) (by decide) (by decide) rfl (by decide) (by decide) rfl (fun a2 h3 q4 E5 A6 Ex7 => ?_)
    have ne8 : r ≠ a2 := fun e => absurd fa0.lt (by rw [e, q4]; exact Nat.lt_irrefl _)
    have ge9 : Z.heap.size ≤ a2 := (Eq.symm q4) ▸ hz
    have fr10 : h.size ≤ a2 := by rw [q4]; exact kp0.1
    have f11 : Ari Z h3 r .int [r0, r1, r2] := fa0.ext E5
    have zs12 : Z.heap.size ≤ h3.size := Nat.le_trans hz E5.1
    have kp13 : Keep h h3 [] := kp0.ext E5
    refine Go.astore_n 4 #[.val (.int (4 : Int32)), .val (.ref r), .val (.int (0 : Int32)), .val (.ref a2), .unset] d1_3 rfl rfl rfl ?_
    refine Go.iconst 5 (0) d1_4 (by decide) rfl ?_
    refine Go.istore 7 #[.val (.int (4 : Int32)), .val (.ref r), .val (.int (0 : Int32)), .val (.ref a2), .val (.int (0 : Int32))] d1_5 rfl rfl ?_
    refine Go.iload 9 d1_7 rfl rfl ?_
    refine Go.iload_n 10 d1_9 rfl rfl ?_
    refine Go.icmp_ge 31 13 d1_10 (by decide) (by decide) rfl (fun _ => ?_) (fun c => absurd c (by decide))
    refine Go.new 34 d1_31 (tw20 hw) (tw21 hw) (tw18 hw) (by decide) (by decide) rfl (fun a15 h16 q17 E18 A19 D20 => ?_)
    have ne21 : r ≠ a15 := fun e => absurd f11.lt (by rw [e, q17]; exact Nat.lt_irrefl _)
    have ne22 : a2 ≠ a15 := fun e => absurd A6.lt (by rw [e, q17]; exact Nat.lt_irrefl _)
    have ge23 : Z.heap.size ≤ a15 := (Eq.symm q17) ▸ zs12
    have fr24 : h.size ≤ a15 := by rw [q17]; exact kp13.1
    have f25 : Ari Z h16 r .int [r0, r1, r2] := f11.ext E18
    have f26 : Ari Z h16 a2 .int [0, 0, 0, 0] := A6.ext E18
    have f27 : Exa Z h16 a2 "[I" := Ex7.ext E18
    have zs28 : Z.heap.size ≤ h16.size := Nat.le_trans zs12 E18.1
    have kp29 : Keep h h16 [] := kp13.ext E18
    have f30 : Fld Z h16 a15 "dev/stablemate/solve/Profile" "length" "I" (.int (0 : Int32)) := D20 (Or.inr (tw29 hw)) (ty := .int) (by decide)
    have f31 : Fld Z h16 a15 "dev/stablemate/solve/Profile" "counts" "[I" (.null) := D20 (Or.inr (tw43 hw)) (ty := (.array .int)) (by decide)
    have f32 : Fld Z h16 a15 "dev/stablemate/solve/Profile" "cost" "J" (.long (0 : Int64)) := D20 (Or.inr (tw45 hw)) (ty := .long) (by decide)
    refine Go.dup 35 d1_34 rfl rfl ?_
    refine Go.iload_n 36 d1_35 rfl rfl ?_
    refine Go.aload_n 37 d1_36 rfl rfl rfl ?_
    refine Go.callC [.int (4 : Int32), .ref a2] [.ref a15] 40 d1_37 rfl (tw22 hw) (tw23 hw) (tw18 hw) (tw24 hw) pl2 (by decide) (lenOf pd2 rfl) rfl (fun m => ef_k_init_4 m a15 (4 : Int32) a2) _ (k_init_4 hw h16 zs28 a15 a2 A19 f31 f32 f30 f26 f27 ge23 (Ne.symm ne22)) 1 rfl (Nat.le_of_eq rfl) (by decide) (by decide) (by decide) (by decide) rfl ?_
    rintro h34 ⟨a36, g37, K35, f38, f39, f40, f41⟩
    have ne42 : r ≠ a36 := Nat.ne_of_lt (Nat.lt_of_lt_of_le f25.lt g37)
    have ne43 : a2 ≠ a36 := Nat.ne_of_lt (Nat.lt_of_lt_of_le f26.lt g37)
    have ne44 : a15 ≠ a36 := Nat.ne_of_lt (Nat.lt_of_lt_of_le A19.lt g37)
    have ge45 : Z.heap.size ≤ a36 := Nat.le_trans zs28 g37
    have fr46 : h.size ≤ a36 := Nat.le_trans kp29.1 g37
    have f47 : Ari Z h34 r .int [r0, r1, r2] := f25.keep K35 (ninS ne21 nin0)
    have f48 : Ari Z h34 a2 .int [0, 0, 0, 0] := f26.keep K35 (ninS ne22 nin0)
    have f49 : Exa Z h34 a2 "[I" := f27.keep K35
    have zs50 : Z.heap.size ≤ h34.size := Nat.le_trans zs28 K35.1
    have kp51 : Keep h h34 [] := kp29.trans K35 (allS (Or.inr fr24) all0)
    refine Go.areturn d1_40 rfl rfl rfl (by decide) (by decide) ?_
    have e8 : own_cnt (0 : Int32) r0 r1 r2 = [0, 0, 0, 0] := (own_cnt0 r0 r1 r2).trans rfl
    exact ⟨a15, a36, rfl, fr24, fr46, ne44, kp51, f38, f39, (by rw [e8]; exact f41)⟩
  ·
    subst hs0
    refine Go.iload_n 1 d1_0 rfl rfl ?_
    refine Go.newIE (cap := 4) (xs := [0, 0, 0, 0]) "[I" 3 d1_1 (tw15 hw) rfl (by decide) (by decide) (by decide) (by decide) rfl (by decide) (by decide) rfl (fun a52 h53 q54 E55 A56 Ex57 => ?_)
    have ne58 : r ≠ a52 := fun e => absurd fa0.lt (by rw [e, q54]; exact Nat.lt_irrefl _)
    have ge59 : Z.heap.size ≤ a52 := (Eq.symm q54) ▸ hz
    have fr60 : h.size ≤ a52 := by rw [q54]; exact kp0.1
    have f61 : Ari Z h53 r .int [r0, r1, r2] := fa0.ext E55
    have zs62 : Z.heap.size ≤ h53.size := Nat.le_trans hz E55.1
    have kp63 : Keep h h53 [] := kp0.ext E55
    refine Go.astore_n 4 #[.val (.int (4 : Int32)), .val (.ref r), .val (.int (1 : Int32)), .val (.ref a52), .unset] d1_3 rfl rfl rfl ?_
    refine Go.iconst 5 (0) d1_4 (by decide) rfl ?_
    refine Go.istore 7 #[.val (.int (4 : Int32)), .val (.ref r), .val (.int (1 : Int32)), .val (.ref a52), .val (.int (0 : Int32))] d1_5 rfl rfl ?_
    refine Go.iload 9 d1_7 rfl rfl ?_
    refine Go.iload_n 10 d1_9 rfl rfl ?_
    refine Go.icmp_ge 31 13 d1_10 (by decide) (by decide) rfl (fun c => absurd c (by decide)) (fun _ => ?_)
    refine Go.aload_n 14 d1_13 rfl rfl rfl ?_
    refine Go.aload_n 15 d1_14 rfl rfl rfl ?_
    refine Go.iload 17 d1_15 rfl rfl ?_
    refine Go.iaload (x := r0) (0) 18 d1_17 f61 (by decide) (by decide) rfl rfl ?_
    refine Go.iconst 19 (1) d1_18 (by decide) rfl ?_
    refine Go.isub 20 d1_19 rfl ?_
    refine Go.dup2 21 d1_20 rfl rfl rfl ?_
    refine Go.iaload (x := (own_at [0, 0, 0, 0] r0)) ((own_ix r0)) 22 d1_21 A56 h0.1 rfl (own_atq (by first | exact h0.2 | (simp only [own_incl]; exact h0.2))) rfl ?_
    refine Go.iconst 23 (1) d1_22 (by decide) rfl ?_
    refine Go.iadd 24 d1_23 rfl ?_
    refine Go.iastore ((own_ix r0)) ((own_inc [0, 0, 0, 0] r0)) 25 d1_24 A56 h0.1 rfl (by first | exact h0.2 | (simp only [own_incl]; exact h0.2)) rfl ge59 rfl (fun h65 W66 A67 => ?_)
    have f68 : Ari Z h65 r .int [r0, r1, r2] := f61.other W66 ne58
    have f69 : Exa Z h65 a52 "[I" := Ex57.wr W66
    have zs70 : Z.heap.size ≤ h65.size := W66.size ▸ zs62
    have kp71 : Keep h h65 [] := kp63.wr W66 (Or.inr fr60)
    refine Go.iinc 28 (1) #[.val (.int (4 : Int32)), .val (.ref r), .val (.int (1 : Int32)), .val (.ref a52), .val (.int ((0 : Int32) + (1 : Int32)))] d1_25 (by decide) rfl rfl rfl ?_
    refine Go.goto 7 d1_28 (by decide) (by decide) ?_
    refine Go.iload 9 d1_7 rfl rfl ?_
    refine Go.iload_n 10 d1_9 rfl rfl ?_
    refine Go.icmp_ge 31 13 d1_10 (by decide) (by decide) rfl (fun _ => ?_) (fun c => absurd c (by decide))
    obtain ⟨ct0, ct1, ct2, ct3, ec⟩ := own_list4 (xs := (own_inc [0, 0, 0, 0] r0)) (by simp only [own_incl]; rfl)
    rw [ec] at A67
    refine Go.new 34 d1_31 (tw20 hw) (tw21 hw) (tw18 hw) (by decide) (by decide) rfl (fun a73 h74 q75 E76 A77 D78 => ?_)
    have ne79 : r ≠ a73 := fun e => absurd f68.lt (by rw [e, q75]; exact Nat.lt_irrefl _)
    have ne80 : a52 ≠ a73 := fun e => absurd f69.lt (by rw [e, q75]; exact Nat.lt_irrefl _)
    have ge81 : Z.heap.size ≤ a73 := (Eq.symm q75) ▸ zs70
    have fr82 : h.size ≤ a73 := by rw [q75]; exact kp71.1
    have f83 : Ari Z h74 r .int [r0, r1, r2] := f68.ext E76
    have f84 : Exa Z h74 a52 "[I" := f69.ext E76
    have f85 : Ari Z h74 a52 .int [ct0, ct1, ct2, ct3] := A67.ext E76
    have zs86 : Z.heap.size ≤ h74.size := Nat.le_trans zs70 E76.1
    have kp87 : Keep h h74 [] := kp71.ext E76
    have f88 : Fld Z h74 a73 "dev/stablemate/solve/Profile" "length" "I" (.int (0 : Int32)) := D78 (Or.inr (tw29 hw)) (ty := .int) (by decide)
    have f89 : Fld Z h74 a73 "dev/stablemate/solve/Profile" "counts" "[I" (.null) := D78 (Or.inr (tw43 hw)) (ty := (.array .int)) (by decide)
    have f90 : Fld Z h74 a73 "dev/stablemate/solve/Profile" "cost" "J" (.long (0 : Int64)) := D78 (Or.inr (tw45 hw)) (ty := .long) (by decide)
    refine Go.dup 35 d1_34 rfl rfl ?_
    refine Go.iload_n 36 d1_35 rfl rfl ?_
    refine Go.aload_n 37 d1_36 rfl rfl rfl ?_
    refine Go.callC [.int (4 : Int32), .ref a52] [.ref a73] 40 d1_37 rfl (tw22 hw) (tw23 hw) (tw18 hw) (tw24 hw) pl2 (by decide) (lenOf pd2 rfl) rfl (fun m => ef_k_init_4 m a73 (4 : Int32) a52) _ (k_init_4 hw h74 zs86 a73 a52 A77 f89 f90 f88 f85 f84 ge81 (Ne.symm ne80)) 1 rfl (Nat.le_of_eq rfl) (by decide) (by decide) (by decide) (by decide) rfl ?_
    rintro h92 ⟨a94, g95, K93, f96, f97, f98, f99⟩
    have ne100 : r ≠ a94 := Nat.ne_of_lt (Nat.lt_of_lt_of_le f83.lt g95)
    have ne101 : a52 ≠ a94 := Nat.ne_of_lt (Nat.lt_of_lt_of_le f84.lt g95)
    have ne102 : a73 ≠ a94 := Nat.ne_of_lt (Nat.lt_of_lt_of_le A77.lt g95)
    have ge103 : Z.heap.size ≤ a94 := Nat.le_trans zs86 g95
    have fr104 : h.size ≤ a94 := Nat.le_trans kp87.1 g95
    have f105 : Ari Z h92 r .int [r0, r1, r2] := f83.keep K93 (ninS ne79 nin0)
    have f106 : Exa Z h92 a52 "[I" := f84.keep K93
    have f107 : Ari Z h92 a52 .int [ct0, ct1, ct2, ct3] := f85.keep K93 (ninS ne80 nin0)
    have zs108 : Z.heap.size ≤ h92.size := Nat.le_trans zs86 K93.1
    have kp109 : Keep h h92 [] := kp87.trans K93 (allS (Or.inr fr82) all0)
    refine Go.areturn d1_40 rfl rfl rfl (by decide) (by decide) ?_
    have e8 : own_cnt (1 : Int32) r0 r1 r2 = [ct0, ct1, ct2, ct3] := (own_cnt1 r0 r1 r2).trans ec
    exact ⟨a73, a94, rfl, fr82, fr104, ne102, kp109, f96, f97, (by rw [e8]; exact f99)⟩
  ·
    subst hs0
    refine Go.iload_n 1 d1_0 rfl rfl ?_
    refine Go.newIE (cap := 4) (xs := [0, 0, 0, 0]) "[I" 3 d1_1 (tw15 hw) rfl (by decide) (by decide) (by decide) (by decide) rfl (by decide) (by decide) rfl (fun a110 h111 q112 E113 A114 Ex115 => ?_)
    have ne116 : r ≠ a110 := fun e => absurd fa0.lt (by rw [e, q112]; exact Nat.lt_irrefl _)
    have ge117 : Z.heap.size ≤ a110 := (Eq.symm q112) ▸ hz
    have fr118 : h.size ≤ a110 := by rw [q112]; exact kp0.1
    have f119 : Ari Z h111 r .int [r0, r1, r2] := fa0.ext E113
    have zs120 : Z.heap.size ≤ h111.size := Nat.le_trans hz E113.1
    have kp121 : Keep h h111 [] := kp0.ext E113
    refine Go.astore_n 4 #[.val (.int (4 : Int32)), .val (.ref r), .val (.int (2 : Int32)), .val (.ref a110), .unset] d1_3 rfl rfl rfl ?_
    refine Go.iconst 5 (0) d1_4 (by decide) rfl ?_
    refine Go.istore 7 #[.val (.int (4 : Int32)), .val (.ref r), .val (.int (2 : Int32)), .val (.ref a110), .val (.int (0 : Int32))] d1_5 rfl rfl ?_
    refine Go.iload 9 d1_7 rfl rfl ?_
    refine Go.iload_n 10 d1_9 rfl rfl ?_
    refine Go.icmp_ge 31 13 d1_10 (by decide) (by decide) rfl (fun c => absurd c (by decide)) (fun _ => ?_)
    refine Go.aload_n 14 d1_13 rfl rfl rfl ?_
    refine Go.aload_n 15 d1_14 rfl rfl rfl ?_
    refine Go.iload 17 d1_15 rfl rfl ?_
    refine Go.iaload (x := r0) (0) 18 d1_17 f119 (by decide) (by decide) rfl rfl ?_
    refine Go.iconst 19 (1) d1_18 (by decide) rfl ?_
    refine Go.isub 20 d1_19 rfl ?_
    refine Go.dup2 21 d1_20 rfl rfl rfl ?_
    refine Go.iaload (x := (own_at [0, 0, 0, 0] r0)) ((own_ix r0)) 22 d1_21 A114 h0.1 rfl (own_atq (by first | exact h0.2 | (simp only [own_incl]; exact h0.2))) rfl ?_
    refine Go.iconst 23 (1) d1_22 (by decide) rfl ?_
    refine Go.iadd 24 d1_23 rfl ?_
    refine Go.iastore ((own_ix r0)) ((own_inc [0, 0, 0, 0] r0)) 25 d1_24 A114 h0.1 rfl (by first | exact h0.2 | (simp only [own_incl]; exact h0.2)) rfl ge117 rfl (fun h123 W124 A125 => ?_)
    have f126 : Ari Z h123 r .int [r0, r1, r2] := f119.other W124 ne116
    have f127 : Exa Z h123 a110 "[I" := Ex115.wr W124
    have zs128 : Z.heap.size ≤ h123.size := W124.size ▸ zs120
    have kp129 : Keep h h123 [] := kp121.wr W124 (Or.inr fr118)
    refine Go.iinc 28 (1) #[.val (.int (4 : Int32)), .val (.ref r), .val (.int (2 : Int32)), .val (.ref a110), .val (.int ((0 : Int32) + (1 : Int32)))] d1_25 (by decide) rfl rfl rfl ?_
    refine Go.goto 7 d1_28 (by decide) (by decide) ?_
    refine Go.iload 9 d1_7 rfl rfl ?_
    refine Go.iload_n 10 d1_9 rfl rfl ?_
    refine Go.icmp_ge 31 13 d1_10 (by decide) (by decide) rfl (fun c => absurd c (by decide)) (fun _ => ?_)
    refine Go.aload_n 14 d1_13 rfl rfl rfl ?_
    refine Go.aload_n 15 d1_14 rfl rfl rfl ?_
    refine Go.iload 17 d1_15 rfl rfl ?_
    refine Go.iaload (x := r1) (1) 18 d1_17 f126 (by decide) (by decide) rfl rfl ?_
    refine Go.iconst 19 (1) d1_18 (by decide) rfl ?_
    refine Go.isub 20 d1_19 rfl ?_
    refine Go.dup2 21 d1_20 rfl rfl rfl ?_
    refine Go.iaload (x := (own_at (own_inc [0, 0, 0, 0] r0) r1)) ((own_ix r1)) 22 d1_21 A125 h1.1 rfl (own_atq (by first | exact h1.2 | (simp only [own_incl]; exact h1.2))) rfl ?_
    refine Go.iconst 23 (1) d1_22 (by decide) rfl ?_
    refine Go.iadd 24 d1_23 rfl ?_
    refine Go.iastore ((own_ix r1)) ((own_inc (own_inc [0, 0, 0, 0] r0) r1)) 25 d1_24 A125 h1.1 rfl (by first | exact h1.2 | (simp only [own_incl]; exact h1.2)) rfl ge117 rfl (fun h131 W132 A133 => ?_)
    have f134 : Ari Z h131 r .int [r0, r1, r2] := f126.other W132 ne116
    have f135 : Exa Z h131 a110 "[I" := f127.wr W132
    have zs136 : Z.heap.size ≤ h131.size := W132.size ▸ zs128
    have kp137 : Keep h h131 [] := kp129.wr W132 (Or.inr fr118)
    refine Go.iinc 28 (1) #[.val (.int (4 : Int32)), .val (.ref r), .val (.int (2 : Int32)), .val (.ref a110), .val (.int (((0 : Int32) + (1 : Int32)) + (1 : Int32)))] d1_25 (by decide) rfl rfl rfl ?_
    refine Go.goto 7 d1_28 (by decide) (by decide) ?_
    refine Go.iload 9 d1_7 rfl rfl ?_
    refine Go.iload_n 10 d1_9 rfl rfl ?_
    refine Go.icmp_ge 31 13 d1_10 (by decide) (by decide) rfl (fun _ => ?_) (fun c => absurd c (by decide))
    obtain ⟨ct0, ct1, ct2, ct3, ec⟩ := own_list4 (xs := (own_inc (own_inc [0, 0, 0, 0] r0) r1)) (by simp only [own_incl]; rfl)
    rw [ec] at A133
    refine Go.new 34 d1_31 (tw20 hw) (tw21 hw) (tw18 hw) (by decide) (by decide) rfl (fun a139 h140 q141 E142 A143 D144 => ?_)
    have ne145 : r ≠ a139 := fun e => absurd f134.lt (by rw [e, q141]; exact Nat.lt_irrefl _)
    have ne146 : a110 ≠ a139 := fun e => absurd f135.lt (by rw [e, q141]; exact Nat.lt_irrefl _)
    have ge147 : Z.heap.size ≤ a139 := (Eq.symm q141) ▸ zs136
    have fr148 : h.size ≤ a139 := by rw [q141]; exact kp137.1
    have f149 : Ari Z h140 r .int [r0, r1, r2] := f134.ext E142
    have f150 : Exa Z h140 a110 "[I" := f135.ext E142
    have f151 : Ari Z h140 a110 .int [ct0, ct1, ct2, ct3] := A133.ext E142
    have zs152 : Z.heap.size ≤ h140.size := Nat.le_trans zs136 E142.1
    have kp153 : Keep h h140 [] := kp137.ext E142
    have f154 : Fld Z h140 a139 "dev/stablemate/solve/Profile" "length" "I" (.int (0 : Int32)) := D144 (Or.inr (tw29 hw)) (ty := .int) (by decide)
    have f155 : Fld Z h140 a139 "dev/stablemate/solve/Profile" "counts" "[I" (.null) := D144 (Or.inr (tw43 hw)) (ty := (.array .int)) (by decide)
    have f156 : Fld Z h140 a139 "dev/stablemate/solve/Profile" "cost" "J" (.long (0 : Int64)) := D144 (Or.inr (tw45 hw)) (ty := .long) (by decide)
    refine Go.dup 35 d1_34 rfl rfl ?_
    refine Go.iload_n 36 d1_35 rfl rfl ?_
    refine Go.aload_n 37 d1_36 rfl rfl rfl ?_
    refine Go.callC [.int (4 : Int32), .ref a110] [.ref a139] 40 d1_37 rfl (tw22 hw) (tw23 hw) (tw18 hw) (tw24 hw) pl2 (by decide) (lenOf pd2 rfl) rfl (fun m => ef_k_init_4 m a139 (4 : Int32) a110) _ (k_init_4 hw h140 zs152 a139 a110 A143 f155 f156 f154 f151 f150 ge147 (Ne.symm ne146)) 1 rfl (Nat.le_of_eq rfl) (by decide) (by decide) (by decide) (by decide) rfl ?_
    rintro h158 ⟨a160, g161, K159, f162, f163, f164, f165⟩
    have ne166 : r ≠ a160 := Nat.ne_of_lt (Nat.lt_of_lt_of_le f149.lt g161)
    have ne167 : a110 ≠ a160 := Nat.ne_of_lt (Nat.lt_of_lt_of_le f150.lt g161)
    have ne168 : a139 ≠ a160 := Nat.ne_of_lt (Nat.lt_of_lt_of_le A143.lt g161)
    have ge169 : Z.heap.size ≤ a160 := Nat.le_trans zs152 g161
    have fr170 : h.size ≤ a160 := Nat.le_trans kp153.1 g161
    have f171 : Ari Z h158 r .int [r0, r1, r2] := f149.keep K159 (ninS ne145 nin0)
    have f172 : Exa Z h158 a110 "[I" := f150.keep K159
    have f173 : Ari Z h158 a110 .int [ct0, ct1, ct2, ct3] := f151.keep K159 (ninS ne146 nin0)
    have zs174 : Z.heap.size ≤ h158.size := Nat.le_trans zs152 K159.1
    have kp175 : Keep h h158 [] := kp153.trans K159 (allS (Or.inr fr148) all0)
    refine Go.areturn d1_40 rfl rfl rfl (by decide) (by decide) ?_
    have e8 : own_cnt (2 : Int32) r0 r1 r2 = [ct0, ct1, ct2, ct3] := (own_cnt2 r0 r1 r2).trans ec
    exact ⟨a139, a160, rfl, fr148, fr170, ne168, kp175, f162, f163, (by rw [e8]; exact f165)⟩
  ·
    subst hs0
    refine Go.iload_n 1 d1_0 rfl rfl ?_
    refine Go.newIE (cap := 4) (xs := [0, 0, 0, 0]) "[I" 3 d1_1 (tw15 hw) rfl (by decide) (by decide) (by decide) (by decide) rfl (by decide) (by decide) rfl (fun a176 h177 q178 E179 A180 Ex181 => ?_)
    have ne182 : r ≠ a176 := fun e => absurd fa0.lt (by rw [e, q178]; exact Nat.lt_irrefl _)
    have ge183 : Z.heap.size ≤ a176 := (Eq.symm q178) ▸ hz
    have fr184 : h.size ≤ a176 := by rw [q178]; exact kp0.1
    have f185 : Ari Z h177 r .int [r0, r1, r2] := fa0.ext E179
    have zs186 : Z.heap.size ≤ h177.size := Nat.le_trans hz E179.1
    have kp187 : Keep h h177 [] := kp0.ext E179
    refine Go.astore_n 4 #[.val (.int (4 : Int32)), .val (.ref r), .val (.int (3 : Int32)), .val (.ref a176), .unset] d1_3 rfl rfl rfl ?_
    refine Go.iconst 5 (0) d1_4 (by decide) rfl ?_
    refine Go.istore 7 #[.val (.int (4 : Int32)), .val (.ref r), .val (.int (3 : Int32)), .val (.ref a176), .val (.int (0 : Int32))] d1_5 rfl rfl ?_
    refine Go.iload 9 d1_7 rfl rfl ?_
    refine Go.iload_n 10 d1_9 rfl rfl ?_
    refine Go.icmp_ge 31 13 d1_10 (by decide) (by decide) rfl (fun c => absurd c (by decide)) (fun _ => ?_)
    refine Go.aload_n 14 d1_13 rfl rfl rfl ?_
    refine Go.aload_n 15 d1_14 rfl rfl rfl ?_
    refine Go.iload 17 d1_15 rfl rfl ?_
    refine Go.iaload (x := r0) (0) 18 d1_17 f185 (by decide) (by decide) rfl rfl ?_
    refine Go.iconst 19 (1) d1_18 (by decide) rfl ?_
    refine Go.isub 20 d1_19 rfl ?_
    refine Go.dup2 21 d1_20 rfl rfl rfl ?_
    refine Go.iaload (x := (own_at [0, 0, 0, 0] r0)) ((own_ix r0)) 22 d1_21 A180 h0.1 rfl (own_atq (by first | exact h0.2 | (simp only [own_incl]; exact h0.2))) rfl ?_
    refine Go.iconst 23 (1) d1_22 (by decide) rfl ?_
    refine Go.iadd 24 d1_23 rfl ?_
    refine Go.iastore ((own_ix r0)) ((own_inc [0, 0, 0, 0] r0)) 25 d1_24 A180 h0.1 rfl (by first | exact h0.2 | (simp only [own_incl]; exact h0.2)) rfl ge183 rfl (fun h189 W190 A191 => ?_)
    have f192 : Ari Z h189 r .int [r0, r1, r2] := f185.other W190 ne182
    have f193 : Exa Z h189 a176 "[I" := Ex181.wr W190
    have zs194 : Z.heap.size ≤ h189.size := W190.size ▸ zs186
    have kp195 : Keep h h189 [] := kp187.wr W190 (Or.inr fr184)
    refine Go.iinc 28 (1) #[.val (.int (4 : Int32)), .val (.ref r), .val (.int (3 : Int32)), .val (.ref a176), .val (.int ((0 : Int32) + (1 : Int32)))] d1_25 (by decide) rfl rfl rfl ?_
    refine Go.goto 7 d1_28 (by decide) (by decide) ?_
    refine Go.iload 9 d1_7 rfl rfl ?_
    refine Go.iload_n 10 d1_9 rfl rfl ?_
    refine Go.icmp_ge 31 13 d1_10 (by decide) (by decide) rfl (fun c => absurd c (by decide)) (fun _ => ?_)
    refine Go.aload_n 14 d1_13 rfl rfl rfl ?_
    refine Go.aload_n 15 d1_14 rfl rfl rfl ?_
    refine Go.iload 17 d1_15 rfl rfl ?_
    refine Go.iaload (x := r1) (1) 18 d1_17 f192 (by decide) (by decide) rfl rfl ?_
    refine Go.iconst 19 (1) d1_18 (by decide) rfl ?_
    refine Go.isub 20 d1_19 rfl ?_
    refine Go.dup2 21 d1_20 rfl rfl rfl ?_
    refine Go.iaload (x := (own_at (own_inc [0, 0, 0, 0] r0) r1)) ((own_ix r1)) 22 d1_21 A191 h1.1 rfl (own_atq (by first | exact h1.2 | (simp only [own_incl]; exact h1.2))) rfl ?_
    refine Go.iconst 23 (1) d1_22 (by decide) rfl ?_
    refine Go.iadd 24 d1_23 rfl ?_
    refine Go.iastore ((own_ix r1)) ((own_inc (own_inc [0, 0, 0, 0] r0) r1)) 25 d1_24 A191 h1.1 rfl (by first | exact h1.2 | (simp only [own_incl]; exact h1.2)) rfl ge183 rfl (fun h197 W198 A199 => ?_)
    have f200 : Ari Z h197 r .int [r0, r1, r2] := f192.other W198 ne182
    have f201 : Exa Z h197 a176 "[I" := f193.wr W198
    have zs202 : Z.heap.size ≤ h197.size := W198.size ▸ zs194
    have kp203 : Keep h h197 [] := kp195.wr W198 (Or.inr fr184)
    refine Go.iinc 28 (1) #[.val (.int (4 : Int32)), .val (.ref r), .val (.int (3 : Int32)), .val (.ref a176), .val (.int (((0 : Int32) + (1 : Int32)) + (1 : Int32)))] d1_25 (by decide) rfl rfl rfl ?_
    refine Go.goto 7 d1_28 (by decide) (by decide) ?_
    refine Go.iload 9 d1_7 rfl rfl ?_
    refine Go.iload_n 10 d1_9 rfl rfl ?_
    refine Go.icmp_ge 31 13 d1_10 (by decide) (by decide) rfl (fun c => absurd c (by decide)) (fun _ => ?_)
    refine Go.aload_n 14 d1_13 rfl rfl rfl ?_
    refine Go.aload_n 15 d1_14 rfl rfl rfl ?_
    refine Go.iload 17 d1_15 rfl rfl ?_
    refine Go.iaload (x := r2) (2) 18 d1_17 f200 (by decide) (by decide) rfl rfl ?_
    refine Go.iconst 19 (1) d1_18 (by decide) rfl ?_
    refine Go.isub 20 d1_19 rfl ?_
    refine Go.dup2 21 d1_20 rfl rfl rfl ?_
    refine Go.iaload (x := (own_at (own_inc (own_inc [0, 0, 0, 0] r0) r1) r2)) ((own_ix r2)) 22 d1_21 A199 h2.1 rfl (own_atq (by first | exact h2.2 | (simp only [own_incl]; exact h2.2))) rfl ?_
    refine Go.iconst 23 (1) d1_22 (by decide) rfl ?_
    refine Go.iadd 24 d1_23 rfl ?_
    refine Go.iastore ((own_ix r2)) ((own_inc (own_inc (own_inc [0, 0, 0, 0] r0) r1) r2)) 25 d1_24 A199 h2.1 rfl (by first | exact h2.2 | (simp only [own_incl]; exact h2.2)) rfl ge183 rfl (fun h205 W206 A207 => ?_)
    have f208 : Ari Z h205 r .int [r0, r1, r2] := f200.other W206 ne182
    have f209 : Exa Z h205 a176 "[I" := f201.wr W206
    have zs210 : Z.heap.size ≤ h205.size := W206.size ▸ zs202
    have kp211 : Keep h h205 [] := kp203.wr W206 (Or.inr fr184)
    refine Go.iinc 28 (1) #[.val (.int (4 : Int32)), .val (.ref r), .val (.int (3 : Int32)), .val (.ref a176), .val (.int ((((0 : Int32) + (1 : Int32)) + (1 : Int32)) + (1 : Int32)))] d1_25 (by decide) rfl rfl rfl ?_
    refine Go.goto 7 d1_28 (by decide) (by decide) ?_
    refine Go.iload 9 d1_7 rfl rfl ?_
    refine Go.iload_n 10 d1_9 rfl rfl ?_
    refine Go.icmp_ge 31 13 d1_10 (by decide) (by decide) rfl (fun _ => ?_) (fun c => absurd c (by decide))
    obtain ⟨ct0, ct1, ct2, ct3, ec⟩ := own_list4 (xs := (own_inc (own_inc (own_inc [0, 0, 0, 0] r0) r1) r2)) (by simp only [own_incl]; rfl)
    rw [ec] at A207
    refine Go.new 34 d1_31 (tw20 hw) (tw21 hw) (tw18 hw) (by decide) (by decide) rfl (fun a213 h214 q215 E216 A217 D218 => ?_)
    have ne219 : r ≠ a213 := fun e => absurd f208.lt (by rw [e, q215]; exact Nat.lt_irrefl _)
    have ne220 : a176 ≠ a213 := fun e => absurd f209.lt (by rw [e, q215]; exact Nat.lt_irrefl _)
    have ge221 : Z.heap.size ≤ a213 := (Eq.symm q215) ▸ zs210
    have fr222 : h.size ≤ a213 := by rw [q215]; exact kp211.1
    have f223 : Ari Z h214 r .int [r0, r1, r2] := f208.ext E216
    have f224 : Exa Z h214 a176 "[I" := f209.ext E216
    have f225 : Ari Z h214 a176 .int [ct0, ct1, ct2, ct3] := A207.ext E216
    have zs226 : Z.heap.size ≤ h214.size := Nat.le_trans zs210 E216.1
    have kp227 : Keep h h214 [] := kp211.ext E216
    have f228 : Fld Z h214 a213 "dev/stablemate/solve/Profile" "length" "I" (.int (0 : Int32)) := D218 (Or.inr (tw29 hw)) (ty := .int) (by decide)
    have f229 : Fld Z h214 a213 "dev/stablemate/solve/Profile" "counts" "[I" (.null) := D218 (Or.inr (tw43 hw)) (ty := (.array .int)) (by decide)
    have f230 : Fld Z h214 a213 "dev/stablemate/solve/Profile" "cost" "J" (.long (0 : Int64)) := D218 (Or.inr (tw45 hw)) (ty := .long) (by decide)
    refine Go.dup 35 d1_34 rfl rfl ?_
    refine Go.iload_n 36 d1_35 rfl rfl ?_
    refine Go.aload_n 37 d1_36 rfl rfl rfl ?_
    refine Go.callC [.int (4 : Int32), .ref a176] [.ref a213] 40 d1_37 rfl (tw22 hw) (tw23 hw) (tw18 hw) (tw24 hw) pl2 (by decide) (lenOf pd2 rfl) rfl (fun m => ef_k_init_4 m a213 (4 : Int32) a176) _ (k_init_4 hw h214 zs226 a213 a176 A217 f229 f230 f228 f225 f224 ge221 (Ne.symm ne220)) 1 rfl (Nat.le_of_eq rfl) (by decide) (by decide) (by decide) (by decide) rfl ?_
    rintro h232 ⟨a234, g235, K233, f236, f237, f238, f239⟩
    have ne240 : r ≠ a234 := Nat.ne_of_lt (Nat.lt_of_lt_of_le f223.lt g235)
    have ne241 : a176 ≠ a234 := Nat.ne_of_lt (Nat.lt_of_lt_of_le f224.lt g235)
    have ne242 : a213 ≠ a234 := Nat.ne_of_lt (Nat.lt_of_lt_of_le A217.lt g235)
    have ge243 : Z.heap.size ≤ a234 := Nat.le_trans zs226 g235
    have fr244 : h.size ≤ a234 := Nat.le_trans kp227.1 g235
    have f245 : Ari Z h232 r .int [r0, r1, r2] := f223.keep K233 (ninS ne219 nin0)
    have f246 : Exa Z h232 a176 "[I" := f224.keep K233
    have f247 : Ari Z h232 a176 .int [ct0, ct1, ct2, ct3] := f225.keep K233 (ninS ne220 nin0)
    have zs248 : Z.heap.size ≤ h232.size := Nat.le_trans zs226 K233.1
    have kp249 : Keep h h232 [] := kp227.trans K233 (allS (Or.inr fr222) all0)
    refine Go.areturn d1_40 rfl rfl rfl (by decide) (by decide) ?_
    have e8 : own_cnt (3 : Int32) r0 r1 r2 = [ct0, ct1, ct2, ct3] := (own_cnt3 r0 r1 r2).trans ec
    exact ⟨a213, a234, rfl, fr222, fr244, ne242, kp249, f236, f237, (by rw [e8]; exact f239)⟩

theorem d8_0 : decode prog_26_method_8_code 0 = .ok (.aload_n 0, 1) := by decide +kernel
theorem d8_1 : decode prog_26_method_8_code 1 = .ok (.getfield 19, 3) := by decide +kernel
theorem d8_4 : decode prog_26_method_8_code 4 = .ok (.arraylength, 1) := by decide +kernel
theorem d8_5 : decode prog_26_method_8_code 5 = .ok (.ireturn, 1) := by decide +kernel

theorem pd8 : parseMethodDescriptor "()I" = some ⟨[], some .int⟩ := by decide +kernel
theorem pl8 : plainFor (⟨"dev/stablemate/solve/Profile", "regret", "()I"⟩ : MethodName) = true := by first | exact plainFor_of_name (by first | (simp [plainName, overriddenIn]; done) | decide +kernel) | decide +kernel

theorem ef_k_reg_2 (m : MethodId) (x0 : Addr) : entryFrame m #[(.ref x0)] 1 = mkF m 0 #[.val (.ref x0)] [] := by first | (simp [entryFrame, mkF, argsToLocals, Value.category]; done) | rfl

set_option maxRecDepth 65536 in
set_option maxHeartbeats 40000000 in
theorem k_reg_2 {l : Launch} {Z : State} {a0 : Array Value} (hw : ∀ d ∈ tables_1, d.before a0 Z = true) {am : Addr} {ct0 : Int32} {ct1 : Int32} (h : Heap) (hz : Z.heap.size ≤ h.size) (a : Addr) (fa0 : Fld Z h a "dev/stablemate/solve/Profile" "counts" "[I" (.ref am)) (fa1 : Ari Z h am .int [ct0, ct1])    : Go l Z (⟨"dev/stablemate/solve/Profile", "regret", "()I"⟩ : MethodName) prog_26_method_8_code 1 (Option.some Jvm.ClassFile.FieldType.int) ({ frames := 0, cells := 0, slots := 0, locals := 0 } : Room) (QI fun rz h' => rz = (2 : Int32) ∧ h' = h) 0 0 h 0 #[.val (.ref a)] [] := by
  refine Go.aload_n 1 d8_0 rfl rfl rfl ?_
  refine Go.getfield 4 d8_1 (tw42 hw) fa0 rfl ?_
  refine Go.arraylength (z := (2 : Int32)) 5 d8_4 fa1 (by decide : Nat.toInt32 2 = (2 : Int32)) rfl ?_
  refine Go.ireturn d8_5 rfl (by decide) (by decide) ?_
  exact ⟨rfl, rfl⟩

theorem ef_k_reg_3 (m : MethodId) (x0 : Addr) : entryFrame m #[(.ref x0)] 1 = mkF m 0 #[.val (.ref x0)] [] := by first | (simp [entryFrame, mkF, argsToLocals, Value.category]; done) | rfl

set_option maxRecDepth 65536 in
set_option maxHeartbeats 40000000 in
theorem k_reg_3 {l : Launch} {Z : State} {a0 : Array Value} (hw : ∀ d ∈ tables_1, d.before a0 Z = true) {am : Addr} {ct0 : Int32} {ct1 : Int32} {ct2 : Int32} (h : Heap) (hz : Z.heap.size ≤ h.size) (a : Addr) (fa0 : Fld Z h a "dev/stablemate/solve/Profile" "counts" "[I" (.ref am)) (fa1 : Ari Z h am .int [ct0, ct1, ct2])    : Go l Z (⟨"dev/stablemate/solve/Profile", "regret", "()I"⟩ : MethodName) prog_26_method_8_code 1 (Option.some Jvm.ClassFile.FieldType.int) ({ frames := 0, cells := 0, slots := 0, locals := 0 } : Room) (QI fun rz h' => rz = (3 : Int32) ∧ h' = h) 0 0 h 0 #[.val (.ref a)] [] := by
  refine Go.aload_n 1 d8_0 rfl rfl rfl ?_
  refine Go.getfield 4 d8_1 (tw42 hw) fa0 rfl ?_
  refine Go.arraylength (z := (3 : Int32)) 5 d8_4 fa1 (by decide : Nat.toInt32 3 = (3 : Int32)) rfl ?_
  refine Go.ireturn d8_5 rfl (by decide) (by decide) ?_
  exact ⟨rfl, rfl⟩

theorem ef_k_reg (m : MethodId) (x0 : Addr) : entryFrame m #[(.ref x0)] 1 = mkF m 0 #[.val (.ref x0)] [] := by first | (simp [entryFrame, mkF, argsToLocals, Value.category]; done) | rfl

set_option maxRecDepth 65536 in
set_option maxHeartbeats 40000000 in
theorem k_reg {l : Launch} {Z : State} {a0 : Array Value} (hw : ∀ d ∈ tables_1, d.before a0 Z = true) {am : Addr} {xs : List Int32} (h : Heap) (hz : Z.heap.size ≤ h.size) (a : Addr) (fa0 : Fld Z h a "dev/stablemate/solve/Profile" "counts" "[I" (.ref am)) (fa1 : Ari Z h am .int xs)    : Go l Z (⟨"dev/stablemate/solve/Profile", "regret", "()I"⟩ : MethodName) prog_26_method_8_code 1 (Option.some Jvm.ClassFile.FieldType.int) ({ frames := 0, cells := 0, slots := 0, locals := 0 } : Room) (QI fun rz h' => rz = ((List.length xs).toInt32) ∧ h' = h) 0 0 h 0 #[.val (.ref a)] [] := by
  refine Go.aload_n 1 d8_0 rfl rfl rfl ?_
  refine Go.getfield 4 d8_1 (tw42 hw) fa0 rfl ?_
  refine Go.arraylength (z := (List.length xs).toInt32) 5 d8_4 fa1 rfl rfl ?_
  refine Go.ireturn d8_5 rfl (by decide) (by decide) ?_
  exact ⟨rfl, rfl⟩

theorem d11_0 : decode prog_26_method_7_code 0 = .ok (.aload_n 0, 1) := by decide +kernel
theorem d11_1 : decode prog_26_method_7_code 1 = .ok (.getfield 23, 3) := by decide +kernel
theorem d11_4 : decode prog_26_method_7_code 4 = .ok (.lreturn, 1) := by decide +kernel

theorem pd11 : parseMethodDescriptor "()J" = some ⟨[], some .long⟩ := by decide +kernel
theorem pl11 : plainFor (⟨"dev/stablemate/solve/Profile", "cost", "()J"⟩ : MethodName) = true := by first | exact plainFor_of_name (by first | (simp [plainName, overriddenIn]; done) | decide +kernel) | decide +kernel

theorem ef_k_cost (m : MethodId) (x0 : Addr) : entryFrame m #[(.ref x0)] 1 = mkF m 0 #[.val (.ref x0)] [] := by first | (simp [entryFrame, mkF, argsToLocals, Value.category]; done) | rfl

set_option maxRecDepth 65536 in
set_option maxHeartbeats 40000000 in
theorem k_cost {l : Launch} {Z : State} {a0 : Array Value} (hw : ∀ d ∈ tables_1, d.before a0 Z = true) {v : Int64} (h : Heap) (hz : Z.heap.size ≤ h.size) (a : Addr) (fa0 : Fld Z h a "dev/stablemate/solve/Profile" "cost" "J" (.long v))    : Go l Z (⟨"dev/stablemate/solve/Profile", "cost", "()J"⟩ : MethodName) prog_26_method_7_code 1 (Option.some Jvm.ClassFile.FieldType.long) ({ frames := 0, cells := 0, slots := 0, locals := 0 } : Room) (QJ fun rz h' => rz = v ∧ h' = h) 0 0 h 0 #[.val (.ref a)] [] := by
  refine Go.aload_n 1 d11_0 rfl rfl rfl ?_
  refine Go.getfield 4 d11_1 (tw44 hw) fa0 rfl ?_
  refine Go.lreturn d11_4 rfl (by decide) (by decide) ?_
  exact ⟨rfl, rfl⟩

theorem d10_0 : decode jdk_37_method_2_code 0 = .ok (.aload_n 0, 1) := by decide +kernel
theorem d10_1 : decode jdk_37_method_2_code 1 = .ok (.getfield 7, 3) := by decide +kernel
theorem d10_4 : decode jdk_37_method_2_code 4 = .ok (.ireturn, 1) := by decide +kernel

theorem pd10 : parseMethodDescriptor "()I" = some ⟨[], some .int⟩ := by decide +kernel
theorem pl10 : plainFor (⟨"java/lang/Enum", "ordinal", "()I"⟩ : MethodName) = true := by first | exact plainFor_of_name (by first | (simp [plainName, overriddenIn]; done) | decide +kernel) | decide +kernel

theorem ef_k_ord (m : MethodId) (x0 : Addr) : entryFrame m #[(.ref x0)] 1 = mkF m 0 #[.val (.ref x0)] [] := by first | (simp [entryFrame, mkF, argsToLocals, Value.category]; done) | rfl

set_option maxRecDepth 65536 in
set_option maxHeartbeats 40000000 in
theorem k_ord {l : Launch} {Z : State} {a0 : Array Value} (hw : ∀ d ∈ tables_1, d.before a0 Z = true) {n : Int32} (h : Heap) (hz : Z.heap.size ≤ h.size) (a : Addr) (fa0 : Fld Z h a "java/lang/Enum" "ordinal" "I" (.int n))    : Go l Z (⟨"java/lang/Enum", "ordinal", "()I"⟩ : MethodName) jdk_37_method_2_code 1 (Option.some Jvm.ClassFile.FieldType.int) ({ frames := 0, cells := 0, slots := 0, locals := 0 } : Room) (QI fun rz h' => rz = n ∧ h' = h) 0 0 h 0 #[.val (.ref a)] [] := by
  refine Go.aload_n 1 d10_0 rfl rfl rfl ?_
  refine Go.getfield 4 d10_1 (tw82 hw) fa0 rfl ?_
  refine Go.ireturn d10_4 rfl (by decide) (by decide) ?_
  exact ⟨rfl, rfl⟩

theorem d14_0 : decode prog_26_method_6_code 0 = .ok (.iload_n 1, 1) := by decide +kernel
theorem d14_1 : decode prog_26_method_6_code 1 = .ok (.iconst 1, 1) := by decide +kernel
theorem d14_2 : decode prog_26_method_6_code 2 = .ok (.if_icmp .lt 23, 3) := by decide +kernel
theorem d14_5 : decode prog_26_method_6_code 5 = .ok (.iload_n 1, 1) := by decide +kernel
theorem d14_6 : decode prog_26_method_6_code 6 = .ok (.aload_n 0, 1) := by decide +kernel
theorem d14_7 : decode prog_26_method_6_code 7 = .ok (.getfield 19, 3) := by decide +kernel
theorem d14_10 : decode prog_26_method_6_code 10 = .ok (.arraylength, 1) := by decide +kernel
theorem d14_11 : decode prog_26_method_6_code 11 = .ok (.if_icmp .gt 14, 3) := by decide +kernel
theorem d14_14 : decode prog_26_method_6_code 14 = .ok (.aload_n 0, 1) := by decide +kernel
theorem d14_15 : decode prog_26_method_6_code 15 = .ok (.getfield 19, 3) := by decide +kernel
theorem d14_18 : decode prog_26_method_6_code 18 = .ok (.iload_n 1, 1) := by decide +kernel
theorem d14_19 : decode prog_26_method_6_code 19 = .ok (.iconst 1, 1) := by decide +kernel
theorem d14_20 : decode prog_26_method_6_code 20 = .ok (.isub, 1) := by decide +kernel
theorem d14_21 : decode prog_26_method_6_code 21 = .ok (.iaload, 1) := by decide +kernel
theorem d14_22 : decode prog_26_method_6_code 22 = .ok (.goto 4, 3) := by decide +kernel
theorem d14_25 : decode prog_26_method_6_code 25 = .ok (.iconst 0, 1) := by decide +kernel
theorem d14_26 : decode prog_26_method_6_code 26 = .ok (.ireturn, 1) := by decide +kernel

theorem pd14 : parseMethodDescriptor "(I)I" = some ⟨[.int], some .int⟩ := by decide +kernel
theorem pl14 : plainFor (⟨"dev/stablemate/solve/Profile", "count", "(I)I"⟩ : MethodName) = true := by first | exact plainFor_of_name (by first | (simp [plainName, overriddenIn]; done) | decide +kernel) | decide +kernel

theorem ef_k_cnt_2_1 (m : MethodId) (x0 : Addr) (x1 : Int32) : entryFrame m #[(.ref x0), (.int x1)] 2 = mkF m 0 #[.val (.ref x0), .val (.int x1)] [] := by first | (simp [entryFrame, mkF, argsToLocals, Value.category]; done) | rfl

set_option maxRecDepth 65536 in
set_option maxHeartbeats 40000000 in
theorem k_cnt_2_1 {l : Launch} {Z : State} {a0 : Array Value} (hw : ∀ d ∈ tables_1, d.before a0 Z = true) {am : Addr} {ct0 : Int32} {ct1 : Int32} (h : Heap) (hz : Z.heap.size ≤ h.size) (a : Addr) (fa0 : Fld Z h a "dev/stablemate/solve/Profile" "counts" "[I" (.ref am)) (fa1 : Ari Z h am .int [ct0, ct1])    : Go l Z (⟨"dev/stablemate/solve/Profile", "count", "(I)I"⟩ : MethodName) prog_26_method_6_code 2 (Option.some Jvm.ClassFile.FieldType.int) ({ frames := 0, cells := 0, slots := 0, locals := 0 } : Room) (QI fun rz h' => rz = ct0 ∧ h' = h) 0 0 h 0 #[.val (.ref a), .val (.int (1 : Int32))] [] := by
  refine Go.iload_n 1 d14_0 rfl rfl ?_
  refine Go.iconst 2 (1) d14_1 (by decide) rfl ?_
  refine Go.icmp_lt 25 5 d14_2 (by decide) (by decide) rfl (fun c => absurd c (by decide)) (fun _ => ?_)
  refine Go.iload_n 6 d14_5 rfl rfl ?_
  refine Go.aload_n 7 d14_6 rfl rfl rfl ?_
  refine Go.getfield 10 d14_7 (tw42 hw) fa0 rfl ?_
  refine Go.arraylength (z := (2 : Int32)) 11 d14_10 fa1 (by decide : Nat.toInt32 2 = (2 : Int32)) rfl ?_
  refine Go.icmp_gt 25 14 d14_11 (by decide) (by decide) rfl (fun c => absurd c (by decide)) (fun _ => ?_)
  refine Go.aload_n 15 d14_14 rfl rfl rfl ?_
  refine Go.getfield 18 d14_15 (tw42 hw) fa0 rfl ?_
  refine Go.iload_n 19 d14_18 rfl rfl ?_
  refine Go.iconst 20 (1) d14_19 (by decide) rfl ?_
  refine Go.isub 21 d14_20 rfl ?_
  refine Go.iaload (x := ct0) (0) 22 d14_21 fa1 (by decide) (by decide) rfl rfl ?_
  refine Go.goto 26 d14_22 (by decide) (by decide) ?_
  refine Go.ireturn d14_26 rfl (by decide) (by decide) ?_
  exact ⟨by first | rfl | decide, rfl⟩

theorem ef_k_cnt_2_2 (m : MethodId) (x0 : Addr) (x1 : Int32) : entryFrame m #[(.ref x0), (.int x1)] 2 = mkF m 0 #[.val (.ref x0), .val (.int x1)] [] := by first | (simp [entryFrame, mkF, argsToLocals, Value.category]; done) | rfl

set_option maxRecDepth 65536 in
set_option maxHeartbeats 40000000 in
theorem k_cnt_2_2 {l : Launch} {Z : State} {a0 : Array Value} (hw : ∀ d ∈ tables_1, d.before a0 Z = true) {am : Addr} {ct0 : Int32} {ct1 : Int32} (h : Heap) (hz : Z.heap.size ≤ h.size) (a : Addr) (fa0 : Fld Z h a "dev/stablemate/solve/Profile" "counts" "[I" (.ref am)) (fa1 : Ari Z h am .int [ct0, ct1])    : Go l Z (⟨"dev/stablemate/solve/Profile", "count", "(I)I"⟩ : MethodName) prog_26_method_6_code 2 (Option.some Jvm.ClassFile.FieldType.int) ({ frames := 0, cells := 0, slots := 0, locals := 0 } : Room) (QI fun rz h' => rz = ct1 ∧ h' = h) 0 0 h 0 #[.val (.ref a), .val (.int (2 : Int32))] [] := by
  refine Go.iload_n 1 d14_0 rfl rfl ?_
  refine Go.iconst 2 (1) d14_1 (by decide) rfl ?_
  refine Go.icmp_lt 25 5 d14_2 (by decide) (by decide) rfl (fun c => absurd c (by decide)) (fun _ => ?_)
  refine Go.iload_n 6 d14_5 rfl rfl ?_
  refine Go.aload_n 7 d14_6 rfl rfl rfl ?_
  refine Go.getfield 10 d14_7 (tw42 hw) fa0 rfl ?_
  refine Go.arraylength (z := (2 : Int32)) 11 d14_10 fa1 (by decide : Nat.toInt32 2 = (2 : Int32)) rfl ?_
  refine Go.icmp_gt 25 14 d14_11 (by decide) (by decide) rfl (fun c => absurd c (by decide)) (fun _ => ?_)
  refine Go.aload_n 15 d14_14 rfl rfl rfl ?_
  refine Go.getfield 18 d14_15 (tw42 hw) fa0 rfl ?_
  refine Go.iload_n 19 d14_18 rfl rfl ?_
  refine Go.iconst 20 (1) d14_19 (by decide) rfl ?_
  refine Go.isub 21 d14_20 rfl ?_
  refine Go.iaload (x := ct1) (1) 22 d14_21 fa1 (by decide) (by decide) rfl rfl ?_
  refine Go.goto 26 d14_22 (by decide) (by decide) ?_
  refine Go.ireturn d14_26 rfl (by decide) (by decide) ?_
  exact ⟨by first | rfl | decide, rfl⟩

theorem ef_k_cnt_2_3 (m : MethodId) (x0 : Addr) (x1 : Int32) : entryFrame m #[(.ref x0), (.int x1)] 2 = mkF m 0 #[.val (.ref x0), .val (.int x1)] [] := by first | (simp [entryFrame, mkF, argsToLocals, Value.category]; done) | rfl

set_option maxRecDepth 65536 in
set_option maxHeartbeats 40000000 in
theorem k_cnt_2_3 {l : Launch} {Z : State} {a0 : Array Value} (hw : ∀ d ∈ tables_1, d.before a0 Z = true) {am : Addr} {ct0 : Int32} {ct1 : Int32} (h : Heap) (hz : Z.heap.size ≤ h.size) (a : Addr) (fa0 : Fld Z h a "dev/stablemate/solve/Profile" "counts" "[I" (.ref am)) (fa1 : Ari Z h am .int [ct0, ct1])    : Go l Z (⟨"dev/stablemate/solve/Profile", "count", "(I)I"⟩ : MethodName) prog_26_method_6_code 2 (Option.some Jvm.ClassFile.FieldType.int) ({ frames := 0, cells := 0, slots := 0, locals := 0 } : Room) (QI fun rz h' => rz = (0 : Int32) ∧ h' = h) 0 0 h 0 #[.val (.ref a), .val (.int (3 : Int32))] [] := by
  refine Go.iload_n 1 d14_0 rfl rfl ?_
  refine Go.iconst 2 (1) d14_1 (by decide) rfl ?_
  refine Go.icmp_lt 25 5 d14_2 (by decide) (by decide) rfl (fun c => absurd c (by decide)) (fun _ => ?_)
  refine Go.iload_n 6 d14_5 rfl rfl ?_
  refine Go.aload_n 7 d14_6 rfl rfl rfl ?_
  refine Go.getfield 10 d14_7 (tw42 hw) fa0 rfl ?_
  refine Go.arraylength (z := (2 : Int32)) 11 d14_10 fa1 (by decide : Nat.toInt32 2 = (2 : Int32)) rfl ?_
  refine Go.icmp_gt 25 14 d14_11 (by decide) (by decide) rfl (fun _ => ?_) (fun c => absurd c (by decide))
  refine Go.iconst 26 (0) d14_25 (by decide) rfl ?_
  refine Go.ireturn d14_26 rfl (by decide) (by decide) ?_
  exact ⟨by first | rfl | decide, rfl⟩

theorem ef_k_cnt_3_1 (m : MethodId) (x0 : Addr) (x1 : Int32) : entryFrame m #[(.ref x0), (.int x1)] 2 = mkF m 0 #[.val (.ref x0), .val (.int x1)] [] := by first | (simp [entryFrame, mkF, argsToLocals, Value.category]; done) | rfl

set_option maxRecDepth 65536 in
set_option maxHeartbeats 40000000 in
theorem k_cnt_3_1 {l : Launch} {Z : State} {a0 : Array Value} (hw : ∀ d ∈ tables_1, d.before a0 Z = true) {am : Addr} {ct0 : Int32} {ct1 : Int32} {ct2 : Int32} (h : Heap) (hz : Z.heap.size ≤ h.size) (a : Addr) (fa0 : Fld Z h a "dev/stablemate/solve/Profile" "counts" "[I" (.ref am)) (fa1 : Ari Z h am .int [ct0, ct1, ct2])    : Go l Z (⟨"dev/stablemate/solve/Profile", "count", "(I)I"⟩ : MethodName) prog_26_method_6_code 2 (Option.some Jvm.ClassFile.FieldType.int) ({ frames := 0, cells := 0, slots := 0, locals := 0 } : Room) (QI fun rz h' => rz = ct0 ∧ h' = h) 0 0 h 0 #[.val (.ref a), .val (.int (1 : Int32))] [] := by
  refine Go.iload_n 1 d14_0 rfl rfl ?_
  refine Go.iconst 2 (1) d14_1 (by decide) rfl ?_
  refine Go.icmp_lt 25 5 d14_2 (by decide) (by decide) rfl (fun c => absurd c (by decide)) (fun _ => ?_)
  refine Go.iload_n 6 d14_5 rfl rfl ?_
  refine Go.aload_n 7 d14_6 rfl rfl rfl ?_
  refine Go.getfield 10 d14_7 (tw42 hw) fa0 rfl ?_
  refine Go.arraylength (z := (3 : Int32)) 11 d14_10 fa1 (by decide : Nat.toInt32 3 = (3 : Int32)) rfl ?_
  refine Go.icmp_gt 25 14 d14_11 (by decide) (by decide) rfl (fun c => absurd c (by decide)) (fun _ => ?_)
  refine Go.aload_n 15 d14_14 rfl rfl rfl ?_
  refine Go.getfield 18 d14_15 (tw42 hw) fa0 rfl ?_
  refine Go.iload_n 19 d14_18 rfl rfl ?_
  refine Go.iconst 20 (1) d14_19 (by decide) rfl ?_
  refine Go.isub 21 d14_20 rfl ?_
  refine Go.iaload (x := ct0) (0) 22 d14_21 fa1 (by decide) (by decide) rfl rfl ?_
  refine Go.goto 26 d14_22 (by decide) (by decide) ?_
  refine Go.ireturn d14_26 rfl (by decide) (by decide) ?_
  exact ⟨by first | rfl | decide, rfl⟩

theorem ef_k_cnt_3_2 (m : MethodId) (x0 : Addr) (x1 : Int32) : entryFrame m #[(.ref x0), (.int x1)] 2 = mkF m 0 #[.val (.ref x0), .val (.int x1)] [] := by first | (simp [entryFrame, mkF, argsToLocals, Value.category]; done) | rfl

set_option maxRecDepth 65536 in
set_option maxHeartbeats 40000000 in
theorem k_cnt_3_2 {l : Launch} {Z : State} {a0 : Array Value} (hw : ∀ d ∈ tables_1, d.before a0 Z = true) {am : Addr} {ct0 : Int32} {ct1 : Int32} {ct2 : Int32} (h : Heap) (hz : Z.heap.size ≤ h.size) (a : Addr) (fa0 : Fld Z h a "dev/stablemate/solve/Profile" "counts" "[I" (.ref am)) (fa1 : Ari Z h am .int [ct0, ct1, ct2])    : Go l Z (⟨"dev/stablemate/solve/Profile", "count", "(I)I"⟩ : MethodName) prog_26_method_6_code 2 (Option.some Jvm.ClassFile.FieldType.int) ({ frames := 0, cells := 0, slots := 0, locals := 0 } : Room) (QI fun rz h' => rz = ct1 ∧ h' = h) 0 0 h 0 #[.val (.ref a), .val (.int (2 : Int32))] [] := by
  refine Go.iload_n 1 d14_0 rfl rfl ?_
  refine Go.iconst 2 (1) d14_1 (by decide) rfl ?_
  refine Go.icmp_lt 25 5 d14_2 (by decide) (by decide) rfl (fun c => absurd c (by decide)) (fun _ => ?_)
  refine Go.iload_n 6 d14_5 rfl rfl ?_
  refine Go.aload_n 7 d14_6 rfl rfl rfl ?_
  refine Go.getfield 10 d14_7 (tw42 hw) fa0 rfl ?_
  refine Go.arraylength (z := (3 : Int32)) 11 d14_10 fa1 (by decide : Nat.toInt32 3 = (3 : Int32)) rfl ?_
  refine Go.icmp_gt 25 14 d14_11 (by decide) (by decide) rfl (fun c => absurd c (by decide)) (fun _ => ?_)
  refine Go.aload_n 15 d14_14 rfl rfl rfl ?_
  refine Go.getfield 18 d14_15 (tw42 hw) fa0 rfl ?_
  refine Go.iload_n 19 d14_18 rfl rfl ?_
  refine Go.iconst 20 (1) d14_19 (by decide) rfl ?_
  refine Go.isub 21 d14_20 rfl ?_
  refine Go.iaload (x := ct1) (1) 22 d14_21 fa1 (by decide) (by decide) rfl rfl ?_
  refine Go.goto 26 d14_22 (by decide) (by decide) ?_
  refine Go.ireturn d14_26 rfl (by decide) (by decide) ?_
  exact ⟨by first | rfl | decide, rfl⟩

theorem ef_k_cnt_3_3 (m : MethodId) (x0 : Addr) (x1 : Int32) : entryFrame m #[(.ref x0), (.int x1)] 2 = mkF m 0 #[.val (.ref x0), .val (.int x1)] [] := by first | (simp [entryFrame, mkF, argsToLocals, Value.category]; done) | rfl

set_option maxRecDepth 65536 in
set_option maxHeartbeats 40000000 in
theorem k_cnt_3_3 {l : Launch} {Z : State} {a0 : Array Value} (hw : ∀ d ∈ tables_1, d.before a0 Z = true) {am : Addr} {ct0 : Int32} {ct1 : Int32} {ct2 : Int32} (h : Heap) (hz : Z.heap.size ≤ h.size) (a : Addr) (fa0 : Fld Z h a "dev/stablemate/solve/Profile" "counts" "[I" (.ref am)) (fa1 : Ari Z h am .int [ct0, ct1, ct2])    : Go l Z (⟨"dev/stablemate/solve/Profile", "count", "(I)I"⟩ : MethodName) prog_26_method_6_code 2 (Option.some Jvm.ClassFile.FieldType.int) ({ frames := 0, cells := 0, slots := 0, locals := 0 } : Room) (QI fun rz h' => rz = ct2 ∧ h' = h) 0 0 h 0 #[.val (.ref a), .val (.int (3 : Int32))] [] := by
  refine Go.iload_n 1 d14_0 rfl rfl ?_
  refine Go.iconst 2 (1) d14_1 (by decide) rfl ?_
  refine Go.icmp_lt 25 5 d14_2 (by decide) (by decide) rfl (fun c => absurd c (by decide)) (fun _ => ?_)
  refine Go.iload_n 6 d14_5 rfl rfl ?_
  refine Go.aload_n 7 d14_6 rfl rfl rfl ?_
  refine Go.getfield 10 d14_7 (tw42 hw) fa0 rfl ?_
  refine Go.arraylength (z := (3 : Int32)) 11 d14_10 fa1 (by decide : Nat.toInt32 3 = (3 : Int32)) rfl ?_
  refine Go.icmp_gt 25 14 d14_11 (by decide) (by decide) rfl (fun c => absurd c (by decide)) (fun _ => ?_)
  refine Go.aload_n 15 d14_14 rfl rfl rfl ?_
  refine Go.getfield 18 d14_15 (tw42 hw) fa0 rfl ?_
  refine Go.iload_n 19 d14_18 rfl rfl ?_
  refine Go.iconst 20 (1) d14_19 (by decide) rfl ?_
  refine Go.isub 21 d14_20 rfl ?_
  refine Go.iaload (x := ct2) (2) 22 d14_21 fa1 (by decide) (by decide) rfl rfl ?_
  refine Go.goto 26 d14_22 (by decide) (by decide) ?_
  refine Go.ireturn d14_26 rfl (by decide) (by decide) ?_
  exact ⟨by first | rfl | decide, rfl⟩

theorem ef_k_cntz (m : MethodId) (x0 : Addr) (x1 : Int32) : entryFrame m #[(.ref x0), (.int x1)] 2 = mkF m 0 #[.val (.ref x0), .val (.int x1)] [] := by first | (simp [entryFrame, mkF, argsToLocals, Value.category]; done) | rfl

set_option maxRecDepth 65536 in
set_option maxHeartbeats 40000000 in
theorem k_cntz {l : Launch} {Z : State} {a0 : Array Value} (hw : ∀ d ∈ tables_1, d.before a0 Z = true) {am : Addr} {xs : List Int32} (h : Heap) (hz : Z.heap.size ≤ h.size) (a : Addr) (r : Int32) (fa0 : Fld Z h a "dev/stablemate/solve/Profile" "counts" "[I" (.ref am)) (fa1 : Ari Z h am .int xs) (h1 : ¬ r < 1) (h2 : (List.length xs).toInt32 < r)   : Go l Z (⟨"dev/stablemate/solve/Profile", "count", "(I)I"⟩ : MethodName) prog_26_method_6_code 2 (Option.some Jvm.ClassFile.FieldType.int) ({ frames := 0, cells := 0, slots := 0, locals := 0 } : Room) (QI fun rz h' => rz = (0 : Int32) ∧ h' = h) 0 0 h 0 #[.val (.ref a), .val (.int r)] [] := by
  refine Go.iload_n 1 d14_0 rfl rfl ?_
  refine Go.iconst 2 (1) d14_1 (by decide) rfl ?_
  refine Go.icmp_lt 25 5 d14_2 (by decide) (by decide) rfl (fun c1 => ?_) (fun c1 => ?_)
  ·
    refine Go.iconst 26 (0) d14_25 (by decide) rfl ?_
    refine Go.ireturn d14_26 rfl (by decide) (by decide) ?_
    exact ⟨rfl, rfl⟩
  ·
    refine Go.iload_n 6 d14_5 rfl rfl ?_
    refine Go.aload_n 7 d14_6 rfl rfl rfl ?_
    refine Go.getfield 10 d14_7 (tw42 hw) fa0 rfl ?_
    refine Go.arraylength (z := (List.length xs).toInt32) 11 d14_10 fa1 rfl rfl ?_
    refine Go.icmp_gt 25 14 d14_11 (by decide) (by decide) rfl (fun c2 => ?_) (fun c2 => ?_)
    ·
      refine Go.iconst 26 (0) d14_25 (by decide) rfl ?_
      refine Go.ireturn d14_26 rfl (by decide) (by decide) ?_
      exact ⟨rfl, rfl⟩
    ·
      exact absurd h2 c2

theorem ef_k_cntl (m : MethodId) (x0 : Addr) (x1 : Int32) : entryFrame m #[(.ref x0), (.int x1)] 2 = mkF m 0 #[.val (.ref x0), .val (.int x1)] [] := by first | (simp [entryFrame, mkF, argsToLocals, Value.category]; done) | rfl

set_option maxRecDepth 65536 in
set_option maxHeartbeats 40000000 in
theorem k_cntl {l : Launch} {Z : State} {a0 : Array Value} (hw : ∀ d ∈ tables_1, d.before a0 Z = true) {am : Addr} {xs : List Int32} (h : Heap) (hz : Z.heap.size ≤ h.size) (a : Addr) (r : Int32) (fa0 : Fld Z h a "dev/stablemate/solve/Profile" "counts" "[I" (.ref am)) (fa1 : Ari Z h am .int xs) (h1 : ¬ r < 1) (h2 : r = (List.length xs).toInt32) (hl : 1 ≤ xs.length ∧ xs.length ≤ 4)   : Go l Z (⟨"dev/stablemate/solve/Profile", "count", "(I)I"⟩ : MethodName) prog_26_method_6_code 2 (Option.some Jvm.ClassFile.FieldType.int) ({ frames := 0, cells := 0, slots := 0, locals := 0 } : Room) (QI fun rz h' => rz = (own_last xs) ∧ h' = h) 0 0 h 0 #[.val (.ref a), .val (.int r)] [] := by
  refine Go.iload_n 1 d14_0 rfl rfl ?_
  refine Go.iconst 2 (1) d14_1 (by decide) rfl ?_
  refine Go.icmp_lt 25 5 d14_2 (by decide) (by decide) rfl (fun c1 => ?_) (fun c1 => ?_)
  ·
    refine Go.iconst 26 (0) d14_25 (by decide) rfl ?_
    refine Go.ireturn d14_26 rfl (by decide) (by decide) ?_
    exact absurd c1 (by first | exact h1 | (rw [h2]; exact own_irr))
  ·
    refine Go.iload_n 6 d14_5 rfl rfl ?_
    refine Go.aload_n 7 d14_6 rfl rfl rfl ?_
    refine Go.getfield 10 d14_7 (tw42 hw) fa0 rfl ?_
    refine Go.arraylength (z := (List.length xs).toInt32) 11 d14_10 fa1 rfl rfl ?_
    refine Go.icmp_gt 25 14 d14_11 (by decide) (by decide) rfl (fun c2 => ?_) (fun c2 => ?_)
    ·
      refine Go.iconst 26 (0) d14_25 (by decide) rfl ?_
      refine Go.ireturn d14_26 rfl (by decide) (by decide) ?_
      exact absurd c2 (by first | exact h1 | (rw [h2]; exact own_irr))
    ·
      refine Go.aload_n 15 d14_14 rfl rfl rfl ?_
      refine Go.getfield 18 d14_15 (tw42 hw) fa0 rfl ?_
      refine Go.iload_n 19 d14_18 rfl rfl ?_
      refine Go.iconst 20 (1) d14_19 (by decide) rfl ?_
      refine Go.isub 21 d14_20 rfl ?_
      refine Go.iaload (x := (own_last xs)) ((xs.length - 1)) 22 d14_21 fa1 (by rw [h2]; exact (own_lm1 hl).1) (by rw [h2]; exact (own_lm1 hl).2) (own_lastq hl) rfl ?_
      refine Go.goto 26 d14_22 (by decide) (by decide) ?_
      refine Go.ireturn d14_26 rfl (by decide) (by decide) ?_
      exact ⟨rfl, rfl⟩

theorem d7_0 : decode prog_18_method_6_code 0 = .ok (.aload_n 1, 1) := by decide +kernel
theorem d7_1 : decode prog_18_method_6_code 1 = .ok (.invokevirtual 62, 3) := by decide +kernel
theorem d7_4 : decode prog_18_method_6_code 4 = .ok (.aload_n 2, 1) := by decide +kernel
theorem d7_5 : decode prog_18_method_6_code 5 = .ok (.invokevirtual 62, 3) := by decide +kernel
theorem d7_8 : decode prog_18_method_6_code 8 = .ok (.invokestatic 68, 3) := by decide +kernel
theorem d7_11 : decode prog_18_method_6_code 11 = .ok (.istore_n 3, 1) := by decide +kernel
theorem d7_12 : decode prog_18_method_6_code 12 = .ok (.iconst 0, 1) := by decide +kernel
theorem d7_13 : decode prog_18_method_6_code 13 = .ok (.istore 4, 2) := by decide +kernel
theorem d7_15 : decode prog_18_method_6_code 15 = .ok (.aload_n 0, 1) := by decide +kernel
theorem d7_16 : decode prog_18_method_6_code 16 = .ok (.invokevirtual 74, 3) := by decide +kernel
theorem d7_19 : decode prog_18_method_6_code 19 = .ok (.tableswitch 160 0 4 #[33, 49, 65, 83, 123], 33) := by decide +kernel
theorem d7_52 : decode prog_18_method_6_code 52 = .ok (.aload_n 1, 1) := by decide +kernel
theorem d7_53 : decode prog_18_method_6_code 53 = .ok (.invokevirtual 77, 3) := by decide +kernel
theorem d7_56 : decode prog_18_method_6_code 56 = .ok (.aload_n 2, 1) := by decide +kernel
theorem d7_57 : decode prog_18_method_6_code 57 = .ok (.invokevirtual 77, 3) := by decide +kernel
theorem d7_60 : decode prog_18_method_6_code 60 = .ok (.invokestatic 81, 3) := by decide +kernel
theorem d7_63 : decode prog_18_method_6_code 63 = .ok (.istore 4, 2) := by decide +kernel
theorem d7_65 : decode prog_18_method_6_code 65 = .ok (.goto 114, 3) := by decide +kernel
theorem d7_68 : decode prog_18_method_6_code 68 = .ok (.aload_n 1, 1) := by decide +kernel
theorem d7_69 : decode prog_18_method_6_code 69 = .ok (.invokevirtual 62, 3) := by decide +kernel
theorem d7_72 : decode prog_18_method_6_code 72 = .ok (.aload_n 2, 1) := by decide +kernel
theorem d7_73 : decode prog_18_method_6_code 73 = .ok (.invokevirtual 62, 3) := by decide +kernel
theorem d7_76 : decode prog_18_method_6_code 76 = .ok (.invokestatic 87, 3) := by decide +kernel
theorem d7_79 : decode prog_18_method_6_code 79 = .ok (.istore 4, 2) := by decide +kernel
theorem d7_81 : decode prog_18_method_6_code 81 = .ok (.goto 98, 3) := by decide +kernel
theorem d7_84 : decode prog_18_method_6_code 84 = .ok (.aload_n 2, 1) := by decide +kernel
theorem d7_85 : decode prog_18_method_6_code 85 = .ok (.iconst 1, 1) := by decide +kernel
theorem d7_86 : decode prog_18_method_6_code 86 = .ok (.invokevirtual 91, 3) := by decide +kernel
theorem d7_89 : decode prog_18_method_6_code 89 = .ok (.aload_n 1, 1) := by decide +kernel
theorem d7_90 : decode prog_18_method_6_code 90 = .ok (.iconst 1, 1) := by decide +kernel
theorem d7_91 : decode prog_18_method_6_code 91 = .ok (.invokevirtual 91, 3) := by decide +kernel
theorem d7_94 : decode prog_18_method_6_code 94 = .ok (.invokestatic 87, 3) := by decide +kernel
theorem d7_97 : decode prog_18_method_6_code 97 = .ok (.istore 4, 2) := by decide +kernel
theorem d7_99 : decode prog_18_method_6_code 99 = .ok (.goto 80, 3) := by decide +kernel
theorem d7_102 : decode prog_18_method_6_code 102 = .ok (.iconst 1, 1) := by decide +kernel
theorem d7_103 : decode prog_18_method_6_code 103 = .ok (.istore 5, 2) := by decide +kernel
theorem d7_105 : decode prog_18_method_6_code 105 = .ok (.iload 5, 2) := by decide +kernel
theorem d7_107 : decode prog_18_method_6_code 107 = .ok (.iload_n 3, 1) := by decide +kernel
theorem d7_108 : decode prog_18_method_6_code 108 = .ok (.if_icmp .gt 31, 3) := by decide +kernel
theorem d7_111 : decode prog_18_method_6_code 111 = .ok (.iload 4, 2) := by decide +kernel
theorem d7_113 : decode prog_18_method_6_code 113 = .ok (.ifCond .ne 26, 3) := by decide +kernel
theorem d7_116 : decode prog_18_method_6_code 116 = .ok (.aload_n 2, 1) := by decide +kernel
theorem d7_117 : decode prog_18_method_6_code 117 = .ok (.iload 5, 2) := by decide +kernel
theorem d7_119 : decode prog_18_method_6_code 119 = .ok (.invokevirtual 91, 3) := by decide +kernel
theorem d7_122 : decode prog_18_method_6_code 122 = .ok (.aload_n 1, 1) := by decide +kernel
theorem d7_123 : decode prog_18_method_6_code 123 = .ok (.iload 5, 2) := by decide +kernel
theorem d7_125 : decode prog_18_method_6_code 125 = .ok (.invokevirtual 91, 3) := by decide +kernel
theorem d7_128 : decode prog_18_method_6_code 128 = .ok (.invokestatic 87, 3) := by decide +kernel
theorem d7_131 : decode prog_18_method_6_code 131 = .ok (.istore 4, 2) := by decide +kernel
theorem d7_133 : decode prog_18_method_6_code 133 = .ok (.iinc 5 1, 3) := by decide +kernel
theorem d7_136 : decode prog_18_method_6_code 136 = .ok (.goto (-31), 3) := by decide +kernel
theorem d7_139 : decode prog_18_method_6_code 139 = .ok (.goto 40, 3) := by decide +kernel
theorem d7_142 : decode prog_18_method_6_code 142 = .ok (.iload_n 3, 1) := by decide +kernel
theorem d7_143 : decode prog_18_method_6_code 143 = .ok (.istore 5, 2) := by decide +kernel
theorem d7_145 : decode prog_18_method_6_code 145 = .ok (.iload 5, 2) := by decide +kernel
theorem d7_147 : decode prog_18_method_6_code 147 = .ok (.iconst 1, 1) := by decide +kernel
theorem d7_148 : decode prog_18_method_6_code 148 = .ok (.if_icmp .lt 31, 3) := by decide +kernel
theorem d7_151 : decode prog_18_method_6_code 151 = .ok (.iload 4, 2) := by decide +kernel
theorem d7_153 : decode prog_18_method_6_code 153 = .ok (.ifCond .ne 26, 3) := by decide +kernel
theorem d7_156 : decode prog_18_method_6_code 156 = .ok (.aload_n 1, 1) := by decide +kernel
theorem d7_157 : decode prog_18_method_6_code 157 = .ok (.iload 5, 2) := by decide +kernel
theorem d7_159 : decode prog_18_method_6_code 159 = .ok (.invokevirtual 91, 3) := by decide +kernel
theorem d7_162 : decode prog_18_method_6_code 162 = .ok (.aload_n 2, 1) := by decide +kernel
theorem d7_163 : decode prog_18_method_6_code 163 = .ok (.iload 5, 2) := by decide +kernel
theorem d7_165 : decode prog_18_method_6_code 165 = .ok (.invokevirtual 91, 3) := by decide +kernel
theorem d7_168 : decode prog_18_method_6_code 168 = .ok (.invokestatic 87, 3) := by decide +kernel
theorem d7_171 : decode prog_18_method_6_code 171 = .ok (.istore 4, 2) := by decide +kernel
theorem d7_173 : decode prog_18_method_6_code 173 = .ok (.iinc 5 (-1), 3) := by decide +kernel
theorem d7_176 : decode prog_18_method_6_code 176 = .ok (.goto (-31), 3) := by decide +kernel
theorem d7_179 : decode prog_18_method_6_code 179 = .ok (.iload 4, 2) := by decide +kernel
theorem d7_181 : decode prog_18_method_6_code 181 = .ok (.ireturn, 1) := by decide +kernel

theorem pd7 : parseMethodDescriptor "(Ldev/stablemate/solve/Profile;Ldev/stablemate/solve/Profile;)I" = some ⟨[(.object "dev/stablemate/solve/Profile"), (.object "dev/stablemate/solve/Profile")], some .int⟩ := by decide +kernel
theorem pl7 : plainFor (⟨"dev/stablemate/solve/Criterion", "compare", "(Ldev/stablemate/solve/Profile;Ldev/stablemate/solve/Profile;)I"⟩ : MethodName) = true := by first | exact plainFor_of_name (by first | (simp [plainName, overriddenIn]; done) | decide +kernel) | decide +kernel

theorem ef_k_cmp_c0 (m : MethodId) (x0 : Addr) (x1 : Addr) (x2 : Addr) : entryFrame m #[(.ref x0), (.ref x1), (.ref x2)] 6 = mkF m 0 #[.val (.ref x0), .val (.ref x1), .val (.ref x2), .unset, .unset, .unset] [] := by first | (simp [entryFrame, mkF, argsToLocals, Value.category]; done) | rfl

set_option maxRecDepth 65536 in
set_option maxHeartbeats 40000000 in
theorem k_cmp_c0 {l : Launch} {Z : State} {a0 : Array Value} (hw : ∀ d ∈ tables_1, d.before a0 Z = true) {am : Addr} {bm : Addr} (h : Heap) (hz : Z.heap.size ≤ h.size) (e : Addr) (p : Addr) (q : Addr) (fa0 : Exa Z h e "dev/stablemate/solve/Criterion") (fa1 : Fld Z h e "java/lang/Enum" "ordinal" "I" (.int (0 : Int32))) (fa2 : Exa Z h p "dev/stablemate/solve/Profile") (fa3 : Exa Z h q "dev/stablemate/solve/Profile") (fa4 : Fld Z h p "dev/stablemate/solve/Profile" "counts" "[I" (.ref am)) (fa5 : Fld Z h q "dev/stablemate/solve/Profile" "counts" "[I" (.ref bm)) (fa6 : Ari Z h am .int [(0 : Int32), (3 : Int32)]) (fa7 : Ari Z h bm .int [(1 : Int32), (0 : Int32), (1 : Int32)]) (fa8 : Fld Z h p "dev/stablemate/solve/Profile" "cost" "J" (.long (6 : Int64))) (fa9 : Fld Z h q "dev/stablemate/solve/Profile" "cost" "J" (.long (4 : Int64)))    : Go l Z (⟨"dev/stablemate/solve/Criterion", "compare", "(Ldev/stablemate/solve/Profile;Ldev/stablemate/solve/Profile;)I"⟩ : MethodName) prog_18_method_6_code 6 (Option.some Jvm.ClassFile.FieldType.int) ({ frames := 1, cells := 0, slots := 0, locals := 32 } : Room) (QI fun rz h' => rz = (1 : Int32) ∧ h' = h) 0 0 h 0 #[.val (.ref e), .val (.ref p), .val (.ref q), .unset, .unset, .unset] [] := by
  refine Go.aload_n 1 d7_0 rfl rfl rfl ?_
  refine Go.callVIp [] [] 4 d7_1 (tw67 hw) (tw68 hw) (tw70 hw) (tw69 hw) (tw18 hw) (tw71 hw) fa2 pl8 (by decide) (lenOf pd8 rfl) rfl (fun m => ef_k_reg_2 m p) _ (k_reg_2 hw h hz p fa4 fa6) 0 rfl (Nat.le_of_eq rfl) (by decide) (by decide) (by decide) (by decide) rfl ?_
  refine Go.aload_n 5 d7_4 rfl rfl rfl ?_
  refine Go.callVIp [] [.int (2 : Int32)] 8 d7_5 (tw67 hw) (tw68 hw) (tw70 hw) (tw69 hw) (tw18 hw) (tw71 hw) fa3 pl8 (by decide) (lenOf pd8 rfl) rfl (fun m => ef_k_reg_3 m q) _ (k_reg_3 hw h hz q fa5 fa7) 1 rfl (Nat.le_of_eq rfl) (by decide) (by decide) (by decide) (by decide) rfl ?_
  refine Go.callSIp [.int (2 : Int32), .int (3 : Int32)] [] 11 d7_8 (tw72 hw) (tw73 hw) (tw36 hw) (tw74 hw) pl9 (by decide) (lenOf pd9 rfl) rfl (fun m => ef_k_max m (2 : Int32) (3 : Int32)) _ (k_max hw h hz (2 : Int32) (3 : Int32)) 0 rfl (Nat.le_of_eq rfl) (by decide) (by decide) (by decide) (by decide) rfl ?_
  refine Go.istore_n 12 #[.val (.ref e), .val (.ref p), .val (.ref q), .val (.int (if (2 : Int32) < (3 : Int32) then (3 : Int32) else (2 : Int32))), .unset, .unset] d7_11 rfl rfl ?_
  refine Go.iconst 13 (0) d7_12 (by decide) rfl ?_
  refine Go.istore 15 #[.val (.ref e), .val (.ref p), .val (.ref q), .val (.int (if (2 : Int32) < (3 : Int32) then (3 : Int32) else (2 : Int32))), .val (.int (0 : Int32)), .unset] d7_13 rfl rfl ?_
  refine Go.aload_n 16 d7_15 rfl rfl rfl ?_
  refine Go.callUIp [] [] 19 d7_16 (tw75 hw) (tw76 hw) (tw77 hw) (tw79 hw) (tw78 hw) (tw80 hw) (tw81 hw) fa0 pl10 (by decide) (lenOf pd10 rfl) rfl (fun m => ef_k_ord m e) _ (k_ord hw h hz e fa1) 0 rfl (Nat.le_of_eq rfl) (by decide) (by decide) (by decide) (by decide) rfl ?_
  refine Go.tsw (33) 52 d7_19 (by decide) (by decide) (by decide) (by decide) ?_
  refine Go.aload_n 53 d7_52 rfl rfl rfl ?_
  refine Go.callVJp [] [] 56 d7_53 (tw84 hw) (tw85 hw) (tw87 hw) (tw86 hw) (tw18 hw) (tw88 hw) fa2 pl11 (by decide) (lenOf pd11 rfl) rfl (fun m => ef_k_cost m p) _ (k_cost hw h hz p fa8) 0 rfl (Nat.le_of_eq rfl) (by decide) (by decide) (by decide) (by decide) rfl ?_
  refine Go.aload_n 57 d7_56 rfl rfl rfl ?_
  refine Go.callVJp [] [.long (6 : Int64)] 60 d7_57 (tw84 hw) (tw85 hw) (tw87 hw) (tw86 hw) (tw18 hw) (tw88 hw) fa3 pl11 (by decide) (lenOf pd11 rfl) rfl (fun m => ef_k_cost m q) _ (k_cost hw h hz q fa9) 2 rfl (Nat.le_of_eq rfl) (by decide) (by decide) (by decide) (by decide) rfl ?_
  refine Go.callSIp [.long (6 : Int64), .long (4 : Int64)] [] 63 d7_60 (tw89 hw) (tw90 hw) (tw91 hw) (tw92 hw) pl12 (by decide) (lenOf pd12 rfl) rfl (fun m => ef_k_lcmp m (6 : Int64) (4 : Int64)) _ (k_lcmp hw h hz (6 : Int64) (4 : Int64)) 0 rfl (Nat.le_of_eq rfl) (by decide) (by decide) (by decide) (by decide) rfl ?_
  refine Go.istore 65 #[.val (.ref e), .val (.ref p), .val (.ref q), .val (.int (if (2 : Int32) < (3 : Int32) then (3 : Int32) else (2 : Int32))), .val (.int (if (6 : Int64) < (4 : Int64) then (-1 : Int32) else (if (6 : Int64) = (4 : Int64) then (0 : Int32) else (1 : Int32)))), .unset] d7_63 rfl rfl ?_
  refine Go.goto 179 d7_65 (by decide) (by decide) ?_
  refine Go.iload 181 d7_179 rfl rfl ?_
  refine Go.ireturn d7_181 rfl (by decide) (by decide) ?_
  exact ⟨by decide, rfl⟩

theorem ef_k_cmp_c1 (m : MethodId) (x0 : Addr) (x1 : Addr) (x2 : Addr) : entryFrame m #[(.ref x0), (.ref x1), (.ref x2)] 6 = mkF m 0 #[.val (.ref x0), .val (.ref x1), .val (.ref x2), .unset, .unset, .unset] [] := by first | (simp [entryFrame, mkF, argsToLocals, Value.category]; done) | rfl

set_option maxRecDepth 65536 in
set_option maxHeartbeats 40000000 in
theorem k_cmp_c1 {l : Launch} {Z : State} {a0 : Array Value} (hw : ∀ d ∈ tables_1, d.before a0 Z = true) {am : Addr} {bm : Addr} (h : Heap) (hz : Z.heap.size ≤ h.size) (e : Addr) (p : Addr) (q : Addr) (fa0 : Exa Z h e "dev/stablemate/solve/Criterion") (fa1 : Fld Z h e "java/lang/Enum" "ordinal" "I" (.int (1 : Int32))) (fa2 : Exa Z h p "dev/stablemate/solve/Profile") (fa3 : Exa Z h q "dev/stablemate/solve/Profile") (fa4 : Fld Z h p "dev/stablemate/solve/Profile" "counts" "[I" (.ref am)) (fa5 : Fld Z h q "dev/stablemate/solve/Profile" "counts" "[I" (.ref bm)) (fa6 : Ari Z h am .int [(0 : Int32), (3 : Int32)]) (fa7 : Ari Z h bm .int [(1 : Int32), (0 : Int32), (1 : Int32)]) (fa8 : Fld Z h p "dev/stablemate/solve/Profile" "cost" "J" (.long (6 : Int64))) (fa9 : Fld Z h q "dev/stablemate/solve/Profile" "cost" "J" (.long (4 : Int64)))    : Go l Z (⟨"dev/stablemate/solve/Criterion", "compare", "(Ldev/stablemate/solve/Profile;Ldev/stablemate/solve/Profile;)I"⟩ : MethodName) prog_18_method_6_code 6 (Option.some Jvm.ClassFile.FieldType.int) ({ frames := 1, cells := 0, slots := 0, locals := 32 } : Room) (QI fun rz h' => rz = (-1 : Int32) ∧ h' = h) 0 0 h 0 #[.val (.ref e), .val (.ref p), .val (.ref q), .unset, .unset, .unset] [] := by
  refine Go.aload_n 1 d7_0 rfl rfl rfl ?_
  refine Go.callVIp [] [] 4 d7_1 (tw67 hw) (tw68 hw) (tw70 hw) (tw69 hw) (tw18 hw) (tw71 hw) fa2 pl8 (by decide) (lenOf pd8 rfl) rfl (fun m => ef_k_reg_2 m p) _ (k_reg_2 hw h hz p fa4 fa6) 0 rfl (Nat.le_of_eq rfl) (by decide) (by decide) (by decide) (by decide) rfl ?_
  refine Go.aload_n 5 d7_4 rfl rfl rfl ?_
  refine Go.callVIp [] [.int (2 : Int32)] 8 d7_5 (tw67 hw) (tw68 hw) (tw70 hw) (tw69 hw) (tw18 hw) (tw71 hw) fa3 pl8 (by decide) (lenOf pd8 rfl) rfl (fun m => ef_k_reg_3 m q) _ (k_reg_3 hw h hz q fa5 fa7) 1 rfl (Nat.le_of_eq rfl) (by decide) (by decide) (by decide) (by decide) rfl ?_
  refine Go.callSIp [.int (2 : Int32), .int (3 : Int32)] [] 11 d7_8 (tw72 hw) (tw73 hw) (tw36 hw) (tw74 hw) pl9 (by decide) (lenOf pd9 rfl) rfl (fun m => ef_k_max m (2 : Int32) (3 : Int32)) _ (k_max hw h hz (2 : Int32) (3 : Int32)) 0 rfl (Nat.le_of_eq rfl) (by decide) (by decide) (by decide) (by decide) rfl ?_
  refine Go.istore_n 12 #[.val (.ref e), .val (.ref p), .val (.ref q), .val (.int (if (2 : Int32) < (3 : Int32) then (3 : Int32) else (2 : Int32))), .unset, .unset] d7_11 rfl rfl ?_
  refine Go.iconst 13 (0) d7_12 (by decide) rfl ?_
  refine Go.istore 15 #[.val (.ref e), .val (.ref p), .val (.ref q), .val (.int (if (2 : Int32) < (3 : Int32) then (3 : Int32) else (2 : Int32))), .val (.int (0 : Int32)), .unset] d7_13 rfl rfl ?_
  refine Go.aload_n 16 d7_15 rfl rfl rfl ?_
  refine Go.callUIp [] [] 19 d7_16 (tw75 hw) (tw76 hw) (tw77 hw) (tw79 hw) (tw78 hw) (tw80 hw) (tw81 hw) fa0 pl10 (by decide) (lenOf pd10 rfl) rfl (fun m => ef_k_ord m e) _ (k_ord hw h hz e fa1) 0 rfl (Nat.le_of_eq rfl) (by decide) (by decide) (by decide) (by decide) rfl ?_
  refine Go.tsw (49) 68 d7_19 (by decide) (by decide) (by decide) (by decide) ?_
  refine Go.aload_n 69 d7_68 rfl rfl rfl ?_
  refine Go.callVIp [] [] 72 d7_69 (tw67 hw) (tw68 hw) (tw70 hw) (tw69 hw) (tw18 hw) (tw71 hw) fa2 pl8 (by decide) (lenOf pd8 rfl) rfl (fun m => ef_k_reg_2 m p) _ (k_reg_2 hw h hz p fa4 fa6) 0 rfl (Nat.le_of_eq rfl) (by decide) (by decide) (by decide) (by decide) rfl ?_
  refine Go.aload_n 73 d7_72 rfl rfl rfl ?_
  refine Go.callVIp [] [.int (2 : Int32)] 76 d7_73 (tw67 hw) (tw68 hw) (tw70 hw) (tw69 hw) (tw18 hw) (tw71 hw) fa3 pl8 (by decide) (lenOf pd8 rfl) rfl (fun m => ef_k_reg_3 m q) _ (k_reg_3 hw h hz q fa5 fa7) 1 rfl (Nat.le_of_eq rfl) (by decide) (by decide) (by decide) (by decide) rfl ?_
  refine Go.callSIp [.int (2 : Int32), .int (3 : Int32)] [] 79 d7_76 (tw93 hw) (tw94 hw) (tw95 hw) (tw96 hw) pl13 (by decide) (lenOf pd13 rfl) rfl (fun m => ef_k_icmp m (2 : Int32) (3 : Int32)) _ (k_icmp hw h hz (2 : Int32) (3 : Int32)) 0 rfl (Nat.le_of_eq rfl) (by decide) (by decide) (by decide) (by decide) rfl ?_
  refine Go.istore 81 #[.val (.ref e), .val (.ref p), .val (.ref q), .val (.int (if (2 : Int32) < (3 : Int32) then (3 : Int32) else (2 : Int32))), .val (.int (if (2 : Int32) < (3 : Int32) then (-1 : Int32) else (if (2 : Int32) = (3 : Int32) then (0 : Int32) else (1 : Int32)))), .unset] d7_79 rfl rfl ?_
  refine Go.goto 179 d7_81 (by decide) (by decide) ?_
  refine Go.iload 181 d7_179 rfl rfl ?_
  refine Go.ireturn d7_181 rfl (by decide) (by decide) ?_
  exact ⟨by decide, rfl⟩

theorem ef_k_cmp_c2 (m : MethodId) (x0 : Addr) (x1 : Addr) (x2 : Addr) : entryFrame m #[(.ref x0), (.ref x1), (.ref x2)] 6 = mkF m 0 #[.val (.ref x0), .val (.ref x1), .val (.ref x2), .unset, .unset, .unset] [] := by first | (simp [entryFrame, mkF, argsToLocals, Value.category]; done) | rfl

set_option maxRecDepth 65536 in
set_option maxHeartbeats 40000000 in
theorem k_cmp_c2 {l : Launch} {Z : State} {a0 : Array Value} (hw : ∀ d ∈ tables_1, d.before a0 Z = true) {am : Addr} {bm : Addr} (h : Heap) (hz : Z.heap.size ≤ h.size) (e : Addr) (p : Addr) (q : Addr) (fa0 : Exa Z h e "dev/stablemate/solve/Criterion") (fa1 : Fld Z h e "java/lang/Enum" "ordinal" "I" (.int (2 : Int32))) (fa2 : Exa Z h p "dev/stablemate/solve/Profile") (fa3 : Exa Z h q "dev/stablemate/solve/Profile") (fa4 : Fld Z h p "dev/stablemate/solve/Profile" "counts" "[I" (.ref am)) (fa5 : Fld Z h q "dev/stablemate/solve/Profile" "counts" "[I" (.ref bm)) (fa6 : Ari Z h am .int [(0 : Int32), (3 : Int32)]) (fa7 : Ari Z h bm .int [(1 : Int32), (0 : Int32), (1 : Int32)]) (fa8 : Fld Z h p "dev/stablemate/solve/Profile" "cost" "J" (.long (6 : Int64))) (fa9 : Fld Z h q "dev/stablemate/solve/Profile" "cost" "J" (.long (4 : Int64)))    : Go l Z (⟨"dev/stablemate/solve/Criterion", "compare", "(Ldev/stablemate/solve/Profile;Ldev/stablemate/solve/Profile;)I"⟩ : MethodName) prog_18_method_6_code 6 (Option.some Jvm.ClassFile.FieldType.int) ({ frames := 1, cells := 0, slots := 0, locals := 32 } : Room) (QI fun rz h' => rz = (1 : Int32) ∧ h' = h) 0 0 h 0 #[.val (.ref e), .val (.ref p), .val (.ref q), .unset, .unset, .unset] [] := by
  refine Go.aload_n 1 d7_0 rfl rfl rfl ?_
  refine Go.callVIp [] [] 4 d7_1 (tw67 hw) (tw68 hw) (tw70 hw) (tw69 hw) (tw18 hw) (tw71 hw) fa2 pl8 (by decide) (lenOf pd8 rfl) rfl (fun m => ef_k_reg_2 m p) _ (k_reg_2 hw h hz p fa4 fa6) 0 rfl (Nat.le_of_eq rfl) (by decide) (by decide) (by decide) (by decide) rfl ?_
  refine Go.aload_n 5 d7_4 rfl rfl rfl ?_
  refine Go.callVIp [] [.int (2 : Int32)] 8 d7_5 (tw67 hw) (tw68 hw) (tw70 hw) (tw69 hw) (tw18 hw) (tw71 hw) fa3 pl8 (by decide) (lenOf pd8 rfl) rfl (fun m => ef_k_reg_3 m q) _ (k_reg_3 hw h hz q fa5 fa7) 1 rfl (Nat.le_of_eq rfl) (by decide) (by decide) (by decide) (by decide) rfl ?_
  refine Go.callSIp [.int (2 : Int32), .int (3 : Int32)] [] 11 d7_8 (tw72 hw) (tw73 hw) (tw36 hw) (tw74 hw) pl9 (by decide) (lenOf pd9 rfl) rfl (fun m => ef_k_max m (2 : Int32) (3 : Int32)) _ (k_max hw h hz (2 : Int32) (3 : Int32)) 0 rfl (Nat.le_of_eq rfl) (by decide) (by decide) (by decide) (by decide) rfl ?_
  refine Go.istore_n 12 #[.val (.ref e), .val (.ref p), .val (.ref q), .val (.int (if (2 : Int32) < (3 : Int32) then (3 : Int32) else (2 : Int32))), .unset, .unset] d7_11 rfl rfl ?_
  refine Go.iconst 13 (0) d7_12 (by decide) rfl ?_
  refine Go.istore 15 #[.val (.ref e), .val (.ref p), .val (.ref q), .val (.int (if (2 : Int32) < (3 : Int32) then (3 : Int32) else (2 : Int32))), .val (.int (0 : Int32)), .unset] d7_13 rfl rfl ?_
  refine Go.aload_n 16 d7_15 rfl rfl rfl ?_
  refine Go.callUIp [] [] 19 d7_16 (tw75 hw) (tw76 hw) (tw77 hw) (tw79 hw) (tw78 hw) (tw80 hw) (tw81 hw) fa0 pl10 (by decide) (lenOf pd10 rfl) rfl (fun m => ef_k_ord m e) _ (k_ord hw h hz e fa1) 0 rfl (Nat.le_of_eq rfl) (by decide) (by decide) (by decide) (by decide) rfl ?_
  refine Go.tsw (65) 84 d7_19 (by decide) (by decide) (by decide) (by decide) ?_
  refine Go.aload_n 85 d7_84 rfl rfl rfl ?_
  refine Go.iconst 86 (1) d7_85 (by decide) rfl ?_
  refine Go.callVIp [.int (1 : Int32)] [] 89 d7_86 (tw98 hw) (tw99 hw) (tw101 hw) (tw100 hw) (tw18 hw) (tw102 hw) fa3 pl14 (by decide) (lenOf pd14 rfl) rfl (fun m => ef_k_cnt_3_1 m q (1 : Int32)) _ (k_cnt_3_1 hw h hz q fa5 fa7) 0 rfl (Nat.le_of_eq rfl) (by decide) (by decide) (by decide) (by decide) rfl ?_
  refine Go.aload_n 90 d7_89 rfl rfl rfl ?_
  refine Go.iconst 91 (1) d7_90 (by decide) rfl ?_
  refine Go.callVIp [.int (1 : Int32)] [.int (1 : Int32)] 94 d7_91 (tw98 hw) (tw99 hw) (tw101 hw) (tw100 hw) (tw18 hw) (tw102 hw) fa2 pl14 (by decide) (lenOf pd14 rfl) rfl (fun m => ef_k_cnt_2_1 m p (1 : Int32)) _ (k_cnt_2_1 hw h hz p fa4 fa6) 1 rfl (Nat.le_of_eq rfl) (by decide) (by decide) (by decide) (by decide) rfl ?_
  refine Go.callSIp [.int (1 : Int32), .int (0 : Int32)] [] 97 d7_94 (tw93 hw) (tw94 hw) (tw95 hw) (tw96 hw) pl13 (by decide) (lenOf pd13 rfl) rfl (fun m => ef_k_icmp m (1 : Int32) (0 : Int32)) _ (k_icmp hw h hz (1 : Int32) (0 : Int32)) 0 rfl (Nat.le_of_eq rfl) (by decide) (by decide) (by decide) (by decide) rfl ?_
  refine Go.istore 99 #[.val (.ref e), .val (.ref p), .val (.ref q), .val (.int (if (2 : Int32) < (3 : Int32) then (3 : Int32) else (2 : Int32))), .val (.int (if (1 : Int32) < (0 : Int32) then (-1 : Int32) else (if (1 : Int32) = (0 : Int32) then (0 : Int32) else (1 : Int32)))), .unset] d7_97 rfl rfl ?_
  refine Go.goto 179 d7_99 (by decide) (by decide) ?_
  refine Go.iload 181 d7_179 rfl rfl ?_
  refine Go.ireturn d7_181 rfl (by decide) (by decide) ?_
  exact ⟨by decide, rfl⟩

theorem ef_k_cmp_c3 (m : MethodId) (x0 : Addr) (x1 : Addr) (x2 : Addr) : entryFrame m #[(.ref x0), (.ref x1), (.ref x2)] 6 = mkF m 0 #[.val (.ref x0), .val (.ref x1), .val (.ref x2), .unset, .unset, .unset] [] := by first | (simp [entryFrame, mkF, argsToLocals, Value.category]; done) | rfl

set_option maxRecDepth 65536 in
set_option maxHeartbeats 40000000 in
theorem k_cmp_c3 {l : Launch} {Z : State} {a0 : Array Value} (hw : ∀ d ∈ tables_1, d.before a0 Z = true) {am : Addr} {bm : Addr} (h : Heap) (hz : Z.heap.size ≤ h.size) (e : Addr) (p : Addr) (q : Addr) (fa0 : Exa Z h e "dev/stablemate/solve/Criterion") (fa1 : Fld Z h e "java/lang/Enum" "ordinal" "I" (.int (3 : Int32))) (fa2 : Exa Z h p "dev/stablemate/solve/Profile") (fa3 : Exa Z h q "dev/stablemate/solve/Profile") (fa4 : Fld Z h p "dev/stablemate/solve/Profile" "counts" "[I" (.ref am)) (fa5 : Fld Z h q "dev/stablemate/solve/Profile" "counts" "[I" (.ref bm)) (fa6 : Ari Z h am .int [(0 : Int32), (3 : Int32)]) (fa7 : Ari Z h bm .int [(1 : Int32), (0 : Int32), (1 : Int32)]) (fa8 : Fld Z h p "dev/stablemate/solve/Profile" "cost" "J" (.long (6 : Int64))) (fa9 : Fld Z h q "dev/stablemate/solve/Profile" "cost" "J" (.long (4 : Int64)))    : Go l Z (⟨"dev/stablemate/solve/Criterion", "compare", "(Ldev/stablemate/solve/Profile;Ldev/stablemate/solve/Profile;)I"⟩ : MethodName) prog_18_method_6_code 6 (Option.some Jvm.ClassFile.FieldType.int) ({ frames := 1, cells := 0, slots := 0, locals := 32 } : Room) (QI fun rz h' => rz = (1 : Int32) ∧ h' = h) 0 0 h 0 #[.val (.ref e), .val (.ref p), .val (.ref q), .unset, .unset, .unset] [] := by
  refine Go.aload_n 1 d7_0 rfl rfl rfl ?_
  refine Go.callVIp [] [] 4 d7_1 (tw67 hw) (tw68 hw) (tw70 hw) (tw69 hw) (tw18 hw) (tw71 hw) fa2 pl8 (by decide) (lenOf pd8 rfl) rfl (fun m => ef_k_reg_2 m p) _ (k_reg_2 hw h hz p fa4 fa6) 0 rfl (Nat.le_of_eq rfl) (by decide) (by decide) (by decide) (by decide) rfl ?_
  refine Go.aload_n 5 d7_4 rfl rfl rfl ?_
  refine Go.callVIp [] [.int (2 : Int32)] 8 d7_5 (tw67 hw) (tw68 hw) (tw70 hw) (tw69 hw) (tw18 hw) (tw71 hw) fa3 pl8 (by decide) (lenOf pd8 rfl) rfl (fun m => ef_k_reg_3 m q) _ (k_reg_3 hw h hz q fa5 fa7) 1 rfl (Nat.le_of_eq rfl) (by decide) (by decide) (by decide) (by decide) rfl ?_
  refine Go.callSIp [.int (2 : Int32), .int (3 : Int32)] [] 11 d7_8 (tw72 hw) (tw73 hw) (tw36 hw) (tw74 hw) pl9 (by decide) (lenOf pd9 rfl) rfl (fun m => ef_k_max m (2 : Int32) (3 : Int32)) _ (k_max hw h hz (2 : Int32) (3 : Int32)) 0 rfl (Nat.le_of_eq rfl) (by decide) (by decide) (by decide) (by decide) rfl ?_
  refine Go.istore_n 12 #[.val (.ref e), .val (.ref p), .val (.ref q), .val (.int (if (2 : Int32) < (3 : Int32) then (3 : Int32) else (2 : Int32))), .unset, .unset] d7_11 rfl rfl ?_
  refine Go.iconst 13 (0) d7_12 (by decide) rfl ?_
  refine Go.istore 15 #[.val (.ref e), .val (.ref p), .val (.ref q), .val (.int (if (2 : Int32) < (3 : Int32) then (3 : Int32) else (2 : Int32))), .val (.int (0 : Int32)), .unset] d7_13 rfl rfl ?_
  refine Go.aload_n 16 d7_15 rfl rfl rfl ?_
  refine Go.callUIp [] [] 19 d7_16 (tw75 hw) (tw76 hw) (tw77 hw) (tw79 hw) (tw78 hw) (tw80 hw) (tw81 hw) fa0 pl10 (by decide) (lenOf pd10 rfl) rfl (fun m => ef_k_ord m e) _ (k_ord hw h hz e fa1) 0 rfl (Nat.le_of_eq rfl) (by decide) (by decide) (by decide) (by decide) rfl ?_
  refine Go.tsw (83) 102 d7_19 (by decide) (by decide) (by decide) (by decide) ?_
  refine Go.iconst 103 (1) d7_102 (by decide) rfl ?_
  refine Go.istore 105 #[.val (.ref e), .val (.ref p), .val (.ref q), .val (.int (if (2 : Int32) < (3 : Int32) then (3 : Int32) else (2 : Int32))), .val (.int (0 : Int32)), .val (.int (1 : Int32))] d7_103 rfl rfl ?_
  refine Go.iload 107 d7_105 rfl rfl ?_
  refine Go.iload_n 108 d7_107 rfl rfl ?_
  refine Go.icmp_gt 139 111 d7_108 (by decide) (by decide) rfl (fun c => absurd c (by decide)) (fun _ => ?_)
  refine Go.iload 113 d7_111 rfl rfl ?_
  refine Go.if_ne 139 116 d7_113 (by decide) (by decide) rfl (fun c => absurd c (by decide)) (fun _ => ?_)
  refine Go.aload_n 117 d7_116 rfl rfl rfl ?_
  refine Go.iload 119 d7_117 rfl rfl ?_
  refine Go.callVIp [.int (1 : Int32)] [] 122 d7_119 (tw98 hw) (tw99 hw) (tw101 hw) (tw100 hw) (tw18 hw) (tw102 hw) fa3 pl14 (by decide) (lenOf pd14 rfl) rfl (fun m => ef_k_cnt_3_1 m q (1 : Int32)) _ (k_cnt_3_1 hw h hz q fa5 fa7) 0 rfl (Nat.le_of_eq rfl) (by decide) (by decide) (by decide) (by decide) rfl ?_
  refine Go.aload_n 123 d7_122 rfl rfl rfl ?_
  refine Go.iload 125 d7_123 rfl rfl ?_
  refine Go.callVIp [.int (1 : Int32)] [.int (1 : Int32)] 128 d7_125 (tw98 hw) (tw99 hw) (tw101 hw) (tw100 hw) (tw18 hw) (tw102 hw) fa2 pl14 (by decide) (lenOf pd14 rfl) rfl (fun m => ef_k_cnt_2_1 m p (1 : Int32)) _ (k_cnt_2_1 hw h hz p fa4 fa6) 1 rfl (Nat.le_of_eq rfl) (by decide) (by decide) (by decide) (by decide) rfl ?_
  refine Go.callSIp [.int (1 : Int32), .int (0 : Int32)] [] 131 d7_128 (tw93 hw) (tw94 hw) (tw95 hw) (tw96 hw) pl13 (by decide) (lenOf pd13 rfl) rfl (fun m => ef_k_icmp m (1 : Int32) (0 : Int32)) _ (k_icmp hw h hz (1 : Int32) (0 : Int32)) 0 rfl (Nat.le_of_eq rfl) (by decide) (by decide) (by decide) (by decide) rfl ?_
  refine Go.istore 133 #[.val (.ref e), .val (.ref p), .val (.ref q), .val (.int (if (2 : Int32) < (3 : Int32) then (3 : Int32) else (2 : Int32))), .val (.int (if (1 : Int32) < (0 : Int32) then (-1 : Int32) else (if (1 : Int32) = (0 : Int32) then (0 : Int32) else (1 : Int32)))), .val (.int (1 : Int32))] d7_131 rfl rfl ?_
  refine Go.iinc 136 (1) #[.val (.ref e), .val (.ref p), .val (.ref q), .val (.int (if (2 : Int32) < (3 : Int32) then (3 : Int32) else (2 : Int32))), .val (.int (if (1 : Int32) < (0 : Int32) then (-1 : Int32) else (if (1 : Int32) = (0 : Int32) then (0 : Int32) else (1 : Int32)))), .val (.int ((1 : Int32) + (1 : Int32)))] d7_133 (by decide) rfl rfl rfl ?_
  refine Go.goto 105 d7_136 (by decide) (by decide) ?_
  refine Go.iload 107 d7_105 rfl rfl ?_
  refine Go.iload_n 108 d7_107 rfl rfl ?_
  refine Go.icmp_gt 139 111 d7_108 (by decide) (by decide) rfl (fun c => absurd c (by decide)) (fun _ => ?_)
  refine Go.iload 113 d7_111 rfl rfl ?_
  refine Go.if_ne 139 116 d7_113 (by decide) (by decide) rfl (fun _ => ?_) (fun c => absurd c (by decide))
  refine Go.goto 179 d7_139 (by decide) (by decide) ?_
  refine Go.iload 181 d7_179 rfl rfl ?_
  refine Go.ireturn d7_181 rfl (by decide) (by decide) ?_
  exact ⟨by decide, rfl⟩

theorem ef_k_cmp_c4 (m : MethodId) (x0 : Addr) (x1 : Addr) (x2 : Addr) : entryFrame m #[(.ref x0), (.ref x1), (.ref x2)] 6 = mkF m 0 #[.val (.ref x0), .val (.ref x1), .val (.ref x2), .unset, .unset, .unset] [] := by first | (simp [entryFrame, mkF, argsToLocals, Value.category]; done) | rfl

set_option maxRecDepth 65536 in
set_option maxHeartbeats 40000000 in
theorem k_cmp_c4 {l : Launch} {Z : State} {a0 : Array Value} (hw : ∀ d ∈ tables_1, d.before a0 Z = true) {am : Addr} {bm : Addr} (h : Heap) (hz : Z.heap.size ≤ h.size) (e : Addr) (p : Addr) (q : Addr) (fa0 : Exa Z h e "dev/stablemate/solve/Criterion") (fa1 : Fld Z h e "java/lang/Enum" "ordinal" "I" (.int (4 : Int32))) (fa2 : Exa Z h p "dev/stablemate/solve/Profile") (fa3 : Exa Z h q "dev/stablemate/solve/Profile") (fa4 : Fld Z h p "dev/stablemate/solve/Profile" "counts" "[I" (.ref am)) (fa5 : Fld Z h q "dev/stablemate/solve/Profile" "counts" "[I" (.ref bm)) (fa6 : Ari Z h am .int [(0 : Int32), (3 : Int32)]) (fa7 : Ari Z h bm .int [(1 : Int32), (0 : Int32), (1 : Int32)]) (fa8 : Fld Z h p "dev/stablemate/solve/Profile" "cost" "J" (.long (6 : Int64))) (fa9 : Fld Z h q "dev/stablemate/solve/Profile" "cost" "J" (.long (4 : Int64)))    : Go l Z (⟨"dev/stablemate/solve/Criterion", "compare", "(Ldev/stablemate/solve/Profile;Ldev/stablemate/solve/Profile;)I"⟩ : MethodName) prog_18_method_6_code 6 (Option.some Jvm.ClassFile.FieldType.int) ({ frames := 1, cells := 0, slots := 0, locals := 32 } : Room) (QI fun rz h' => rz = (-1 : Int32) ∧ h' = h) 0 0 h 0 #[.val (.ref e), .val (.ref p), .val (.ref q), .unset, .unset, .unset] [] := by
  refine Go.aload_n 1 d7_0 rfl rfl rfl ?_
  refine Go.callVIp [] [] 4 d7_1 (tw67 hw) (tw68 hw) (tw70 hw) (tw69 hw) (tw18 hw) (tw71 hw) fa2 pl8 (by decide) (lenOf pd8 rfl) rfl (fun m => ef_k_reg_2 m p) _ (k_reg_2 hw h hz p fa4 fa6) 0 rfl (Nat.le_of_eq rfl) (by decide) (by decide) (by decide) (by decide) rfl ?_
  refine Go.aload_n 5 d7_4 rfl rfl rfl ?_
  refine Go.callVIp [] [.int (2 : Int32)] 8 d7_5 (tw67 hw) (tw68 hw) (tw70 hw) (tw69 hw) (tw18 hw) (tw71 hw) fa3 pl8 (by decide) (lenOf pd8 rfl) rfl (fun m => ef_k_reg_3 m q) _ (k_reg_3 hw h hz q fa5 fa7) 1 rfl (Nat.le_of_eq rfl) (by decide) (by decide) (by decide) (by decide) rfl ?_
  refine Go.callSIp [.int (2 : Int32), .int (3 : Int32)] [] 11 d7_8 (tw72 hw) (tw73 hw) (tw36 hw) (tw74 hw) pl9 (by decide) (lenOf pd9 rfl) rfl (fun m => ef_k_max m (2 : Int32) (3 : Int32)) _ (k_max hw h hz (2 : Int32) (3 : Int32)) 0 rfl (Nat.le_of_eq rfl) (by decide) (by decide) (by decide) (by decide) rfl ?_
  refine Go.istore_n 12 #[.val (.ref e), .val (.ref p), .val (.ref q), .val (.int (if (2 : Int32) < (3 : Int32) then (3 : Int32) else (2 : Int32))), .unset, .unset] d7_11 rfl rfl ?_
  refine Go.iconst 13 (0) d7_12 (by decide) rfl ?_
  refine Go.istore 15 #[.val (.ref e), .val (.ref p), .val (.ref q), .val (.int (if (2 : Int32) < (3 : Int32) then (3 : Int32) else (2 : Int32))), .val (.int (0 : Int32)), .unset] d7_13 rfl rfl ?_
  refine Go.aload_n 16 d7_15 rfl rfl rfl ?_
  refine Go.callUIp [] [] 19 d7_16 (tw75 hw) (tw76 hw) (tw77 hw) (tw79 hw) (tw78 hw) (tw80 hw) (tw81 hw) fa0 pl10 (by decide) (lenOf pd10 rfl) rfl (fun m => ef_k_ord m e) _ (k_ord hw h hz e fa1) 0 rfl (Nat.le_of_eq rfl) (by decide) (by decide) (by decide) (by decide) rfl ?_
  refine Go.tsw (123) 142 d7_19 (by decide) (by decide) (by decide) (by decide) ?_
  refine Go.iload_n 143 d7_142 rfl rfl ?_
  refine Go.istore 145 #[.val (.ref e), .val (.ref p), .val (.ref q), .val (.int (if (2 : Int32) < (3 : Int32) then (3 : Int32) else (2 : Int32))), .val (.int (0 : Int32)), .val (.int (if (2 : Int32) < (3 : Int32) then (3 : Int32) else (2 : Int32)))] d7_143 rfl rfl ?_
  refine Go.iload 147 d7_145 rfl rfl ?_
  refine Go.iconst 148 (1) d7_147 (by decide) rfl ?_
  refine Go.icmp_lt 179 151 d7_148 (by decide) (by decide) rfl (fun c => absurd c (by decide)) (fun _ => ?_)
  refine Go.iload 153 d7_151 rfl rfl ?_
  refine Go.if_ne 179 156 d7_153 (by decide) (by decide) rfl (fun c => absurd c (by decide)) (fun _ => ?_)
  refine Go.aload_n 157 d7_156 rfl rfl rfl ?_
  refine Go.iload 159 d7_157 rfl rfl ?_
  refine Go.callVIp [.int (if (2 : Int32) < (3 : Int32) then (3 : Int32) else (2 : Int32))] [] 162 d7_159 (tw98 hw) (tw99 hw) (tw101 hw) (tw100 hw) (tw18 hw) (tw102 hw) fa2 pl14 (by decide) (lenOf pd14 rfl) rfl (fun m => ef_k_cnt_2_3 m p (if (2 : Int32) < (3 : Int32) then (3 : Int32) else (2 : Int32))) _ (k_cnt_2_3 hw h hz p fa4 fa6) 0 rfl (Nat.le_of_eq rfl) (by decide) (by decide) (by decide) (by decide) rfl ?_
  refine Go.aload_n 163 d7_162 rfl rfl rfl ?_
  refine Go.iload 165 d7_163 rfl rfl ?_
  refine Go.callVIp [.int (if (2 : Int32) < (3 : Int32) then (3 : Int32) else (2 : Int32))] [.int (0 : Int32)] 168 d7_165 (tw98 hw) (tw99 hw) (tw101 hw) (tw100 hw) (tw18 hw) (tw102 hw) fa3 pl14 (by decide) (lenOf pd14 rfl) rfl (fun m => ef_k_cnt_3_3 m q (if (2 : Int32) < (3 : Int32) then (3 : Int32) else (2 : Int32))) _ (k_cnt_3_3 hw h hz q fa5 fa7) 1 rfl (Nat.le_of_eq rfl) (by decide) (by decide) (by decide) (by decide) rfl ?_
  refine Go.callSIp [.int (0 : Int32), .int (1 : Int32)] [] 171 d7_168 (tw93 hw) (tw94 hw) (tw95 hw) (tw96 hw) pl13 (by decide) (lenOf pd13 rfl) rfl (fun m => ef_k_icmp m (0 : Int32) (1 : Int32)) _ (k_icmp hw h hz (0 : Int32) (1 : Int32)) 0 rfl (Nat.le_of_eq rfl) (by decide) (by decide) (by decide) (by decide) rfl ?_
  refine Go.istore 173 #[.val (.ref e), .val (.ref p), .val (.ref q), .val (.int (if (2 : Int32) < (3 : Int32) then (3 : Int32) else (2 : Int32))), .val (.int (if (0 : Int32) < (1 : Int32) then (-1 : Int32) else (if (0 : Int32) = (1 : Int32) then (0 : Int32) else (1 : Int32)))), .val (.int (if (2 : Int32) < (3 : Int32) then (3 : Int32) else (2 : Int32)))] d7_171 rfl rfl ?_
  refine Go.iinc 176 (-1) #[.val (.ref e), .val (.ref p), .val (.ref q), .val (.int (if (2 : Int32) < (3 : Int32) then (3 : Int32) else (2 : Int32))), .val (.int (if (0 : Int32) < (1 : Int32) then (-1 : Int32) else (if (0 : Int32) = (1 : Int32) then (0 : Int32) else (1 : Int32)))), .val (.int ((if (2 : Int32) < (3 : Int32) then (3 : Int32) else (2 : Int32)) + (-1 : Int32)))] d7_173 (by decide) rfl rfl rfl ?_
  refine Go.goto 145 d7_176 (by decide) (by decide) ?_
  refine Go.iload 147 d7_145 rfl rfl ?_
  refine Go.iconst 148 (1) d7_147 (by decide) rfl ?_
  refine Go.icmp_lt 179 151 d7_148 (by decide) (by decide) rfl (fun c => absurd c (by decide)) (fun _ => ?_)
  refine Go.iload 153 d7_151 rfl rfl ?_
  refine Go.if_ne 179 156 d7_153 (by decide) (by decide) rfl (fun _ => ?_) (fun c => absurd c (by decide))
  refine Go.iload 181 d7_179 rfl rfl ?_
  refine Go.ireturn d7_181 rfl (by decide) (by decide) ?_
  exact ⟨by decide, rfl⟩

theorem ef_k_cmp_a1 (m : MethodId) (x0 : Addr) (x1 : Addr) (x2 : Addr) : entryFrame m #[(.ref x0), (.ref x1), (.ref x2)] 6 = mkF m 0 #[.val (.ref x0), .val (.ref x1), .val (.ref x2), .unset, .unset, .unset] [] := by first | (simp [entryFrame, mkF, argsToLocals, Value.category]; done) | rfl

set_option maxRecDepth 65536 in
set_option maxHeartbeats 40000000 in
theorem k_cmp_a1 {l : Launch} {Z : State} {a0 : Array Value} (hw : ∀ d ∈ tables_1, d.before a0 Z = true) {am : Addr} {bm : Addr} {xs : List Int32} {ys : List Int32} (h : Heap) (hz : Z.heap.size ≤ h.size) (e : Addr) (p : Addr) (q : Addr) (fa0 : Exa Z h e "dev/stablemate/solve/Criterion") (fa1 : Fld Z h e "java/lang/Enum" "ordinal" "I" (.int (1 : Int32))) (fa2 : Exa Z h p "dev/stablemate/solve/Profile") (fa3 : Exa Z h q "dev/stablemate/solve/Profile") (fa4 : Fld Z h p "dev/stablemate/solve/Profile" "counts" "[I" (.ref am)) (fa5 : Fld Z h q "dev/stablemate/solve/Profile" "counts" "[I" (.ref bm)) (fa6 : Ari Z h am .int xs) (fa7 : Ari Z h bm .int ys) (hlt : (List.length xs).toInt32 < (List.length ys).toInt32) (hx : xs.length ≤ 4) (hy : ys.length ≤ 4) (hp : 1 ≤ ys.length → 0 < own_last ys)   : Go l Z (⟨"dev/stablemate/solve/Criterion", "compare", "(Ldev/stablemate/solve/Profile;Ldev/stablemate/solve/Profile;)I"⟩ : MethodName) prog_18_method_6_code 6 (Option.some Jvm.ClassFile.FieldType.int) ({ frames := 1, cells := 0, slots := 0, locals := 32 } : Room) (QI fun rz h' => rz = (-1 : Int32) ∧ h' = h) 0 0 h 0 #[.val (.ref e), .val (.ref p), .val (.ref q), .unset, .unset, .unset] [] := by
  refine Go.aload_n 1 d7_0 rfl rfl rfl ?_
  refine Go.callVIp [] [] 4 d7_1 (tw67 hw) (tw68 hw) (tw70 hw) (tw69 hw) (tw18 hw) (tw71 hw) fa2 pl8 (by decide) (lenOf pd8 rfl) rfl (fun m => ef_k_reg m p) _ (k_reg hw h hz p fa4 fa6) 0 rfl (Nat.le_of_eq rfl) (by decide) (by decide) (by decide) (by decide) rfl ?_
  refine Go.aload_n 5 d7_4 rfl rfl rfl ?_
  refine Go.callVIp [] [.int ((List.length xs).toInt32)] 8 d7_5 (tw67 hw) (tw68 hw) (tw70 hw) (tw69 hw) (tw18 hw) (tw71 hw) fa3 pl8 (by decide) (lenOf pd8 rfl) rfl (fun m => ef_k_reg m q) _ (k_reg hw h hz q fa5 fa7) 1 rfl (Nat.le_of_eq rfl) (by decide) (by decide) (by decide) (by decide) rfl ?_
  refine Go.callSIp [.int ((List.length xs).toInt32), .int ((List.length ys).toInt32)] [] 11 d7_8 (tw72 hw) (tw73 hw) (tw36 hw) (tw74 hw) pl9 (by decide) (lenOf pd9 rfl) rfl (fun m => ef_k_max m ((List.length xs).toInt32) ((List.length ys).toInt32)) _ (k_max hw h hz (((List.length xs).toInt32)) (((List.length ys).toInt32))) 0 rfl (Nat.le_of_eq rfl) (by decide) (by decide) (by decide) (by decide) rfl ?_
  refine Go.istore_n 12 #[.val (.ref e), .val (.ref p), .val (.ref q), .val (.int (if ((List.length xs).toInt32) < ((List.length ys).toInt32) then ((List.length ys).toInt32) else ((List.length xs).toInt32))), .unset, .unset] d7_11 rfl rfl ?_
  refine Go.iconst 13 (0) d7_12 (by decide) rfl ?_
  refine Go.istore 15 #[.val (.ref e), .val (.ref p), .val (.ref q), .val (.int (if ((List.length xs).toInt32) < ((List.length ys).toInt32) then ((List.length ys).toInt32) else ((List.length xs).toInt32))), .val (.int (0 : Int32)), .unset] d7_13 rfl rfl ?_
  refine Go.aload_n 16 d7_15 rfl rfl rfl ?_
  refine Go.callUIp [] [] 19 d7_16 (tw75 hw) (tw76 hw) (tw77 hw) (tw79 hw) (tw78 hw) (tw80 hw) (tw81 hw) fa0 pl10 (by decide) (lenOf pd10 rfl) rfl (fun m => ef_k_ord m e) _ (k_ord hw h hz e fa1) 0 rfl (Nat.le_of_eq rfl) (by decide) (by decide) (by decide) (by decide) rfl ?_
  refine Go.tsw (49) 68 d7_19 (by decide) (by decide) (by decide) (by decide) ?_
  refine Go.aload_n 69 d7_68 rfl rfl rfl ?_
  refine Go.callVIp [] [] 72 d7_69 (tw67 hw) (tw68 hw) (tw70 hw) (tw69 hw) (tw18 hw) (tw71 hw) fa2 pl8 (by decide) (lenOf pd8 rfl) rfl (fun m => ef_k_reg m p) _ (k_reg hw h hz p fa4 fa6) 0 rfl (Nat.le_of_eq rfl) (by decide) (by decide) (by decide) (by decide) rfl ?_
  refine Go.aload_n 73 d7_72 rfl rfl rfl ?_
  refine Go.callVIp [] [.int ((List.length xs).toInt32)] 76 d7_73 (tw67 hw) (tw68 hw) (tw70 hw) (tw69 hw) (tw18 hw) (tw71 hw) fa3 pl8 (by decide) (lenOf pd8 rfl) rfl (fun m => ef_k_reg m q) _ (k_reg hw h hz q fa5 fa7) 1 rfl (Nat.le_of_eq rfl) (by decide) (by decide) (by decide) (by decide) rfl ?_
  refine Go.callSIp [.int ((List.length xs).toInt32), .int ((List.length ys).toInt32)] [] 79 d7_76 (tw93 hw) (tw94 hw) (tw95 hw) (tw96 hw) pl13 (by decide) (lenOf pd13 rfl) rfl (fun m => ef_k_icmp m ((List.length xs).toInt32) ((List.length ys).toInt32)) _ (k_icmp hw h hz (((List.length xs).toInt32)) (((List.length ys).toInt32))) 0 rfl (Nat.le_of_eq rfl) (by decide) (by decide) (by decide) (by decide) rfl ?_
  refine Go.istore 81 #[.val (.ref e), .val (.ref p), .val (.ref q), .val (.int (if ((List.length xs).toInt32) < ((List.length ys).toInt32) then ((List.length ys).toInt32) else ((List.length xs).toInt32))), .val (.int (if ((List.length xs).toInt32) < ((List.length ys).toInt32) then (-1 : Int32) else (if ((List.length xs).toInt32) = ((List.length ys).toInt32) then (0 : Int32) else (1 : Int32)))), .unset] d7_79 rfl rfl ?_
  refine Go.goto 179 d7_81 (by decide) (by decide) ?_
  refine Go.iload 181 d7_179 rfl rfl ?_
  refine Go.ireturn d7_181 rfl (by decide) (by decide) ?_
  exact ⟨if_pos hlt, rfl⟩

theorem ef_k_cmp_a4 (m : MethodId) (x0 : Addr) (x1 : Addr) (x2 : Addr) : entryFrame m #[(.ref x0), (.ref x1), (.ref x2)] 6 = mkF m 0 #[.val (.ref x0), .val (.ref x1), .val (.ref x2), .unset, .unset, .unset] [] := by first | (simp [entryFrame, mkF, argsToLocals, Value.category]; done) | rfl

set_option maxRecDepth 65536 in
set_option maxHeartbeats 40000000 in
theorem k_cmp_a4 {l : Launch} {Z : State} {a0 : Array Value} (hw : ∀ d ∈ tables_1, d.before a0 Z = true) {am : Addr} {bm : Addr} {xs : List Int32} {ys : List Int32} (h : Heap) (hz : Z.heap.size ≤ h.size) (e : Addr) (p : Addr) (q : Addr) (fa0 : Exa Z h e "dev/stablemate/solve/Criterion") (fa1 : Fld Z h e "java/lang/Enum" "ordinal" "I" (.int (4 : Int32))) (fa2 : Exa Z h p "dev/stablemate/solve/Profile") (fa3 : Exa Z h q "dev/stablemate/solve/Profile") (fa4 : Fld Z h p "dev/stablemate/solve/Profile" "counts" "[I" (.ref am)) (fa5 : Fld Z h q "dev/stablemate/solve/Profile" "counts" "[I" (.ref bm)) (fa6 : Ari Z h am .int xs) (fa7 : Ari Z h bm .int ys) (hlt : (List.length xs).toInt32 < (List.length ys).toInt32) (hx : xs.length ≤ 4) (hy : ys.length ≤ 4) (hp : 1 ≤ ys.length → 0 < own_last ys)   : Go l Z (⟨"dev/stablemate/solve/Criterion", "compare", "(Ldev/stablemate/solve/Profile;Ldev/stablemate/solve/Profile;)I"⟩ : MethodName) prog_18_method_6_code 6 (Option.some Jvm.ClassFile.FieldType.int) ({ frames := 1, cells := 0, slots := 0, locals := 32 } : Room) (QI fun rz h' => rz = (-1 : Int32) ∧ h' = h) 0 0 h 0 #[.val (.ref e), .val (.ref p), .val (.ref q), .unset, .unset, .unset] [] := by
  refine Go.aload_n 1 d7_0 rfl rfl rfl ?_
  refine Go.callVIp [] [] 4 d7_1 (tw67 hw) (tw68 hw) (tw70 hw) (tw69 hw) (tw18 hw) (tw71 hw) fa2 pl8 (by decide) (lenOf pd8 rfl) rfl (fun m => ef_k_reg m p) _ (k_reg hw h hz p fa4 fa6) 0 rfl (Nat.le_of_eq rfl) (by decide) (by decide) (by decide) (by decide) rfl ?_
  refine Go.aload_n 5 d7_4 rfl rfl rfl ?_
  refine Go.callVIp [] [.int ((List.length xs).toInt32)] 8 d7_5 (tw67 hw) (tw68 hw) (tw70 hw) (tw69 hw) (tw18 hw) (tw71 hw) fa3 pl8 (by decide) (lenOf pd8 rfl) rfl (fun m => ef_k_reg m q) _ (k_reg hw h hz q fa5 fa7) 1 rfl (Nat.le_of_eq rfl) (by decide) (by decide) (by decide) (by decide) rfl ?_
  refine Go.callSIp [.int ((List.length xs).toInt32), .int ((List.length ys).toInt32)] [] 11 d7_8 (tw72 hw) (tw73 hw) (tw36 hw) (tw74 hw) pl9 (by decide) (lenOf pd9 rfl) rfl (fun m => ef_k_max m ((List.length xs).toInt32) ((List.length ys).toInt32)) _ (k_max hw h hz (((List.length xs).toInt32)) (((List.length ys).toInt32))) 0 rfl (Nat.le_of_eq rfl) (by decide) (by decide) (by decide) (by decide) rfl ?_
  refine Go.istore_n 12 #[.val (.ref e), .val (.ref p), .val (.ref q), .val (.int (if ((List.length xs).toInt32) < ((List.length ys).toInt32) then ((List.length ys).toInt32) else ((List.length xs).toInt32))), .unset, .unset] d7_11 rfl rfl ?_
  refine Go.iconst 13 (0) d7_12 (by decide) rfl ?_
  refine Go.istore 15 #[.val (.ref e), .val (.ref p), .val (.ref q), .val (.int (if ((List.length xs).toInt32) < ((List.length ys).toInt32) then ((List.length ys).toInt32) else ((List.length xs).toInt32))), .val (.int (0 : Int32)), .unset] d7_13 rfl rfl ?_
  refine Go.aload_n 16 d7_15 rfl rfl rfl ?_
  refine Go.callUIp [] [] 19 d7_16 (tw75 hw) (tw76 hw) (tw77 hw) (tw79 hw) (tw78 hw) (tw80 hw) (tw81 hw) fa0 pl10 (by decide) (lenOf pd10 rfl) rfl (fun m => ef_k_ord m e) _ (k_ord hw h hz e fa1) 0 rfl (Nat.le_of_eq rfl) (by decide) (by decide) (by decide) (by decide) rfl ?_
  refine Go.tsw (123) 142 d7_19 (by decide) (by decide) (by decide) (by decide) ?_
  have hl := own_lens hlt hx hy
  have h1 := own_ge1 hl
  rw [if_pos hlt]
  refine Go.iload_n 143 d7_142 rfl rfl ?_
  refine Go.istore 145 #[.val (.ref e), .val (.ref p), .val (.ref q), .val (.int (List.length ys).toInt32), .val (.int (0 : Int32)), .val (.int (List.length ys).toInt32)] d7_143 rfl rfl ?_
  refine Go.iload 147 d7_145 rfl rfl ?_
  refine Go.iconst 148 (1) d7_147 (by decide) rfl ?_
  refine Go.icmp_lt 179 151 d7_148 (by decide) (by decide) rfl (fun c13 => ?_) (fun c13 => ?_)
  ·
    exact absurd c13 h1
  ·
    refine Go.iload 153 d7_151 rfl rfl ?_
    refine Go.if_ne 179 156 d7_153 (by decide) (by decide) rfl (fun c => absurd c (by decide)) (fun _ => ?_)
    refine Go.aload_n 157 d7_156 rfl rfl rfl ?_
    refine Go.iload 159 d7_157 rfl rfl ?_
    refine Go.callVIp [.int (List.length ys).toInt32] [] 162 d7_159 (tw98 hw) (tw99 hw) (tw101 hw) (tw100 hw) (tw18 hw) (tw102 hw) fa2 pl14 (by decide) (lenOf pd14 rfl) rfl (fun m => ef_k_cntz m p (List.length ys).toInt32) _ (k_cntz hw h hz p ((List.length ys).toInt32) fa4 fa6 h1 hlt) 0 rfl (Nat.le_of_eq rfl) (by decide) (by decide) (by decide) (by decide) rfl ?_
    refine Go.aload_n 163 d7_162 rfl rfl rfl ?_
    refine Go.iload 165 d7_163 rfl rfl ?_
    refine Go.callVIp [.int (List.length ys).toInt32] [.int (0 : Int32)] 168 d7_165 (tw98 hw) (tw99 hw) (tw101 hw) (tw100 hw) (tw18 hw) (tw102 hw) fa3 pl14 (by decide) (lenOf pd14 rfl) rfl (fun m => ef_k_cntl m q (List.length ys).toInt32) _ (k_cntl hw h hz q ((List.length ys).toInt32) fa5 fa7 h1 rfl hl) 1 rfl (Nat.le_of_eq rfl) (by decide) (by decide) (by decide) (by decide) rfl ?_
    refine Go.callSIp [.int (0 : Int32), .int (own_last ys)] [] 171 d7_168 (tw93 hw) (tw94 hw) (tw95 hw) (tw96 hw) pl13 (by decide) (lenOf pd13 rfl) rfl (fun m => ef_k_icmp m (0 : Int32) (own_last ys)) _ (k_icmp hw h hz (0 : Int32) ((own_last ys))) 0 rfl (Nat.le_of_eq rfl) (by decide) (by decide) (by decide) (by decide) rfl ?_
    rw [if_pos (hp hl.1)]
    refine Go.istore 173 #[.val (.ref e), .val (.ref p), .val (.ref q), .val (.int (List.length ys).toInt32), .val (.int (-1 : Int32)), .val (.int (List.length ys).toInt32)] d7_171 rfl rfl ?_
    refine Go.iinc 176 (-1) #[.val (.ref e), .val (.ref p), .val (.ref q), .val (.int (List.length ys).toInt32), .val (.int (-1 : Int32)), .val (.int ((List.length ys).toInt32 + (-1 : Int32)))] d7_173 (by decide) rfl rfl rfl ?_
    refine Go.goto 145 d7_176 (by decide) (by decide) ?_
    refine Go.iload 147 d7_145 rfl rfl ?_
    refine Go.iconst 148 (1) d7_147 (by decide) rfl ?_
    refine Go.icmp_lt 179 151 d7_148 (by decide) (by decide) rfl (fun c24 => ?_) (fun c24 => ?_)
    ·
      refine Go.iload 181 d7_179 rfl rfl ?_
      refine Go.ireturn d7_181 rfl (by decide) (by decide) ?_
      exact ⟨by decide, rfl⟩
    ·
      refine Go.iload 153 d7_151 rfl rfl ?_
      refine Go.if_ne 179 156 d7_153 (by decide) (by decide) rfl (fun _ => ?_) (fun c => absurd c (by decide))
      refine Go.iload 181 d7_179 rfl rfl ?_
      refine Go.ireturn d7_181 rfl (by decide) (by decide) ?_
      exact ⟨by decide, rfl⟩

theorem d6_0 : decode prog_18_method_7_code 0 = .ok (.aload_n 0, 1) := by decide +kernel
theorem d6_1 : decode prog_18_method_7_code 1 = .ok (.getstatic 7, 3) := by decide +kernel
theorem d6_4 : decode prog_18_method_7_code 4 = .ok (.if_acmp .eq 10, 3) := by decide +kernel
theorem d6_7 : decode prog_18_method_7_code 7 = .ok (.aload_n 0, 1) := by decide +kernel
theorem d6_8 : decode prog_18_method_7_code 8 = .ok (.getstatic 16, 3) := by decide +kernel
theorem d6_11 : decode prog_18_method_7_code 11 = .ok (.if_acmp .ne 7, 3) := by decide +kernel
theorem d6_14 : decode prog_18_method_7_code 14 = .ok (.iconst 1, 1) := by decide +kernel
theorem d6_15 : decode prog_18_method_7_code 15 = .ok (.goto 4, 3) := by decide +kernel
theorem d6_18 : decode prog_18_method_7_code 18 = .ok (.iconst 0, 1) := by decide +kernel
theorem d6_19 : decode prog_18_method_7_code 19 = .ok (.ireturn, 1) := by decide +kernel

theorem pd6 : parseMethodDescriptor "()Z" = some ⟨[], some .boolean⟩ := by decide +kernel
theorem pl6 : plainFor (⟨"dev/stablemate/solve/Criterion", "putsRegretFirst", "()Z"⟩ : MethodName) = true := by first | exact plainFor_of_name (by first | (simp [plainName, overriddenIn]; done) | decide +kernel) | decide +kernel

theorem ef_k_puts0 (m : MethodId) (x0 : Addr) : entryFrame m #[(.ref x0)] 1 = mkF m 0 #[.val (.ref x0)] [] := by first | (simp [entryFrame, mkF, argsToLocals, Value.category]; done) | rfl

set_option maxRecDepth 65536 in
set_option maxHeartbeats 40000000 in
theorem k_puts0 {l : Launch} {Z : State} {a0 : Array Value} (hw : ∀ d ∈ tables_1, d.before a0 Z = true) {rM : Addr} {rG : Addr} (h : Heap) (hz : Z.heap.size ≤ h.size) (e : Addr) (fa0 : Sta Z h "dev/stablemate/solve/Criterion" "MINIMUM_REGRET" "Ldev/stablemate/solve/Criterion;" (.ref rM)) (fa1 : Sta Z h "dev/stablemate/solve/Criterion" "GENEROUS" "Ldev/stablemate/solve/Criterion;" (.ref rG)) (fa2 : Fld Z h rM "java/lang/Enum" "ordinal" "I" (.int (1 : Int32))) (fa3 : Fld Z h rG "java/lang/Enum" "ordinal" "I" (.int (4 : Int32))) (fa4 : Fld Z h e "java/lang/Enum" "ordinal" "I" (.int (0 : Int32)))    : Go l Z (⟨"dev/stablemate/solve/Criterion", "putsRegretFirst", "()Z"⟩ : MethodName) prog_18_method_7_code 1 (Option.some Jvm.ClassFile.FieldType.boolean) ({ frames := 0, cells := 0, slots := 0, locals := 0 } : Room) (QI fun rz h' => rz = (0 : Int32) ∧ h' = h) 0 0 h 0 #[.val (.ref e)] [] := by
  refine Go.aload_n 1 d6_0 rfl rfl rfl ?_
  refine Go.getstatic 4 d6_1 (tw60 hw) fa0 rfl ?_
  refine Go.acmp_eq 14 7 d6_4 (by decide) (by decide) rfl (fun c => absurd c (own_nef fa4 fa2 (fun e => absurd (Value.int.inj e) (by decide)))) (fun _ => ?_)
  refine Go.aload_n 8 d6_7 rfl rfl rfl ?_
  refine Go.getstatic 11 d6_8 (tw61 hw) fa1 rfl ?_
  refine Go.acmp_ne 18 14 d6_11 (by decide) (by decide) rfl (fun _ => ?_) (fun c => absurd c (own_nef fa4 fa3 (fun e => absurd (Value.int.inj e) (by decide))))
  refine Go.iconst 19 (0) d6_18 (by decide) rfl ?_
  refine Go.nreturn (t := .boolean) (z' := (0 : Int32)) d6_19 rfl (by simp) (by decide) (by decide) (by decide) ?_
  exact ⟨rfl, rfl⟩

theorem ef_k_puts1 (m : MethodId) (x0 : Addr) : entryFrame m #[(.ref x0)] 1 = mkF m 0 #[.val (.ref x0)] [] := by first | (simp [entryFrame, mkF, argsToLocals, Value.category]; done) | rfl

set_option maxRecDepth 65536 in
set_option maxHeartbeats 40000000 in
theorem k_puts1 {l : Launch} {Z : State} {a0 : Array Value} (hw : ∀ d ∈ tables_1, d.before a0 Z = true) {rG : Addr} (h : Heap) (hz : Z.heap.size ≤ h.size) (rM : Addr) (fa0 : Sta Z h "dev/stablemate/solve/Criterion" "MINIMUM_REGRET" "Ldev/stablemate/solve/Criterion;" (.ref rM)) (fa1 : Sta Z h "dev/stablemate/solve/Criterion" "GENEROUS" "Ldev/stablemate/solve/Criterion;" (.ref rG)) (fa2 : Fld Z h rM "java/lang/Enum" "ordinal" "I" (.int (1 : Int32))) (fa3 : Fld Z h rG "java/lang/Enum" "ordinal" "I" (.int (4 : Int32)))    : Go l Z (⟨"dev/stablemate/solve/Criterion", "putsRegretFirst", "()Z"⟩ : MethodName) prog_18_method_7_code 1 (Option.some Jvm.ClassFile.FieldType.boolean) ({ frames := 0, cells := 0, slots := 0, locals := 0 } : Room) (QI fun rz h' => rz = (1 : Int32) ∧ h' = h) 0 0 h 0 #[.val (.ref rM)] [] := by
  refine Go.aload_n 1 d6_0 rfl rfl rfl ?_
  refine Go.getstatic 4 d6_1 (tw60 hw) fa0 rfl ?_
  refine Go.acmp 14 true d6_4 rfl rfl (by simp) (by decide) (by decide) ?_
  refine Go.iconst 15 (1) d6_14 (by decide) rfl ?_
  refine Go.goto 19 d6_15 (by decide) (by decide) ?_
  refine Go.nreturn (t := .boolean) (z' := (1 : Int32)) d6_19 rfl (by simp) (by decide) (by decide) (by decide) ?_
  exact ⟨rfl, rfl⟩

theorem ef_k_puts2 (m : MethodId) (x0 : Addr) : entryFrame m #[(.ref x0)] 1 = mkF m 0 #[.val (.ref x0)] [] := by first | (simp [entryFrame, mkF, argsToLocals, Value.category]; done) | rfl

set_option maxRecDepth 65536 in
set_option maxHeartbeats 40000000 in
theorem k_puts2 {l : Launch} {Z : State} {a0 : Array Value} (hw : ∀ d ∈ tables_1, d.before a0 Z = true) {rM : Addr} {rG : Addr} (h : Heap) (hz : Z.heap.size ≤ h.size) (e : Addr) (fa0 : Sta Z h "dev/stablemate/solve/Criterion" "MINIMUM_REGRET" "Ldev/stablemate/solve/Criterion;" (.ref rM)) (fa1 : Sta Z h "dev/stablemate/solve/Criterion" "GENEROUS" "Ldev/stablemate/solve/Criterion;" (.ref rG)) (fa2 : Fld Z h rM "java/lang/Enum" "ordinal" "I" (.int (1 : Int32))) (fa3 : Fld Z h rG "java/lang/Enum" "ordinal" "I" (.int (4 : Int32))) (fa4 : Fld Z h e "java/lang/Enum" "ordinal" "I" (.int (2 : Int32)))    : Go l Z (⟨"dev/stablemate/solve/Criterion", "putsRegretFirst", "()Z"⟩ : MethodName) prog_18_method_7_code 1 (Option.some Jvm.ClassFile.FieldType.boolean) ({ frames := 0, cells := 0, slots := 0, locals := 0 } : Room) (QI fun rz h' => rz = (0 : Int32) ∧ h' = h) 0 0 h 0 #[.val (.ref e)] [] := by
  refine Go.aload_n 1 d6_0 rfl rfl rfl ?_
  refine Go.getstatic 4 d6_1 (tw60 hw) fa0 rfl ?_
  refine Go.acmp_eq 14 7 d6_4 (by decide) (by decide) rfl (fun c => absurd c (own_nef fa4 fa2 (fun e => absurd (Value.int.inj e) (by decide)))) (fun _ => ?_)
  refine Go.aload_n 8 d6_7 rfl rfl rfl ?_
  refine Go.getstatic 11 d6_8 (tw61 hw) fa1 rfl ?_
  refine Go.acmp_ne 18 14 d6_11 (by decide) (by decide) rfl (fun _ => ?_) (fun c => absurd c (own_nef fa4 fa3 (fun e => absurd (Value.int.inj e) (by decide))))
  refine Go.iconst 19 (0) d6_18 (by decide) rfl ?_
  refine Go.nreturn (t := .boolean) (z' := (0 : Int32)) d6_19 rfl (by simp) (by decide) (by decide) (by decide) ?_
  exact ⟨rfl, rfl⟩

theorem ef_k_puts3 (m : MethodId) (x0 : Addr) : entryFrame m #[(.ref x0)] 1 = mkF m 0 #[.val (.ref x0)] [] := by first | (simp [entryFrame, mkF, argsToLocals, Value.category]; done) | rfl

set_option maxRecDepth 65536 in
set_option maxHeartbeats 40000000 in
theorem k_puts3 {l : Launch} {Z : State} {a0 : Array Value} (hw : ∀ d ∈ tables_1, d.before a0 Z = true) {rM : Addr} {rG : Addr} (h : Heap) (hz : Z.heap.size ≤ h.size) (e : Addr) (fa0 : Sta Z h "dev/stablemate/solve/Criterion" "MINIMUM_REGRET" "Ldev/stablemate/solve/Criterion;" (.ref rM)) (fa1 : Sta Z h "dev/stablemate/solve/Criterion" "GENEROUS" "Ldev/stablemate/solve/Criterion;" (.ref rG)) (fa2 : Fld Z h rM "java/lang/Enum" "ordinal" "I" (.int (1 : Int32))) (fa3 : Fld Z h rG "java/lang/Enum" "ordinal" "I" (.int (4 : Int32))) (fa4 : Fld Z h e "java/lang/Enum" "ordinal" "I" (.int (3 : Int32)))    : Go l Z (⟨"dev/stablemate/solve/Criterion", "putsRegretFirst", "()Z"⟩ : MethodName) prog_18_method_7_code 1 (Option.some Jvm.ClassFile.FieldType.boolean) ({ frames := 0, cells := 0, slots := 0, locals := 0 } : Room) (QI fun rz h' => rz = (0 : Int32) ∧ h' = h) 0 0 h 0 #[.val (.ref e)] [] := by
  refine Go.aload_n 1 d6_0 rfl rfl rfl ?_
  refine Go.getstatic 4 d6_1 (tw60 hw) fa0 rfl ?_
  refine Go.acmp_eq 14 7 d6_4 (by decide) (by decide) rfl (fun c => absurd c (own_nef fa4 fa2 (fun e => absurd (Value.int.inj e) (by decide)))) (fun _ => ?_)
  refine Go.aload_n 8 d6_7 rfl rfl rfl ?_
  refine Go.getstatic 11 d6_8 (tw61 hw) fa1 rfl ?_
  refine Go.acmp_ne 18 14 d6_11 (by decide) (by decide) rfl (fun _ => ?_) (fun c => absurd c (own_nef fa4 fa3 (fun e => absurd (Value.int.inj e) (by decide))))
  refine Go.iconst 19 (0) d6_18 (by decide) rfl ?_
  refine Go.nreturn (t := .boolean) (z' := (0 : Int32)) d6_19 rfl (by simp) (by decide) (by decide) (by decide) ?_
  exact ⟨rfl, rfl⟩

theorem ef_k_puts4 (m : MethodId) (x0 : Addr) : entryFrame m #[(.ref x0)] 1 = mkF m 0 #[.val (.ref x0)] [] := by first | (simp [entryFrame, mkF, argsToLocals, Value.category]; done) | rfl

set_option maxRecDepth 65536 in
set_option maxHeartbeats 40000000 in
theorem k_puts4 {l : Launch} {Z : State} {a0 : Array Value} (hw : ∀ d ∈ tables_1, d.before a0 Z = true) {rM : Addr} (h : Heap) (hz : Z.heap.size ≤ h.size) (rG : Addr) (fa0 : Sta Z h "dev/stablemate/solve/Criterion" "MINIMUM_REGRET" "Ldev/stablemate/solve/Criterion;" (.ref rM)) (fa1 : Sta Z h "dev/stablemate/solve/Criterion" "GENEROUS" "Ldev/stablemate/solve/Criterion;" (.ref rG)) (fa2 : Fld Z h rM "java/lang/Enum" "ordinal" "I" (.int (1 : Int32))) (fa3 : Fld Z h rG "java/lang/Enum" "ordinal" "I" (.int (4 : Int32)))    : Go l Z (⟨"dev/stablemate/solve/Criterion", "putsRegretFirst", "()Z"⟩ : MethodName) prog_18_method_7_code 1 (Option.some Jvm.ClassFile.FieldType.boolean) ({ frames := 0, cells := 0, slots := 0, locals := 0 } : Room) (QI fun rz h' => rz = (1 : Int32) ∧ h' = h) 0 0 h 0 #[.val (.ref rG)] [] := by
  refine Go.aload_n 1 d6_0 rfl rfl rfl ?_
  refine Go.getstatic 4 d6_1 (tw60 hw) fa0 rfl ?_
  refine Go.acmp_eq 14 7 d6_4 (by decide) (by decide) rfl (fun c => absurd c (own_nef fa3 fa2 (fun e => absurd (Value.int.inj e) (by decide)))) (fun _ => ?_)
  refine Go.aload_n 8 d6_7 rfl rfl rfl ?_
  refine Go.getstatic 11 d6_8 (tw61 hw) fa1 rfl ?_
  refine Go.acmp 14 true d6_11 rfl rfl (by simp) (by decide) (by decide) ?_
  refine Go.iconst 15 (1) d6_14 (by decide) rfl ?_
  refine Go.goto 19 d6_15 (by decide) (by decide) ?_
  refine Go.nreturn (t := .boolean) (z' := (1 : Int32)) d6_19 rfl (by simp) (by decide) (by decide) (by decide) ?_
  exact ⟨rfl, rfl⟩

theorem ef_law0 (m : MethodId) (x0 : Int32) (x1 : Int32) (x2 : Int32) : entryFrame m #[(.int x0), (.int x1), (.int x2)] maxLocals = mkF m 0 #[.val (.int x0), .val (.int x1), .val (.int x2), .unset, .unset, .unset, .unset, .unset, .unset, .unset, .unset, .unset, .unset, .unset, .unset] [] := by first | (simp [entryFrame, mkF, argsToLocals, Value.category, maxLocals]; done) | rfl

set_option maxRecDepth 65536 in
set_option maxHeartbeats 40000000 in
theorem law0 {l : Launch} {Z : State} {a0 : Array Value} (hw : ∀ d ∈ tables_1, d.before a0 Z = true) {r_EGALITARIAN : Addr} {r_MINIMUM_REGRET : Addr} {r_FIRST_CHOICE_MAXIMAL : Addr} {r_RANK_MAXIMAL : Addr} {r_GENEROUS : Addr} (h : Heap) (hz : Z.heap.size ≤ h.size) (i0 : Int32) (i1 : Int32) (i2 : Int32) (fa0 : Sta Z h "dev/stablemate/solve/Criterion" "EGALITARIAN" "Ldev/stablemate/solve/Criterion;" (.ref r_EGALITARIAN)) (fa1 : Exa Z h r_EGALITARIAN "dev/stablemate/solve/Criterion") (fa2 : Sta Z h "dev/stablemate/solve/Criterion" "MINIMUM_REGRET" "Ldev/stablemate/solve/Criterion;" (.ref r_MINIMUM_REGRET)) (fa3 : Exa Z h r_MINIMUM_REGRET "dev/stablemate/solve/Criterion") (fa4 : Sta Z h "dev/stablemate/solve/Criterion" "FIRST_CHOICE_MAXIMAL" "Ldev/stablemate/solve/Criterion;" (.ref r_FIRST_CHOICE_MAXIMAL)) (fa5 : Exa Z h r_FIRST_CHOICE_MAXIMAL "dev/stablemate/solve/Criterion") (fa6 : Sta Z h "dev/stablemate/solve/Criterion" "RANK_MAXIMAL" "Ldev/stablemate/solve/Criterion;" (.ref r_RANK_MAXIMAL)) (fa7 : Exa Z h r_RANK_MAXIMAL "dev/stablemate/solve/Criterion") (fa8 : Sta Z h "dev/stablemate/solve/Criterion" "GENEROUS" "Ldev/stablemate/solve/Criterion;" (.ref r_GENEROUS)) (fa9 : Exa Z h r_GENEROUS "dev/stablemate/solve/Criterion") (fa10 : Fld Z h r_EGALITARIAN "java/lang/Enum" "ordinal" "I" (.int (0 : Int32))) (fa11 : Fld Z h r_MINIMUM_REGRET "java/lang/Enum" "ordinal" "I" (.int (1 : Int32))) (fa12 : Fld Z h r_GENEROUS "java/lang/Enum" "ordinal" "I" (.int (4 : Int32))) (fa13 : Fld Z h r_RANK_MAXIMAL "java/lang/Enum" "ordinal" "I" (.int (3 : Int32))) (fa14 : Fld Z h r_FIRST_CHOICE_MAXIMAL "java/lang/Enum" "ordinal" "I" (.int (2 : Int32)))    : Go l Z x code maxLocals ret room_1 (QI fun z h' => z = 1) 0 0 h 0 #[.val (.int i0), .val (.int i1), .val (.int i2), .unset, .unset, .unset, .unset, .unset, .unset, .unset, .unset, .unset, .unset, .unset, .unset] [] := by
  refine Go.iconst 1 (5) at_0 (by decide) rfl ?_
  refine Go.newR (cap := 5) (vs := [.null, .null, .null, .null, .null]) 4 at_1 (tw0 hw) (tw1 hw) (by decide) (by decide) (by decide) rfl (by decide) (by decide) rfl (fun a1 h2 q3 E4 A5 => ?_)
  have ne6 : r_EGALITARIAN ≠ a1 := fun e => absurd fa1.lt (by rw [e, q3]; exact Nat.lt_irrefl _)
  have ne7 : r_MINIMUM_REGRET ≠ a1 := fun e => absurd fa3.lt (by rw [e, q3]; exact Nat.lt_irrefl _)
  have ne8 : r_FIRST_CHOICE_MAXIMAL ≠ a1 := fun e => absurd fa5.lt (by rw [e, q3]; exact Nat.lt_irrefl _)
  have ne9 : r_RANK_MAXIMAL ≠ a1 := fun e => absurd fa7.lt (by rw [e, q3]; exact Nat.lt_irrefl _)
  have ne10 : r_GENEROUS ≠ a1 := fun e => absurd fa9.lt (by rw [e, q3]; exact Nat.lt_irrefl _)
  have ge11 : Z.heap.size ≤ a1 := (Eq.symm q3) ▸ hz
  have f12 : Sta Z h2 "dev/stablemate/solve/Criterion" "EGALITARIAN" "Ldev/stablemate/solve/Criterion;" (.ref r_EGALITARIAN) := fa0.ext E4
  have f13 : Exa Z h2 r_EGALITARIAN "dev/stablemate/solve/Criterion" := fa1.ext E4
  have f14 : Sta Z h2 "dev/stablemate/solve/Criterion" "MINIMUM_REGRET" "Ldev/stablemate/solve/Criterion;" (.ref r_MINIMUM_REGRET) := fa2.ext E4
  have f15 : Exa Z h2 r_MINIMUM_REGRET "dev/stablemate/solve/Criterion" := fa3.ext E4
  have f16 : Sta Z h2 "dev/stablemate/solve/Criterion" "FIRST_CHOICE_MAXIMAL" "Ldev/stablemate/solve/Criterion;" (.ref r_FIRST_CHOICE_MAXIMAL) := fa4.ext E4
  have f17 : Exa Z h2 r_FIRST_CHOICE_MAXIMAL "dev/stablemate/solve/Criterion" := fa5.ext E4
  have f18 : Sta Z h2 "dev/stablemate/solve/Criterion" "RANK_MAXIMAL" "Ldev/stablemate/solve/Criterion;" (.ref r_RANK_MAXIMAL) := fa6.ext E4
  have f19 : Exa Z h2 r_RANK_MAXIMAL "dev/stablemate/solve/Criterion" := fa7.ext E4
  have f20 : Sta Z h2 "dev/stablemate/solve/Criterion" "GENEROUS" "Ldev/stablemate/solve/Criterion;" (.ref r_GENEROUS) := fa8.ext E4
  have f21 : Exa Z h2 r_GENEROUS "dev/stablemate/solve/Criterion" := fa9.ext E4
  have f22 : Fld Z h2 r_EGALITARIAN "java/lang/Enum" "ordinal" "I" (.int (0 : Int32)) := fa10.ext E4
  have f23 : Fld Z h2 r_MINIMUM_REGRET "java/lang/Enum" "ordinal" "I" (.int (1 : Int32)) := fa11.ext E4
  have f24 : Fld Z h2 r_GENEROUS "java/lang/Enum" "ordinal" "I" (.int (4 : Int32)) := fa12.ext E4
  have f25 : Fld Z h2 r_RANK_MAXIMAL "java/lang/Enum" "ordinal" "I" (.int (3 : Int32)) := fa13.ext E4
  have f26 : Fld Z h2 r_FIRST_CHOICE_MAXIMAL "java/lang/Enum" "ordinal" "I" (.int (2 : Int32)) := fa14.ext E4
  have zs27 : Z.heap.size ≤ h2.size := Nat.le_trans hz E4.1
  refine Go.dup 5 at_4 rfl rfl ?_
  refine Go.iconst 6 (0) at_5 (by decide) rfl ?_
  refine Go.getstatic 9 at_6 (tw2 hw) f12 rfl ?_
  refine Go.aastore (0) ([.ref r_EGALITARIAN, .null, .null, .null, .null]) 10 at_9 A5 (Ins.self f13) (by decide) (by decide) (by decide : (0 : Nat) < 5) rfl ge11 rfl (fun h28 W29 A30 => ?_)
  have f31 : Sta Z h28 "dev/stablemate/solve/Criterion" "EGALITARIAN" "Ldev/stablemate/solve/Criterion;" (.ref r_EGALITARIAN) := f12.wr W29
  have f32 : Exa Z h28 r_EGALITARIAN "dev/stablemate/solve/Criterion" := f13.wr W29
  have f33 : Sta Z h28 "dev/stablemate/solve/Criterion" "MINIMUM_REGRET" "Ldev/stablemate/solve/Criterion;" (.ref r_MINIMUM_REGRET) := f14.wr W29
  have f34 : Exa Z h28 r_MINIMUM_REGRET "dev/stablemate/solve/Criterion" := f15.wr W29
  have f35 : Sta Z h28 "dev/stablemate/solve/Criterion" "FIRST_CHOICE_MAXIMAL" "Ldev/stablemate/solve/Criterion;" (.ref r_FIRST_CHOICE_MAXIMAL) := f16.wr W29
  have f36 : Exa Z h28 r_FIRST_CHOICE_MAXIMAL "dev/stablemate/solve/Criterion" := f17.wr W29
  have f37 : Sta Z h28 "dev/stablemate/solve/Criterion" "RANK_MAXIMAL" "Ldev/stablemate/solve/Criterion;" (.ref r_RANK_MAXIMAL) := f18.wr W29
  have f38 : Exa Z h28 r_RANK_MAXIMAL "dev/stablemate/solve/Criterion" := f19.wr W29
  have f39 : Sta Z h28 "dev/stablemate/solve/Criterion" "GENEROUS" "Ldev/stablemate/solve/Criterion;" (.ref r_GENEROUS) := f20.wr W29
  have f40 : Exa Z h28 r_GENEROUS "dev/stablemate/solve/Criterion" := f21.wr W29
  have f41 : Fld Z h28 r_EGALITARIAN "java/lang/Enum" "ordinal" "I" (.int (0 : Int32)) := f22.other W29 (Or.inl ne6)
  have f42 : Fld Z h28 r_MINIMUM_REGRET "java/lang/Enum" "ordinal" "I" (.int (1 : Int32)) := f23.other W29 (Or.inl ne7)
  have f43 : Fld Z h28 r_GENEROUS "java/lang/Enum" "ordinal" "I" (.int (4 : Int32)) := f24.other W29 (Or.inl ne10)
  have f44 : Fld Z h28 r_RANK_MAXIMAL "java/lang/Enum" "ordinal" "I" (.int (3 : Int32)) := f25.other W29 (Or.inl ne9)
  have f45 : Fld Z h28 r_FIRST_CHOICE_MAXIMAL "java/lang/Enum" "ordinal" "I" (.int (2 : Int32)) := f26.other W29 (Or.inl ne8)
  have zs46 : Z.heap.size ≤ h28.size := W29.size ▸ zs27
  refine Go.dup 11 at_10 rfl rfl ?_
  refine Go.iconst 12 (1) at_11 (by decide) rfl ?_
  refine Go.getstatic 15 at_12 (tw6 hw) f33 rfl ?_
  refine Go.aastore (1) ([.ref r_EGALITARIAN, .ref r_MINIMUM_REGRET, .null, .null, .null]) 16 at_15 A30 (Ins.self f34) (by decide) (by decide) (by decide : (1 : Nat) < 5) rfl ge11 rfl (fun h47 W48 A49 => ?_)
  have f50 : Sta Z h47 "dev/stablemate/solve/Criterion" "EGALITARIAN" "Ldev/stablemate/solve/Criterion;" (.ref r_EGALITARIAN) := f31.wr W48
  have f51 : Exa Z h47 r_EGALITARIAN "dev/stablemate/solve/Criterion" := f32.wr W48
  have f52 : Sta Z h47 "dev/stablemate/solve/Criterion" "MINIMUM_REGRET" "Ldev/stablemate/solve/Criterion;" (.ref r_MINIMUM_REGRET) := f33.wr W48
  have f53 : Exa Z h47 r_MINIMUM_REGRET "dev/stablemate/solve/Criterion" := f34.wr W48
  have f54 : Sta Z h47 "dev/stablemate/solve/Criterion" "FIRST_CHOICE_MAXIMAL" "Ldev/stablemate/solve/Criterion;" (.ref r_FIRST_CHOICE_MAXIMAL) := f35.wr W48
  have f55 : Exa Z h47 r_FIRST_CHOICE_MAXIMAL "dev/stablemate/solve/Criterion" := f36.wr W48
  have f56 : Sta Z h47 "dev/stablemate/solve/Criterion" "RANK_MAXIMAL" "Ldev/stablemate/solve/Criterion;" (.ref r_RANK_MAXIMAL) := f37.wr W48
  have f57 : Exa Z h47 r_RANK_MAXIMAL "dev/stablemate/solve/Criterion" := f38.wr W48
  have f58 : Sta Z h47 "dev/stablemate/solve/Criterion" "GENEROUS" "Ldev/stablemate/solve/Criterion;" (.ref r_GENEROUS) := f39.wr W48
  have f59 : Exa Z h47 r_GENEROUS "dev/stablemate/solve/Criterion" := f40.wr W48
  have f60 : Fld Z h47 r_EGALITARIAN "java/lang/Enum" "ordinal" "I" (.int (0 : Int32)) := f41.other W48 (Or.inl ne6)
  have f61 : Fld Z h47 r_MINIMUM_REGRET "java/lang/Enum" "ordinal" "I" (.int (1 : Int32)) := f42.other W48 (Or.inl ne7)
  have f62 : Fld Z h47 r_GENEROUS "java/lang/Enum" "ordinal" "I" (.int (4 : Int32)) := f43.other W48 (Or.inl ne10)
  have f63 : Fld Z h47 r_RANK_MAXIMAL "java/lang/Enum" "ordinal" "I" (.int (3 : Int32)) := f44.other W48 (Or.inl ne9)
  have f64 : Fld Z h47 r_FIRST_CHOICE_MAXIMAL "java/lang/Enum" "ordinal" "I" (.int (2 : Int32)) := f45.other W48 (Or.inl ne8)
  have zs65 : Z.heap.size ≤ h47.size := W48.size ▸ zs46
  refine Go.dup 17 at_16 rfl rfl ?_
  refine Go.iconst 18 (2) at_17 (by decide) rfl ?_
  refine Go.getstatic 21 at_18 (tw8 hw) f54 rfl ?_
  refine Go.aastore (2) ([.ref r_EGALITARIAN, .ref r_MINIMUM_REGRET, .ref r_FIRST_CHOICE_MAXIMAL, .null, .null]) 22 at_21 A49 (Ins.self f55) (by decide) (by decide) (by decide : (2 : Nat) < 5) rfl ge11 rfl (fun h66 W67 A68 => ?_)
  have f69 : Sta Z h66 "dev/stablemate/solve/Criterion" "EGALITARIAN" "Ldev/stablemate/solve/Criterion;" (.ref r_EGALITARIAN) := f50.wr W67
  have f70 : Exa Z h66 r_EGALITARIAN "dev/stablemate/solve/Criterion" := f51.wr W67
  have f71 : Sta Z h66 "dev/stablemate/solve/Criterion" "MINIMUM_REGRET" "Ldev/stablemate/solve/Criterion;" (.ref r_MINIMUM_REGRET) := f52.wr W67
  have f72 : Exa Z h66 r_MINIMUM_REGRET "dev/stablemate/solve/Criterion" := f53.wr W67
  have f73 : Sta Z h66 "dev/stablemate/solve/Criterion" "FIRST_CHOICE_MAXIMAL" "Ldev/stablemate/solve/Criterion;" (.ref r_FIRST_CHOICE_MAXIMAL) := f54.wr W67
  have f74 : Exa Z h66 r_FIRST_CHOICE_MAXIMAL "dev/stablemate/solve/Criterion" := f55.wr W67
  have f75 : Sta Z h66 "dev/stablemate/solve/Criterion" "RANK_MAXIMAL" "Ldev/stablemate/solve/Criterion;" (.ref r_RANK_MAXIMAL) := f56.wr W67
  have f76 : Exa Z h66 r_RANK_MAXIMAL "dev/stablemate/solve/Criterion" := f57.wr W67
  have f77 : Sta Z h66 "dev/stablemate/solve/Criterion" "GENEROUS" "Ldev/stablemate/solve/Criterion;" (.ref r_GENEROUS) := f58.wr W67
  have f78 : Exa Z h66 r_GENEROUS "dev/stablemate/solve/Criterion" := f59.wr W67
  have f79 : Fld Z h66 r_EGALITARIAN "java/lang/Enum" "ordinal" "I" (.int (0 : Int32)) := f60.other W67 (Or.inl ne6)
  have f80 : Fld Z h66 r_MINIMUM_REGRET "java/lang/Enum" "ordinal" "I" (.int (1 : Int32)) := f61.other W67 (Or.inl ne7)
  have f81 : Fld Z h66 r_GENEROUS "java/lang/Enum" "ordinal" "I" (.int (4 : Int32)) := f62.other W67 (Or.inl ne10)
  have f82 : Fld Z h66 r_RANK_MAXIMAL "java/lang/Enum" "ordinal" "I" (.int (3 : Int32)) := f63.other W67 (Or.inl ne9)
  have f83 : Fld Z h66 r_FIRST_CHOICE_MAXIMAL "java/lang/Enum" "ordinal" "I" (.int (2 : Int32)) := f64.other W67 (Or.inl ne8)
  have zs84 : Z.heap.size ≤ h66.size := W67.size ▸ zs65
  refine Go.dup 23 at_22 rfl rfl ?_
  refine Go.iconst 24 (3) at_23 (by decide) rfl ?_
  refine Go.getstatic 27 at_24 (tw10 hw) f75 rfl ?_
  refine Go.aastore (3) ([.ref r_EGALITARIAN, .ref r_MINIMUM_REGRET, .ref r_FIRST_CHOICE_MAXIMAL, .ref r_RANK_MAXIMAL, .null]) 28 at_27 A68 (Ins.self f76) (by decide) (by decide) (by decide : (3 : Nat) < 5) rfl ge11 rfl (fun h85 W86 A87 => ?_)
  have f88 : Sta Z h85 "dev/stablemate/solve/Criterion" "EGALITARIAN" "Ldev/stablemate/solve/Criterion;" (.ref r_EGALITARIAN) := f69.wr W86
  have f89 : Exa Z h85 r_EGALITARIAN "dev/stablemate/solve/Criterion" := f70.wr W86
  have f90 : Sta Z h85 "dev/stablemate/solve/Criterion" "MINIMUM_REGRET" "Ldev/stablemate/solve/Criterion;" (.ref r_MINIMUM_REGRET) := f71.wr W86
  have f91 : Exa Z h85 r_MINIMUM_REGRET "dev/stablemate/solve/Criterion" := f72.wr W86
  have f92 : Sta Z h85 "dev/stablemate/solve/Criterion" "FIRST_CHOICE_MAXIMAL" "Ldev/stablemate/solve/Criterion;" (.ref r_FIRST_CHOICE_MAXIMAL) := f73.wr W86
  have f93 : Exa Z h85 r_FIRST_CHOICE_MAXIMAL "dev/stablemate/solve/Criterion" := f74.wr W86
  have f94 : Sta Z h85 "dev/stablemate/solve/Criterion" "RANK_MAXIMAL" "Ldev/stablemate/solve/Criterion;" (.ref r_RANK_MAXIMAL) := f75.wr W86
  have f95 : Exa Z h85 r_RANK_MAXIMAL "dev/stablemate/solve/Criterion" := f76.wr W86
  have f96 : Sta Z h85 "dev/stablemate/solve/Criterion" "GENEROUS" "Ldev/stablemate/solve/Criterion;" (.ref r_GENEROUS) := f77.wr W86
  have f97 : Exa Z h85 r_GENEROUS "dev/stablemate/solve/Criterion" := f78.wr W86
  have f98 : Fld Z h85 r_EGALITARIAN "java/lang/Enum" "ordinal" "I" (.int (0 : Int32)) := f79.other W86 (Or.inl ne6)
  have f99 : Fld Z h85 r_MINIMUM_REGRET "java/lang/Enum" "ordinal" "I" (.int (1 : Int32)) := f80.other W86 (Or.inl ne7)
  have f100 : Fld Z h85 r_GENEROUS "java/lang/Enum" "ordinal" "I" (.int (4 : Int32)) := f81.other W86 (Or.inl ne10)
  have f101 : Fld Z h85 r_RANK_MAXIMAL "java/lang/Enum" "ordinal" "I" (.int (3 : Int32)) := f82.other W86 (Or.inl ne9)
  have f102 : Fld Z h85 r_FIRST_CHOICE_MAXIMAL "java/lang/Enum" "ordinal" "I" (.int (2 : Int32)) := f83.other W86 (Or.inl ne8)
  have zs103 : Z.heap.size ≤ h85.size := W86.size ▸ zs84
  refine Go.dup 29 at_28 rfl rfl ?_
  refine Go.iconst 30 (4) at_29 (by decide) rfl ?_
  refine Go.getstatic 33 at_30 (tw12 hw) f96 rfl ?_
  refine Go.aastore (4) ([.ref r_EGALITARIAN, .ref r_MINIMUM_REGRET, .ref r_FIRST_CHOICE_MAXIMAL, .ref r_RANK_MAXIMAL, .ref r_GENEROUS]) 34 at_33 A87 (Ins.self f97) (by decide) (by decide) (by decide : (4 : Nat) < 5) rfl ge11 rfl (fun h104 W105 A106 => ?_)
  have f107 : Sta Z h104 "dev/stablemate/solve/Criterion" "EGALITARIAN" "Ldev/stablemate/solve/Criterion;" (.ref r_EGALITARIAN) := f88.wr W105
  have f108 : Exa Z h104 r_EGALITARIAN "dev/stablemate/solve/Criterion" := f89.wr W105
  have f109 : Sta Z h104 "dev/stablemate/solve/Criterion" "MINIMUM_REGRET" "Ldev/stablemate/solve/Criterion;" (.ref r_MINIMUM_REGRET) := f90.wr W105
  have f110 : Exa Z h104 r_MINIMUM_REGRET "dev/stablemate/solve/Criterion" := f91.wr W105
  have f111 : Sta Z h104 "dev/stablemate/solve/Criterion" "FIRST_CHOICE_MAXIMAL" "Ldev/stablemate/solve/Criterion;" (.ref r_FIRST_CHOICE_MAXIMAL) := f92.wr W105
  have f112 : Exa Z h104 r_FIRST_CHOICE_MAXIMAL "dev/stablemate/solve/Criterion" := f93.wr W105
  have f113 : Sta Z h104 "dev/stablemate/solve/Criterion" "RANK_MAXIMAL" "Ldev/stablemate/solve/Criterion;" (.ref r_RANK_MAXIMAL) := f94.wr W105
  have f114 : Exa Z h104 r_RANK_MAXIMAL "dev/stablemate/solve/Criterion" := f95.wr W105
  have f115 : Sta Z h104 "dev/stablemate/solve/Criterion" "GENEROUS" "Ldev/stablemate/solve/Criterion;" (.ref r_GENEROUS) := f96.wr W105
  have f116 : Exa Z h104 r_GENEROUS "dev/stablemate/solve/Criterion" := f97.wr W105
  have f117 : Fld Z h104 r_EGALITARIAN "java/lang/Enum" "ordinal" "I" (.int (0 : Int32)) := f98.other W105 (Or.inl ne6)
  have f118 : Fld Z h104 r_MINIMUM_REGRET "java/lang/Enum" "ordinal" "I" (.int (1 : Int32)) := f99.other W105 (Or.inl ne7)
  have f119 : Fld Z h104 r_GENEROUS "java/lang/Enum" "ordinal" "I" (.int (4 : Int32)) := f100.other W105 (Or.inl ne10)
  have f120 : Fld Z h104 r_RANK_MAXIMAL "java/lang/Enum" "ordinal" "I" (.int (3 : Int32)) := f101.other W105 (Or.inl ne9)
  have f121 : Fld Z h104 r_FIRST_CHOICE_MAXIMAL "java/lang/Enum" "ordinal" "I" (.int (2 : Int32)) := f102.other W105 (Or.inl ne8)
  have zs122 : Z.heap.size ≤ h104.size := W105.size ▸ zs103
  refine Go.astore_n 35 #[.val (.int i0), .val (.int i1), .val (.int i2), .val (.ref a1), .unset, .unset, .unset, .unset, .unset, .unset, .unset, .unset, .unset, .unset, .unset] at_34 rfl rfl rfl ?_
  refine Go.aload_n 36 at_35 rfl rfl rfl ?_
  refine Go.iload_n 37 at_36 rfl rfl ?_
  refine Go.ldc 39 at_37 (tw14 hw) rfl ?_
  refine Go.iand 40 at_39 rfl ?_
  refine Go.iconst 41 (5) at_40 (by decide) rfl ?_
  refine Go.irem 42 at_41 (by decide) rfl ?_
  obtain ⟨ix, cc, hj0, hji, hget, hcc⟩ := own_pick (vs := [.ref r_EGALITARIAN, .ref r_MINIMUM_REGRET, .ref r_FIRST_CHOICE_MAXIMAL, .ref r_RANK_MAXIMAL, .ref r_GENEROUS]) (j := ((i0 &&& (2147483647 : Int32)) % (5 : Int32))) rfl (own_five i0)
  refine Go.aaload (x := .ref cc) ix 43 at_42 A106 hj0 hji hget rfl ?_
  refine Go.astore 45 #[.val (.int i0), .val (.int i1), .val (.int i2), .val (.ref a1), .val (.ref cc), .unset, .unset, .unset, .unset, .unset, .unset, .unset, .unset, .unset, .unset] at_43 rfl rfl rfl ?_
  refine Go.iconst 46 (3) at_45 (by decide) rfl ?_
  refine Go.newIE (cap := 3) (xs := [0, 0, 0]) "[I" 48 at_46 (tw15 hw) rfl (by decide) (by decide) (by decide) (by decide) rfl (by decide) (by decide) rfl (fun a123 h124 q125 E126 A127 Ex128 => ?_)
  have ne129 : r_EGALITARIAN ≠ a123 := fun e => absurd f108.lt (by rw [e, q125]; exact Nat.lt_irrefl _)
  have ne130 : r_MINIMUM_REGRET ≠ a123 := fun e => absurd f110.lt (by rw [e, q125]; exact Nat.lt_irrefl _)
  have ne131 : r_FIRST_CHOICE_MAXIMAL ≠ a123 := fun e => absurd f112.lt (by rw [e, q125]; exact Nat.lt_irrefl _)
  have ne132 : r_RANK_MAXIMAL ≠ a123 := fun e => absurd f114.lt (by rw [e, q125]; exact Nat.lt_irrefl _)
  have ne133 : r_GENEROUS ≠ a123 := fun e => absurd f116.lt (by rw [e, q125]; exact Nat.lt_irrefl _)
  have ne134 : a1 ≠ a123 := fun e => absurd A106.lt (by rw [e, q125]; exact Nat.lt_irrefl _)
  have ge135 : Z.heap.size ≤ a123 := (Eq.symm q125) ▸ zs122
  have f136 : Exa Z h124 r_EGALITARIAN "dev/stablemate/solve/Criterion" := f108.ext E126
  have f137 : Sta Z h124 "dev/stablemate/solve/Criterion" "MINIMUM_REGRET" "Ldev/stablemate/solve/Criterion;" (.ref r_MINIMUM_REGRET) := f109.ext E126
  have f138 : Exa Z h124 r_MINIMUM_REGRET "dev/stablemate/solve/Criterion" := f110.ext E126
  have f139 : Exa Z h124 r_FIRST_CHOICE_MAXIMAL "dev/stablemate/solve/Criterion" := f112.ext E126
  have f140 : Exa Z h124 r_RANK_MAXIMAL "dev/stablemate/solve/Criterion" := f114.ext E126
  have f141 : Sta Z h124 "dev/stablemate/solve/Criterion" "GENEROUS" "Ldev/stablemate/solve/Criterion;" (.ref r_GENEROUS) := f115.ext E126
  have f142 : Exa Z h124 r_GENEROUS "dev/stablemate/solve/Criterion" := f116.ext E126
  have f143 : Fld Z h124 r_EGALITARIAN "java/lang/Enum" "ordinal" "I" (.int (0 : Int32)) := f117.ext E126
  have f144 : Fld Z h124 r_MINIMUM_REGRET "java/lang/Enum" "ordinal" "I" (.int (1 : Int32)) := f118.ext E126
  have f145 : Fld Z h124 r_GENEROUS "java/lang/Enum" "ordinal" "I" (.int (4 : Int32)) := f119.ext E126
  have f146 : Fld Z h124 r_RANK_MAXIMAL "java/lang/Enum" "ordinal" "I" (.int (3 : Int32)) := f120.ext E126
  have f147 : Fld Z h124 r_FIRST_CHOICE_MAXIMAL "java/lang/Enum" "ordinal" "I" (.int (2 : Int32)) := f121.ext E126
  have f148 : Aro Z h124 a1 "dev/stablemate/solve/Criterion" [.ref r_EGALITARIAN, .ref r_MINIMUM_REGRET, .ref r_FIRST_CHOICE_MAXIMAL, .ref r_RANK_MAXIMAL, .ref r_GENEROUS] := A106.ext E126
  have zs149 : Z.heap.size ≤ h124.size := Nat.le_trans zs122 E126.1
  refine Go.dup 49 at_48 rfl rfl ?_
  refine Go.iconst 50 (0) at_49 (by decide) rfl ?_
  refine Go.iconst 51 (2) at_50 (by decide) rfl ?_
  refine Go.iastore (0) ([(2 : Int32), 0, 0]) 52 at_51 A127 (by decide) (by decide) (by decide : (0 : Nat) < 3) rfl ge135 rfl (fun h150 W151 A152 => ?_)
  have f153 : Exa Z h150 r_EGALITARIAN "dev/stablemate/solve/Criterion" := f136.wr W151
  have f154 : Sta Z h150 "dev/stablemate/solve/Criterion" "MINIMUM_REGRET" "Ldev/stablemate/solve/Criterion;" (.ref r_MINIMUM_REGRET) := f137.wr W151
  have f155 : Exa Z h150 r_MINIMUM_REGRET "dev/stablemate/solve/Criterion" := f138.wr W151
  have f156 : Exa Z h150 r_FIRST_CHOICE_MAXIMAL "dev/stablemate/solve/Criterion" := f139.wr W151
  have f157 : Exa Z h150 r_RANK_MAXIMAL "dev/stablemate/solve/Criterion" := f140.wr W151
  have f158 : Sta Z h150 "dev/stablemate/solve/Criterion" "GENEROUS" "Ldev/stablemate/solve/Criterion;" (.ref r_GENEROUS) := f141.wr W151
  have f159 : Exa Z h150 r_GENEROUS "dev/stablemate/solve/Criterion" := f142.wr W151
  have f160 : Fld Z h150 r_EGALITARIAN "java/lang/Enum" "ordinal" "I" (.int (0 : Int32)) := f143.other W151 (Or.inl ne129)
  have f161 : Fld Z h150 r_MINIMUM_REGRET "java/lang/Enum" "ordinal" "I" (.int (1 : Int32)) := f144.other W151 (Or.inl ne130)
  have f162 : Fld Z h150 r_GENEROUS "java/lang/Enum" "ordinal" "I" (.int (4 : Int32)) := f145.other W151 (Or.inl ne133)
  have f163 : Fld Z h150 r_RANK_MAXIMAL "java/lang/Enum" "ordinal" "I" (.int (3 : Int32)) := f146.other W151 (Or.inl ne132)
  have f164 : Fld Z h150 r_FIRST_CHOICE_MAXIMAL "java/lang/Enum" "ordinal" "I" (.int (2 : Int32)) := f147.other W151 (Or.inl ne131)
  have f165 : Aro Z h150 a1 "dev/stablemate/solve/Criterion" [.ref r_EGALITARIAN, .ref r_MINIMUM_REGRET, .ref r_FIRST_CHOICE_MAXIMAL, .ref r_RANK_MAXIMAL, .ref r_GENEROUS] := f148.other W151 ne134
  have f166 : Exa Z h150 a123 "[I" := Ex128.wr W151
  have zs167 : Z.heap.size ≤ h150.size := W151.size ▸ zs149
  refine Go.dup 53 at_52 rfl rfl ?_
  refine Go.iconst 54 (1) at_53 (by decide) rfl ?_
  refine Go.iconst 55 (2) at_54 (by decide) rfl ?_
  refine Go.iastore (1) ([(2 : Int32), (2 : Int32), 0]) 56 at_55 A152 (by decide) (by decide) (by decide : (1 : Nat) < 3) rfl ge135 rfl (fun h168 W169 A170 => ?_)
  have f171 : Exa Z h168 r_EGALITARIAN "dev/stablemate/solve/Criterion" := f153.wr W169
  have f172 : Sta Z h168 "dev/stablemate/solve/Criterion" "MINIMUM_REGRET" "Ldev/stablemate/solve/Criterion;" (.ref r_MINIMUM_REGRET) := f154.wr W169
  have f173 : Exa Z h168 r_MINIMUM_REGRET "dev/stablemate/solve/Criterion" := f155.wr W169
  have f174 : Exa Z h168 r_FIRST_CHOICE_MAXIMAL "dev/stablemate/solve/Criterion" := f156.wr W169
  have f175 : Exa Z h168 r_RANK_MAXIMAL "dev/stablemate/solve/Criterion" := f157.wr W169
  have f176 : Sta Z h168 "dev/stablemate/solve/Criterion" "GENEROUS" "Ldev/stablemate/solve/Criterion;" (.ref r_GENEROUS) := f158.wr W169
  have f177 : Exa Z h168 r_GENEROUS "dev/stablemate/solve/Criterion" := f159.wr W169
  have f178 : Fld Z h168 r_EGALITARIAN "java/lang/Enum" "ordinal" "I" (.int (0 : Int32)) := f160.other W169 (Or.inl ne129)
  have f179 : Fld Z h168 r_MINIMUM_REGRET "java/lang/Enum" "ordinal" "I" (.int (1 : Int32)) := f161.other W169 (Or.inl ne130)
  have f180 : Fld Z h168 r_GENEROUS "java/lang/Enum" "ordinal" "I" (.int (4 : Int32)) := f162.other W169 (Or.inl ne133)
  have f181 : Fld Z h168 r_RANK_MAXIMAL "java/lang/Enum" "ordinal" "I" (.int (3 : Int32)) := f163.other W169 (Or.inl ne132)
  have f182 : Fld Z h168 r_FIRST_CHOICE_MAXIMAL "java/lang/Enum" "ordinal" "I" (.int (2 : Int32)) := f164.other W169 (Or.inl ne131)
  have f183 : Aro Z h168 a1 "dev/stablemate/solve/Criterion" [.ref r_EGALITARIAN, .ref r_MINIMUM_REGRET, .ref r_FIRST_CHOICE_MAXIMAL, .ref r_RANK_MAXIMAL, .ref r_GENEROUS] := f165.other W169 ne134
  have f184 : Exa Z h168 a123 "[I" := f166.wr W169
  have zs185 : Z.heap.size ≤ h168.size := W169.size ▸ zs167
  refine Go.dup 57 at_56 rfl rfl ?_
  refine Go.iconst 58 (2) at_57 (by decide) rfl ?_
  refine Go.iconst 59 (2) at_58 (by decide) rfl ?_
  refine Go.iastore (2) ([(2 : Int32), (2 : Int32), (2 : Int32)]) 60 at_59 A170 (by decide) (by decide) (by decide : (2 : Nat) < 3) rfl ge135 rfl (fun h186 W187 A188 => ?_)
  have f189 : Exa Z h186 r_EGALITARIAN "dev/stablemate/solve/Criterion" := f171.wr W187
  have f190 : Sta Z h186 "dev/stablemate/solve/Criterion" "MINIMUM_REGRET" "Ldev/stablemate/solve/Criterion;" (.ref r_MINIMUM_REGRET) := f172.wr W187
  have f191 : Exa Z h186 r_MINIMUM_REGRET "dev/stablemate/solve/Criterion" := f173.wr W187
  have f192 : Exa Z h186 r_FIRST_CHOICE_MAXIMAL "dev/stablemate/solve/Criterion" := f174.wr W187
  have f193 : Exa Z h186 r_RANK_MAXIMAL "dev/stablemate/solve/Criterion" := f175.wr W187
  have f194 : Sta Z h186 "dev/stablemate/solve/Criterion" "GENEROUS" "Ldev/stablemate/solve/Criterion;" (.ref r_GENEROUS) := f176.wr W187
  have f195 : Exa Z h186 r_GENEROUS "dev/stablemate/solve/Criterion" := f177.wr W187
  have f196 : Fld Z h186 r_EGALITARIAN "java/lang/Enum" "ordinal" "I" (.int (0 : Int32)) := f178.other W187 (Or.inl ne129)
  have f197 : Fld Z h186 r_MINIMUM_REGRET "java/lang/Enum" "ordinal" "I" (.int (1 : Int32)) := f179.other W187 (Or.inl ne130)
  have f198 : Fld Z h186 r_GENEROUS "java/lang/Enum" "ordinal" "I" (.int (4 : Int32)) := f180.other W187 (Or.inl ne133)
  have f199 : Fld Z h186 r_RANK_MAXIMAL "java/lang/Enum" "ordinal" "I" (.int (3 : Int32)) := f181.other W187 (Or.inl ne132)
  have f200 : Fld Z h186 r_FIRST_CHOICE_MAXIMAL "java/lang/Enum" "ordinal" "I" (.int (2 : Int32)) := f182.other W187 (Or.inl ne131)
  have f201 : Aro Z h186 a1 "dev/stablemate/solve/Criterion" [.ref r_EGALITARIAN, .ref r_MINIMUM_REGRET, .ref r_FIRST_CHOICE_MAXIMAL, .ref r_RANK_MAXIMAL, .ref r_GENEROUS] := f183.other W187 ne134
  have f202 : Exa Z h186 a123 "[I" := f184.wr W187
  have zs203 : Z.heap.size ≤ h186.size := W187.size ▸ zs185
  refine Go.astore 62 #[.val (.int i0), .val (.int i1), .val (.int i2), .val (.ref a1), .val (.ref cc), .val (.ref a123), .unset, .unset, .unset, .unset, .unset, .unset, .unset, .unset, .unset] at_60 rfl rfl rfl ?_
  refine Go.iconst 63 (3) at_62 (by decide) rfl ?_
  refine Go.newIE (cap := 3) (xs := [0, 0, 0]) "[I" 65 at_63 (tw15 hw) rfl (by decide) (by decide) (by decide) (by decide) rfl (by decide) (by decide) rfl (fun a204 h205 q206 E207 A208 Ex209 => ?_)
  have ne210 : r_EGALITARIAN ≠ a204 := fun e => absurd f189.lt (by rw [e, q206]; exact Nat.lt_irrefl _)
  have ne211 : r_MINIMUM_REGRET ≠ a204 := fun e => absurd f191.lt (by rw [e, q206]; exact Nat.lt_irrefl _)
  have ne212 : r_FIRST_CHOICE_MAXIMAL ≠ a204 := fun e => absurd f192.lt (by rw [e, q206]; exact Nat.lt_irrefl _)
  have ne213 : r_RANK_MAXIMAL ≠ a204 := fun e => absurd f193.lt (by rw [e, q206]; exact Nat.lt_irrefl _)
  have ne214 : r_GENEROUS ≠ a204 := fun e => absurd f195.lt (by rw [e, q206]; exact Nat.lt_irrefl _)
  have ne215 : a1 ≠ a204 := fun e => absurd f201.lt (by rw [e, q206]; exact Nat.lt_irrefl _)
  have ne216 : a123 ≠ a204 := fun e => absurd f202.lt (by rw [e, q206]; exact Nat.lt_irrefl _)
  have ge217 : Z.heap.size ≤ a204 := (Eq.symm q206) ▸ zs203
  have f218 : Exa Z h205 r_EGALITARIAN "dev/stablemate/solve/Criterion" := f189.ext E207
  have f219 : Sta Z h205 "dev/stablemate/solve/Criterion" "MINIMUM_REGRET" "Ldev/stablemate/solve/Criterion;" (.ref r_MINIMUM_REGRET) := f190.ext E207
  have f220 : Exa Z h205 r_MINIMUM_REGRET "dev/stablemate/solve/Criterion" := f191.ext E207
  have f221 : Exa Z h205 r_FIRST_CHOICE_MAXIMAL "dev/stablemate/solve/Criterion" := f192.ext E207
  have f222 : Exa Z h205 r_RANK_MAXIMAL "dev/stablemate/solve/Criterion" := f193.ext E207
  have f223 : Sta Z h205 "dev/stablemate/solve/Criterion" "GENEROUS" "Ldev/stablemate/solve/Criterion;" (.ref r_GENEROUS) := f194.ext E207
  have f224 : Exa Z h205 r_GENEROUS "dev/stablemate/solve/Criterion" := f195.ext E207
  have f225 : Fld Z h205 r_EGALITARIAN "java/lang/Enum" "ordinal" "I" (.int (0 : Int32)) := f196.ext E207
  have f226 : Fld Z h205 r_MINIMUM_REGRET "java/lang/Enum" "ordinal" "I" (.int (1 : Int32)) := f197.ext E207
  have f227 : Fld Z h205 r_GENEROUS "java/lang/Enum" "ordinal" "I" (.int (4 : Int32)) := f198.ext E207
  have f228 : Fld Z h205 r_RANK_MAXIMAL "java/lang/Enum" "ordinal" "I" (.int (3 : Int32)) := f199.ext E207
  have f229 : Fld Z h205 r_FIRST_CHOICE_MAXIMAL "java/lang/Enum" "ordinal" "I" (.int (2 : Int32)) := f200.ext E207
  have f230 : Aro Z h205 a1 "dev/stablemate/solve/Criterion" [.ref r_EGALITARIAN, .ref r_MINIMUM_REGRET, .ref r_FIRST_CHOICE_MAXIMAL, .ref r_RANK_MAXIMAL, .ref r_GENEROUS] := f201.ext E207
  have f231 : Exa Z h205 a123 "[I" := f202.ext E207
  have f232 : Ari Z h205 a123 .int [(2 : Int32), (2 : Int32), (2 : Int32)] := A188.ext E207
  have zs233 : Z.heap.size ≤ h205.size := Nat.le_trans zs203 E207.1
  refine Go.dup 66 at_65 rfl rfl ?_
  refine Go.iconst 67 (0) at_66 (by decide) rfl ?_
  refine Go.iconst 68 (1) at_67 (by decide) rfl ?_
  refine Go.iastore (0) ([(1 : Int32), 0, 0]) 69 at_68 A208 (by decide) (by decide) (by decide : (0 : Nat) < 3) rfl ge217 rfl (fun h234 W235 A236 => ?_)
  have f237 : Exa Z h234 r_EGALITARIAN "dev/stablemate/solve/Criterion" := f218.wr W235
  have f238 : Sta Z h234 "dev/stablemate/solve/Criterion" "MINIMUM_REGRET" "Ldev/stablemate/solve/Criterion;" (.ref r_MINIMUM_REGRET) := f219.wr W235
  have f239 : Exa Z h234 r_MINIMUM_REGRET "dev/stablemate/solve/Criterion" := f220.wr W235
  have f240 : Exa Z h234 r_FIRST_CHOICE_MAXIMAL "dev/stablemate/solve/Criterion" := f221.wr W235
  have f241 : Exa Z h234 r_RANK_MAXIMAL "dev/stablemate/solve/Criterion" := f222.wr W235
  have f242 : Sta Z h234 "dev/stablemate/solve/Criterion" "GENEROUS" "Ldev/stablemate/solve/Criterion;" (.ref r_GENEROUS) := f223.wr W235
  have f243 : Exa Z h234 r_GENEROUS "dev/stablemate/solve/Criterion" := f224.wr W235
  have f244 : Fld Z h234 r_EGALITARIAN "java/lang/Enum" "ordinal" "I" (.int (0 : Int32)) := f225.other W235 (Or.inl ne210)
  have f245 : Fld Z h234 r_MINIMUM_REGRET "java/lang/Enum" "ordinal" "I" (.int (1 : Int32)) := f226.other W235 (Or.inl ne211)
  have f246 : Fld Z h234 r_GENEROUS "java/lang/Enum" "ordinal" "I" (.int (4 : Int32)) := f227.other W235 (Or.inl ne214)
  have f247 : Fld Z h234 r_RANK_MAXIMAL "java/lang/Enum" "ordinal" "I" (.int (3 : Int32)) := f228.other W235 (Or.inl ne213)
  have f248 : Fld Z h234 r_FIRST_CHOICE_MAXIMAL "java/lang/Enum" "ordinal" "I" (.int (2 : Int32)) := f229.other W235 (Or.inl ne212)
  have f249 : Aro Z h234 a1 "dev/stablemate/solve/Criterion" [.ref r_EGALITARIAN, .ref r_MINIMUM_REGRET, .ref r_FIRST_CHOICE_MAXIMAL, .ref r_RANK_MAXIMAL, .ref r_GENEROUS] := f230.other W235 ne215
  have f250 : Exa Z h234 a123 "[I" := f231.wr W235
  have f251 : Ari Z h234 a123 .int [(2 : Int32), (2 : Int32), (2 : Int32)] := f232.other W235 ne216
  have f252 : Exa Z h234 a204 "[I" := Ex209.wr W235
  have zs253 : Z.heap.size ≤ h234.size := W235.size ▸ zs233
  refine Go.dup 70 at_69 rfl rfl ?_
  refine Go.iconst 71 (1) at_70 (by decide) rfl ?_
  refine Go.iconst 72 (3) at_71 (by decide) rfl ?_
  refine Go.iastore (1) ([(1 : Int32), (3 : Int32), 0]) 73 at_72 A236 (by decide) (by decide) (by decide : (1 : Nat) < 3) rfl ge217 rfl (fun h254 W255 A256 => ?_)
  have f257 : Exa Z h254 r_EGALITARIAN "dev/stablemate/solve/Criterion" := f237.wr W255
  have f258 : Sta Z h254 "dev/stablemate/solve/Criterion" "MINIMUM_REGRET" "Ldev/stablemate/solve/Criterion;" (.ref r_MINIMUM_REGRET) := f238.wr W255
  have f259 : Exa Z h254 r_MINIMUM_REGRET "dev/stablemate/solve/Criterion" := f239.wr W255
  have f260 : Exa Z h254 r_FIRST_CHOICE_MAXIMAL "dev/stablemate/solve/Criterion" := f240.wr W255
  have f261 : Exa Z h254 r_RANK_MAXIMAL "dev/stablemate/solve/Criterion" := f241.wr W255
  have f262 : Sta Z h254 "dev/stablemate/solve/Criterion" "GENEROUS" "Ldev/stablemate/solve/Criterion;" (.ref r_GENEROUS) := f242.wr W255
  have f263 : Exa Z h254 r_GENEROUS "dev/stablemate/solve/Criterion" := f243.wr W255
  have f264 : Fld Z h254 r_EGALITARIAN "java/lang/Enum" "ordinal" "I" (.int (0 : Int32)) := f244.other W255 (Or.inl ne210)
  have f265 : Fld Z h254 r_MINIMUM_REGRET "java/lang/Enum" "ordinal" "I" (.int (1 : Int32)) := f245.other W255 (Or.inl ne211)
  have f266 : Fld Z h254 r_GENEROUS "java/lang/Enum" "ordinal" "I" (.int (4 : Int32)) := f246.other W255 (Or.inl ne214)
  have f267 : Fld Z h254 r_RANK_MAXIMAL "java/lang/Enum" "ordinal" "I" (.int (3 : Int32)) := f247.other W255 (Or.inl ne213)
  have f268 : Fld Z h254 r_FIRST_CHOICE_MAXIMAL "java/lang/Enum" "ordinal" "I" (.int (2 : Int32)) := f248.other W255 (Or.inl ne212)
  have f269 : Aro Z h254 a1 "dev/stablemate/solve/Criterion" [.ref r_EGALITARIAN, .ref r_MINIMUM_REGRET, .ref r_FIRST_CHOICE_MAXIMAL, .ref r_RANK_MAXIMAL, .ref r_GENEROUS] := f249.other W255 ne215
  have f270 : Exa Z h254 a123 "[I" := f250.wr W255
  have f271 : Ari Z h254 a123 .int [(2 : Int32), (2 : Int32), (2 : Int32)] := f251.other W255 ne216
  have f272 : Exa Z h254 a204 "[I" := f252.wr W255
  have zs273 : Z.heap.size ≤ h254.size := W255.size ▸ zs253
  refine Go.dup 74 at_73 rfl rfl ?_
  refine Go.iconst 75 (2) at_74 (by decide) rfl ?_
  refine Go.iconst 76 (1) at_75 (by decide) rfl ?_
  refine Go.iastore (2) ([(1 : Int32), (3 : Int32), (1 : Int32)]) 77 at_76 A256 (by decide) (by decide) (by decide : (2 : Nat) < 3) rfl ge217 rfl (fun h274 W275 A276 => ?_)
  have f277 : Exa Z h274 r_EGALITARIAN "dev/stablemate/solve/Criterion" := f257.wr W275
  have f278 : Sta Z h274 "dev/stablemate/solve/Criterion" "MINIMUM_REGRET" "Ldev/stablemate/solve/Criterion;" (.ref r_MINIMUM_REGRET) := f258.wr W275
  have f279 : Exa Z h274 r_MINIMUM_REGRET "dev/stablemate/solve/Criterion" := f259.wr W275
  have f280 : Exa Z h274 r_FIRST_CHOICE_MAXIMAL "dev/stablemate/solve/Criterion" := f260.wr W275
  have f281 : Exa Z h274 r_RANK_MAXIMAL "dev/stablemate/solve/Criterion" := f261.wr W275
  have f282 : Sta Z h274 "dev/stablemate/solve/Criterion" "GENEROUS" "Ldev/stablemate/solve/Criterion;" (.ref r_GENEROUS) := f262.wr W275
  have f283 : Exa Z h274 r_GENEROUS "dev/stablemate/solve/Criterion" := f263.wr W275
  have f284 : Fld Z h274 r_EGALITARIAN "java/lang/Enum" "ordinal" "I" (.int (0 : Int32)) := f264.other W275 (Or.inl ne210)
  have f285 : Fld Z h274 r_MINIMUM_REGRET "java/lang/Enum" "ordinal" "I" (.int (1 : Int32)) := f265.other W275 (Or.inl ne211)
  have f286 : Fld Z h274 r_GENEROUS "java/lang/Enum" "ordinal" "I" (.int (4 : Int32)) := f266.other W275 (Or.inl ne214)
  have f287 : Fld Z h274 r_RANK_MAXIMAL "java/lang/Enum" "ordinal" "I" (.int (3 : Int32)) := f267.other W275 (Or.inl ne213)
  have f288 : Fld Z h274 r_FIRST_CHOICE_MAXIMAL "java/lang/Enum" "ordinal" "I" (.int (2 : Int32)) := f268.other W275 (Or.inl ne212)
  have f289 : Aro Z h274 a1 "dev/stablemate/solve/Criterion" [.ref r_EGALITARIAN, .ref r_MINIMUM_REGRET, .ref r_FIRST_CHOICE_MAXIMAL, .ref r_RANK_MAXIMAL, .ref r_GENEROUS] := f269.other W275 ne215
  have f290 : Exa Z h274 a123 "[I" := f270.wr W275
  have f291 : Ari Z h274 a123 .int [(2 : Int32), (2 : Int32), (2 : Int32)] := f271.other W275 ne216
  have f292 : Exa Z h274 a204 "[I" := f272.wr W275
  have zs293 : Z.heap.size ≤ h274.size := W275.size ▸ zs273
  refine Go.astore 79 #[.val (.int i0), .val (.int i1), .val (.int i2), .val (.ref a1), .val (.ref cc), .val (.ref a123), .val (.ref a204), .unset, .unset, .unset, .unset, .unset, .unset, .unset, .unset] at_77 rfl rfl rfl ?_
  refine Go.iconst 80 (3) at_79 (by decide) rfl ?_
  refine Go.aload 82 at_80 rfl rfl rfl ?_
  refine Go.iconst 83 (3) at_82 (by decide) rfl ?_
  refine Go.callSR [.int (3 : Int32), .ref a123, .int (3 : Int32)] [] 86 at_83 (tw16 hw) (tw17 hw) (tw18 hw) (tw19 hw) pl1 (by decide) (lenOf pd1 rfl) rfl (fun m => ef_k_of_x m (3 : Int32) a123 (3 : Int32)) _ (k_of_x hw h274 zs293 a123 f291) 0 rfl (Nat.le_of_eq rfl) (by decide) (by decide) (by decide) (by decide) rfl ?_
  rintro z294 h295 ⟨a297, a298, rfl, g299, g300, ne301, K296, f302, f303, f304, f305⟩
  have ne306 : r_EGALITARIAN ≠ a297 := Nat.ne_of_lt (Nat.lt_of_lt_of_le f277.lt g299)
  have ne307 : r_MINIMUM_REGRET ≠ a297 := Nat.ne_of_lt (Nat.lt_of_lt_of_le f279.lt g299)
  have ne308 : r_FIRST_CHOICE_MAXIMAL ≠ a297 := Nat.ne_of_lt (Nat.lt_of_lt_of_le f280.lt g299)
  have ne309 : r_RANK_MAXIMAL ≠ a297 := Nat.ne_of_lt (Nat.lt_of_lt_of_le f281.lt g299)
  have ne310 : r_GENEROUS ≠ a297 := Nat.ne_of_lt (Nat.lt_of_lt_of_le f283.lt g299)
  have ne311 : a1 ≠ a297 := Nat.ne_of_lt (Nat.lt_of_lt_of_le f289.lt g299)
  have ne312 : a123 ≠ a297 := Nat.ne_of_lt (Nat.lt_of_lt_of_le f290.lt g299)
  have ne313 : a204 ≠ a297 := Nat.ne_of_lt (Nat.lt_of_lt_of_le f292.lt g299)
  have ge314 : Z.heap.size ≤ a297 := Nat.le_trans zs293 g299
  have ne315 : r_EGALITARIAN ≠ a298 := Nat.ne_of_lt (Nat.lt_of_lt_of_le f277.lt g300)
  have ne316 : r_MINIMUM_REGRET ≠ a298 := Nat.ne_of_lt (Nat.lt_of_lt_of_le f279.lt g300)
  have ne317 : r_FIRST_CHOICE_MAXIMAL ≠ a298 := Nat.ne_of_lt (Nat.lt_of_lt_of_le f280.lt g300)
  have ne318 : r_RANK_MAXIMAL ≠ a298 := Nat.ne_of_lt (Nat.lt_of_lt_of_le f281.lt g300)
  have ne319 : r_GENEROUS ≠ a298 := Nat.ne_of_lt (Nat.lt_of_lt_of_le f283.lt g300)
  have ne320 : a1 ≠ a298 := Nat.ne_of_lt (Nat.lt_of_lt_of_le f289.lt g300)
  have ne321 : a123 ≠ a298 := Nat.ne_of_lt (Nat.lt_of_lt_of_le f290.lt g300)
  have ne322 : a204 ≠ a298 := Nat.ne_of_lt (Nat.lt_of_lt_of_le f292.lt g300)
  have ge323 : Z.heap.size ≤ a298 := Nat.le_trans zs293 g300
  have f324 : Exa Z h295 r_EGALITARIAN "dev/stablemate/solve/Criterion" := f277.keep K296
  have f325 : Sta Z h295 "dev/stablemate/solve/Criterion" "MINIMUM_REGRET" "Ldev/stablemate/solve/Criterion;" (.ref r_MINIMUM_REGRET) := own_staK f278 K296 all0
  have f326 : Exa Z h295 r_MINIMUM_REGRET "dev/stablemate/solve/Criterion" := f279.keep K296
  have f327 : Exa Z h295 r_FIRST_CHOICE_MAXIMAL "dev/stablemate/solve/Criterion" := f280.keep K296
  have f328 : Exa Z h295 r_RANK_MAXIMAL "dev/stablemate/solve/Criterion" := f281.keep K296
  have f329 : Sta Z h295 "dev/stablemate/solve/Criterion" "GENEROUS" "Ldev/stablemate/solve/Criterion;" (.ref r_GENEROUS) := own_staK f282 K296 all0
  have f330 : Exa Z h295 r_GENEROUS "dev/stablemate/solve/Criterion" := f283.keep K296
  have f331 : Fld Z h295 r_EGALITARIAN "java/lang/Enum" "ordinal" "I" (.int (0 : Int32)) := f284.keep K296 nin0
  have f332 : Fld Z h295 r_MINIMUM_REGRET "java/lang/Enum" "ordinal" "I" (.int (1 : Int32)) := f285.keep K296 nin0
  have f333 : Fld Z h295 r_GENEROUS "java/lang/Enum" "ordinal" "I" (.int (4 : Int32)) := f286.keep K296 nin0
  have f334 : Fld Z h295 r_RANK_MAXIMAL "java/lang/Enum" "ordinal" "I" (.int (3 : Int32)) := f287.keep K296 nin0
  have f335 : Fld Z h295 r_FIRST_CHOICE_MAXIMAL "java/lang/Enum" "ordinal" "I" (.int (2 : Int32)) := f288.keep K296 nin0
  have f336 : Aro Z h295 a1 "dev/stablemate/solve/Criterion" [.ref r_EGALITARIAN, .ref r_MINIMUM_REGRET, .ref r_FIRST_CHOICE_MAXIMAL, .ref r_RANK_MAXIMAL, .ref r_GENEROUS] := f289.keep K296 nin0
  have f337 : Exa Z h295 a123 "[I" := f290.keep K296
  have f338 : Ari Z h295 a123 .int [(2 : Int32), (2 : Int32), (2 : Int32)] := f291.keep K296 nin0
  have f339 : Exa Z h295 a204 "[I" := f292.keep K296
  have f340 : Ari Z h295 a204 .int [(1 : Int32), (3 : Int32), (1 : Int32)] := A276.keep K296 nin0
  have zs341 : Z.heap.size ≤ h295.size := Nat.le_trans zs293 K296.1
  refine Go.astore 88 #[.val (.int i0), .val (.int i1), .val (.int i2), .val (.ref a1), .val (.ref cc), .val (.ref a123), .val (.ref a204), .val (.ref a297), .unset, .unset, .unset, .unset, .unset, .unset, .unset] at_86 rfl rfl rfl ?_
  refine Go.iconst 89 (3) at_88 (by decide) rfl ?_
  refine Go.aload 91 at_89 rfl rfl rfl ?_
  refine Go.iconst 92 (2) at_91 (by decide) rfl ?_
  refine Go.callSR [.int (3 : Int32), .ref a204, .int (2 : Int32)] [] 95 at_92 (tw16 hw) (tw17 hw) (tw18 hw) (tw19 hw) pl1 (by decide) (lenOf pd1 rfl) rfl (fun m => ef_k_of_y m (3 : Int32) a204 (2 : Int32)) _ (k_of_y hw h295 zs341 a204 f340) 0 rfl (Nat.le_of_eq rfl) (by decide) (by decide) (by decide) (by decide) rfl ?_
  rintro z342 h343 ⟨a345, a346, rfl, g347, g348, ne349, K344, f350, f351, f352, f353⟩
  have ne354 : r_EGALITARIAN ≠ a345 := Nat.ne_of_lt (Nat.lt_of_lt_of_le f324.lt g347)
  have ne355 : r_MINIMUM_REGRET ≠ a345 := Nat.ne_of_lt (Nat.lt_of_lt_of_le f326.lt g347)
  have ne356 : r_FIRST_CHOICE_MAXIMAL ≠ a345 := Nat.ne_of_lt (Nat.lt_of_lt_of_le f327.lt g347)
  have ne357 : r_RANK_MAXIMAL ≠ a345 := Nat.ne_of_lt (Nat.lt_of_lt_of_le f328.lt g347)
  have ne358 : r_GENEROUS ≠ a345 := Nat.ne_of_lt (Nat.lt_of_lt_of_le f330.lt g347)
  have ne359 : a1 ≠ a345 := Nat.ne_of_lt (Nat.lt_of_lt_of_le f336.lt g347)
  have ne360 : a123 ≠ a345 := Nat.ne_of_lt (Nat.lt_of_lt_of_le f337.lt g347)
  have ne361 : a204 ≠ a345 := Nat.ne_of_lt (Nat.lt_of_lt_of_le f339.lt g347)
  have ne362 : a297 ≠ a345 := Nat.ne_of_lt (Nat.lt_of_lt_of_le f302.lt g347)
  have ne363 : a298 ≠ a345 := Nat.ne_of_lt (Nat.lt_of_lt_of_le f305.lt g347)
  have ge364 : Z.heap.size ≤ a345 := Nat.le_trans zs341 g347
  have ne365 : r_EGALITARIAN ≠ a346 := Nat.ne_of_lt (Nat.lt_of_lt_of_le f324.lt g348)
  have ne366 : r_MINIMUM_REGRET ≠ a346 := Nat.ne_of_lt (Nat.lt_of_lt_of_le f326.lt g348)
  have ne367 : r_FIRST_CHOICE_MAXIMAL ≠ a346 := Nat.ne_of_lt (Nat.lt_of_lt_of_le f327.lt g348)
  have ne368 : r_RANK_MAXIMAL ≠ a346 := Nat.ne_of_lt (Nat.lt_of_lt_of_le f328.lt g348)
  have ne369 : r_GENEROUS ≠ a346 := Nat.ne_of_lt (Nat.lt_of_lt_of_le f330.lt g348)
  have ne370 : a1 ≠ a346 := Nat.ne_of_lt (Nat.lt_of_lt_of_le f336.lt g348)
  have ne371 : a123 ≠ a346 := Nat.ne_of_lt (Nat.lt_of_lt_of_le f337.lt g348)
  have ne372 : a204 ≠ a346 := Nat.ne_of_lt (Nat.lt_of_lt_of_le f339.lt g348)
  have ne373 : a297 ≠ a346 := Nat.ne_of_lt (Nat.lt_of_lt_of_le f302.lt g348)
  have ne374 : a298 ≠ a346 := Nat.ne_of_lt (Nat.lt_of_lt_of_le f305.lt g348)
  have ge375 : Z.heap.size ≤ a346 := Nat.le_trans zs341 g348
  have f376 : Exa Z h343 r_EGALITARIAN "dev/stablemate/solve/Criterion" := f324.keep K344
  have f377 : Sta Z h343 "dev/stablemate/solve/Criterion" "MINIMUM_REGRET" "Ldev/stablemate/solve/Criterion;" (.ref r_MINIMUM_REGRET) := own_staK f325 K344 all0
  have f378 : Exa Z h343 r_MINIMUM_REGRET "dev/stablemate/solve/Criterion" := f326.keep K344
  have f379 : Exa Z h343 r_FIRST_CHOICE_MAXIMAL "dev/stablemate/solve/Criterion" := f327.keep K344
  have f380 : Exa Z h343 r_RANK_MAXIMAL "dev/stablemate/solve/Criterion" := f328.keep K344
  have f381 : Sta Z h343 "dev/stablemate/solve/Criterion" "GENEROUS" "Ldev/stablemate/solve/Criterion;" (.ref r_GENEROUS) := own_staK f329 K344 all0
  have f382 : Exa Z h343 r_GENEROUS "dev/stablemate/solve/Criterion" := f330.keep K344
  have f383 : Fld Z h343 r_EGALITARIAN "java/lang/Enum" "ordinal" "I" (.int (0 : Int32)) := f331.keep K344 nin0
  have f384 : Fld Z h343 r_MINIMUM_REGRET "java/lang/Enum" "ordinal" "I" (.int (1 : Int32)) := f332.keep K344 nin0
  have f385 : Fld Z h343 r_GENEROUS "java/lang/Enum" "ordinal" "I" (.int (4 : Int32)) := f333.keep K344 nin0
  have f386 : Fld Z h343 r_RANK_MAXIMAL "java/lang/Enum" "ordinal" "I" (.int (3 : Int32)) := f334.keep K344 nin0
  have f387 : Fld Z h343 r_FIRST_CHOICE_MAXIMAL "java/lang/Enum" "ordinal" "I" (.int (2 : Int32)) := f335.keep K344 nin0
  have f388 : Aro Z h343 a1 "dev/stablemate/solve/Criterion" [.ref r_EGALITARIAN, .ref r_MINIMUM_REGRET, .ref r_FIRST_CHOICE_MAXIMAL, .ref r_RANK_MAXIMAL, .ref r_GENEROUS] := f336.keep K344 nin0
  have f389 : Exa Z h343 a123 "[I" := f337.keep K344
  have f390 : Ari Z h343 a123 .int [(2 : Int32), (2 : Int32), (2 : Int32)] := f338.keep K344 nin0
  have f391 : Exa Z h343 a204 "[I" := f339.keep K344
  have f392 : Ari Z h343 a204 .int [(1 : Int32), (3 : Int32), (1 : Int32)] := f340.keep K344 nin0
  have f393 : Exa Z h343 a297 "dev/stablemate/solve/Profile" := f302.keep K344
  have f394 : Fld Z h343 a297 "dev/stablemate/solve/Profile" "counts" "[I" (.ref a298) := f303.keep K344 nin0
  have f395 : Fld Z h343 a297 "dev/stablemate/solve/Profile" "cost" "J" (.long (6 : Int64)) := f304.keep K344 nin0
  have f396 : Ari Z h343 a298 .int [(0 : Int32), (3 : Int32)] := f305.keep K344 nin0
  have zs397 : Z.heap.size ≤ h343.size := Nat.le_trans zs341 K344.1
  refine Go.astore 97 #[.val (.int i0), .val (.int i1), .val (.int i2), .val (.ref a1), .val (.ref cc), .val (.ref a123), .val (.ref a204), .val (.ref a297), .val (.ref a345), .unset, .unset, .unset, .unset, .unset, .unset] at_95 rfl rfl rfl ?_
  refine Go.iconst 98 (3) at_97 (by decide) rfl ?_
  refine Go.newIE (cap := 3) (xs := [0, 0, 0]) "[I" 100 at_98 (tw15 hw) rfl (by decide) (by decide) (by decide) (by decide) rfl (by decide) (by decide) rfl (fun a398 h399 q400 E401 A402 Ex403 => ?_)
  have ne404 : r_EGALITARIAN ≠ a398 := fun e => absurd f376.lt (by rw [e, q400]; exact Nat.lt_irrefl _)
  have ne405 : r_MINIMUM_REGRET ≠ a398 := fun e => absurd f378.lt (by rw [e, q400]; exact Nat.lt_irrefl _)
  have ne406 : r_FIRST_CHOICE_MAXIMAL ≠ a398 := fun e => absurd f379.lt (by rw [e, q400]; exact Nat.lt_irrefl _)
  have ne407 : r_RANK_MAXIMAL ≠ a398 := fun e => absurd f380.lt (by rw [e, q400]; exact Nat.lt_irrefl _)
  have ne408 : r_GENEROUS ≠ a398 := fun e => absurd f382.lt (by rw [e, q400]; exact Nat.lt_irrefl _)
  have ne409 : a1 ≠ a398 := fun e => absurd f388.lt (by rw [e, q400]; exact Nat.lt_irrefl _)
  have ne410 : a123 ≠ a398 := fun e => absurd f389.lt (by rw [e, q400]; exact Nat.lt_irrefl _)
  have ne411 : a204 ≠ a398 := fun e => absurd f391.lt (by rw [e, q400]; exact Nat.lt_irrefl _)
  have ne412 : a297 ≠ a398 := fun e => absurd f393.lt (by rw [e, q400]; exact Nat.lt_irrefl _)
  have ne413 : a298 ≠ a398 := fun e => absurd f396.lt (by rw [e, q400]; exact Nat.lt_irrefl _)
  have ne414 : a345 ≠ a398 := fun e => absurd f350.lt (by rw [e, q400]; exact Nat.lt_irrefl _)
  have ne415 : a346 ≠ a398 := fun e => absurd f353.lt (by rw [e, q400]; exact Nat.lt_irrefl _)
  have ge416 : Z.heap.size ≤ a398 := (Eq.symm q400) ▸ zs397
  have f417 : Exa Z h399 r_EGALITARIAN "dev/stablemate/solve/Criterion" := f376.ext E401
  have f418 : Sta Z h399 "dev/stablemate/solve/Criterion" "MINIMUM_REGRET" "Ldev/stablemate/solve/Criterion;" (.ref r_MINIMUM_REGRET) := f377.ext E401
  have f419 : Exa Z h399 r_MINIMUM_REGRET "dev/stablemate/solve/Criterion" := f378.ext E401
  have f420 : Exa Z h399 r_FIRST_CHOICE_MAXIMAL "dev/stablemate/solve/Criterion" := f379.ext E401
  have f421 : Exa Z h399 r_RANK_MAXIMAL "dev/stablemate/solve/Criterion" := f380.ext E401
  have f422 : Sta Z h399 "dev/stablemate/solve/Criterion" "GENEROUS" "Ldev/stablemate/solve/Criterion;" (.ref r_GENEROUS) := f381.ext E401
  have f423 : Exa Z h399 r_GENEROUS "dev/stablemate/solve/Criterion" := f382.ext E401
  have f424 : Fld Z h399 r_EGALITARIAN "java/lang/Enum" "ordinal" "I" (.int (0 : Int32)) := f383.ext E401
  have f425 : Fld Z h399 r_MINIMUM_REGRET "java/lang/Enum" "ordinal" "I" (.int (1 : Int32)) := f384.ext E401
  have f426 : Fld Z h399 r_GENEROUS "java/lang/Enum" "ordinal" "I" (.int (4 : Int32)) := f385.ext E401
  have f427 : Fld Z h399 r_RANK_MAXIMAL "java/lang/Enum" "ordinal" "I" (.int (3 : Int32)) := f386.ext E401
  have f428 : Fld Z h399 r_FIRST_CHOICE_MAXIMAL "java/lang/Enum" "ordinal" "I" (.int (2 : Int32)) := f387.ext E401
  have f429 : Aro Z h399 a1 "dev/stablemate/solve/Criterion" [.ref r_EGALITARIAN, .ref r_MINIMUM_REGRET, .ref r_FIRST_CHOICE_MAXIMAL, .ref r_RANK_MAXIMAL, .ref r_GENEROUS] := f388.ext E401
  have f430 : Exa Z h399 a123 "[I" := f389.ext E401
  have f431 : Ari Z h399 a123 .int [(2 : Int32), (2 : Int32), (2 : Int32)] := f390.ext E401
  have f432 : Exa Z h399 a204 "[I" := f391.ext E401
  have f433 : Ari Z h399 a204 .int [(1 : Int32), (3 : Int32), (1 : Int32)] := f392.ext E401
  have f434 : Exa Z h399 a297 "dev/stablemate/solve/Profile" := f393.ext E401
  have f435 : Fld Z h399 a297 "dev/stablemate/solve/Profile" "counts" "[I" (.ref a298) := f394.ext E401
  have f436 : Fld Z h399 a297 "dev/stablemate/solve/Profile" "cost" "J" (.long (6 : Int64)) := f395.ext E401
  have f437 : Ari Z h399 a298 .int [(0 : Int32), (3 : Int32)] := f396.ext E401
  have f438 : Exa Z h399 a345 "dev/stablemate/solve/Profile" := f350.ext E401
  have f439 : Fld Z h399 a345 "dev/stablemate/solve/Profile" "counts" "[I" (.ref a346) := f351.ext E401
  have f440 : Fld Z h399 a345 "dev/stablemate/solve/Profile" "cost" "J" (.long (4 : Int64)) := f352.ext E401
  have f441 : Ari Z h399 a346 .int [(1 : Int32), (0 : Int32), (1 : Int32)] := f353.ext E401
  have zs442 : Z.heap.size ≤ h399.size := Nat.le_trans zs397 E401.1
  refine Go.dup 101 at_100 rfl rfl ?_
  refine Go.iconst 102 (0) at_101 (by decide) rfl ?_
  refine Go.iload_n 103 at_102 rfl rfl ?_
  refine Go.iconst 104 (3) at_103 (by decide) rfl ?_
  refine Go.iand 105 at_104 rfl ?_
  refine Go.iconst 106 (1) at_105 (by decide) rfl ?_
  refine Go.iadd 107 at_106 rfl ?_
  refine Go.iastore (0) ([((i1 &&& (3 : Int32)) + (1 : Int32)), 0, 0]) 108 at_107 A402 (by decide) (by decide) (by decide : (0 : Nat) < 3) rfl ge416 rfl (fun h443 W444 A445 => ?_)
  have f446 : Exa Z h443 r_EGALITARIAN "dev/stablemate/solve/Criterion" := f417.wr W444
  have f447 : Sta Z h443 "dev/stablemate/solve/Criterion" "MINIMUM_REGRET" "Ldev/stablemate/solve/Criterion;" (.ref r_MINIMUM_REGRET) := f418.wr W444
  have f448 : Exa Z h443 r_MINIMUM_REGRET "dev/stablemate/solve/Criterion" := f419.wr W444
  have f449 : Exa Z h443 r_FIRST_CHOICE_MAXIMAL "dev/stablemate/solve/Criterion" := f420.wr W444
  have f450 : Exa Z h443 r_RANK_MAXIMAL "dev/stablemate/solve/Criterion" := f421.wr W444
  have f451 : Sta Z h443 "dev/stablemate/solve/Criterion" "GENEROUS" "Ldev/stablemate/solve/Criterion;" (.ref r_GENEROUS) := f422.wr W444
  have f452 : Exa Z h443 r_GENEROUS "dev/stablemate/solve/Criterion" := f423.wr W444
  have f453 : Fld Z h443 r_EGALITARIAN "java/lang/Enum" "ordinal" "I" (.int (0 : Int32)) := f424.other W444 (Or.inl ne404)
  have f454 : Fld Z h443 r_MINIMUM_REGRET "java/lang/Enum" "ordinal" "I" (.int (1 : Int32)) := f425.other W444 (Or.inl ne405)
  have f455 : Fld Z h443 r_GENEROUS "java/lang/Enum" "ordinal" "I" (.int (4 : Int32)) := f426.other W444 (Or.inl ne408)
  have f456 : Fld Z h443 r_RANK_MAXIMAL "java/lang/Enum" "ordinal" "I" (.int (3 : Int32)) := f427.other W444 (Or.inl ne407)
  have f457 : Fld Z h443 r_FIRST_CHOICE_MAXIMAL "java/lang/Enum" "ordinal" "I" (.int (2 : Int32)) := f428.other W444 (Or.inl ne406)
  have f458 : Aro Z h443 a1 "dev/stablemate/solve/Criterion" [.ref r_EGALITARIAN, .ref r_MINIMUM_REGRET, .ref r_FIRST_CHOICE_MAXIMAL, .ref r_RANK_MAXIMAL, .ref r_GENEROUS] := f429.other W444 ne409
  have f459 : Exa Z h443 a123 "[I" := f430.wr W444
  have f460 : Ari Z h443 a123 .int [(2 : Int32), (2 : Int32), (2 : Int32)] := f431.other W444 ne410
  have f461 : Exa Z h443 a204 "[I" := f432.wr W444
  have f462 : Ari Z h443 a204 .int [(1 : Int32), (3 : Int32), (1 : Int32)] := f433.other W444 ne411
  have f463 : Exa Z h443 a297 "dev/stablemate/solve/Profile" := f434.wr W444
  have f464 : Fld Z h443 a297 "dev/stablemate/solve/Profile" "counts" "[I" (.ref a298) := f435.other W444 (Or.inl ne412)
  have f465 : Fld Z h443 a297 "dev/stablemate/solve/Profile" "cost" "J" (.long (6 : Int64)) := f436.other W444 (Or.inl ne412)
  have f466 : Ari Z h443 a298 .int [(0 : Int32), (3 : Int32)] := f437.other W444 ne413
  have f467 : Exa Z h443 a345 "dev/stablemate/solve/Profile" := f438.wr W444
  have f468 : Fld Z h443 a345 "dev/stablemate/solve/Profile" "counts" "[I" (.ref a346) := f439.other W444 (Or.inl ne414)
  have f469 : Fld Z h443 a345 "dev/stablemate/solve/Profile" "cost" "J" (.long (4 : Int64)) := f440.other W444 (Or.inl ne414)
  have f470 : Ari Z h443 a346 .int [(1 : Int32), (0 : Int32), (1 : Int32)] := f441.other W444 ne415
  have f471 : Exa Z h443 a398 "[I" := Ex403.wr W444
  have zs472 : Z.heap.size ≤ h443.size := W444.size ▸ zs442
  refine Go.dup 109 at_108 rfl rfl ?_
  refine Go.iconst 110 (1) at_109 (by decide) rfl ?_
  refine Go.iload_n 111 at_110 rfl rfl ?_
  refine Go.iconst 112 (2) at_111 (by decide) rfl ?_
  refine Go.iushr 113 at_112 rfl ?_
  refine Go.iconst 114 (3) at_113 (by decide) rfl ?_
  refine Go.iand 115 at_114 rfl ?_
  refine Go.iconst 116 (1) at_115 (by decide) rfl ?_
  refine Go.iadd 117 at_116 rfl ?_
  refine Go.iastore (1) ([((i1 &&& (3 : Int32)) + (1 : Int32)), (((XT.ushr i1 (2 : Int32)) &&& (3 : Int32)) + (1 : Int32)), 0]) 118 at_117 A445 (by decide) (by decide) (by decide : (1 : Nat) < 3) rfl ge416 rfl (fun h473 W474 A475 => ?_)
  have f476 : Exa Z h473 r_EGALITARIAN "dev/stablemate/solve/Criterion" := f446.wr W474
  have f477 : Sta Z h473 "dev/stablemate/solve/Criterion" "MINIMUM_REGRET" "Ldev/stablemate/solve/Criterion;" (.ref r_MINIMUM_REGRET) := f447.wr W474
  have f478 : Exa Z h473 r_MINIMUM_REGRET "dev/stablemate/solve/Criterion" := f448.wr W474
  have f479 : Exa Z h473 r_FIRST_CHOICE_MAXIMAL "dev/stablemate/solve/Criterion" := f449.wr W474
  have f480 : Exa Z h473 r_RANK_MAXIMAL "dev/stablemate/solve/Criterion" := f450.wr W474
  have f481 : Sta Z h473 "dev/stablemate/solve/Criterion" "GENEROUS" "Ldev/stablemate/solve/Criterion;" (.ref r_GENEROUS) := f451.wr W474
  have f482 : Exa Z h473 r_GENEROUS "dev/stablemate/solve/Criterion" := f452.wr W474
  have f483 : Fld Z h473 r_EGALITARIAN "java/lang/Enum" "ordinal" "I" (.int (0 : Int32)) := f453.other W474 (Or.inl ne404)
  have f484 : Fld Z h473 r_MINIMUM_REGRET "java/lang/Enum" "ordinal" "I" (.int (1 : Int32)) := f454.other W474 (Or.inl ne405)
  have f485 : Fld Z h473 r_GENEROUS "java/lang/Enum" "ordinal" "I" (.int (4 : Int32)) := f455.other W474 (Or.inl ne408)
  have f486 : Fld Z h473 r_RANK_MAXIMAL "java/lang/Enum" "ordinal" "I" (.int (3 : Int32)) := f456.other W474 (Or.inl ne407)
  have f487 : Fld Z h473 r_FIRST_CHOICE_MAXIMAL "java/lang/Enum" "ordinal" "I" (.int (2 : Int32)) := f457.other W474 (Or.inl ne406)
  have f488 : Aro Z h473 a1 "dev/stablemate/solve/Criterion" [.ref r_EGALITARIAN, .ref r_MINIMUM_REGRET, .ref r_FIRST_CHOICE_MAXIMAL, .ref r_RANK_MAXIMAL, .ref r_GENEROUS] := f458.other W474 ne409
  have f489 : Exa Z h473 a123 "[I" := f459.wr W474
  have f490 : Ari Z h473 a123 .int [(2 : Int32), (2 : Int32), (2 : Int32)] := f460.other W474 ne410
  have f491 : Exa Z h473 a204 "[I" := f461.wr W474
  have f492 : Ari Z h473 a204 .int [(1 : Int32), (3 : Int32), (1 : Int32)] := f462.other W474 ne411
  have f493 : Exa Z h473 a297 "dev/stablemate/solve/Profile" := f463.wr W474
  have f494 : Fld Z h473 a297 "dev/stablemate/solve/Profile" "counts" "[I" (.ref a298) := f464.other W474 (Or.inl ne412)
  have f495 : Fld Z h473 a297 "dev/stablemate/solve/Profile" "cost" "J" (.long (6 : Int64)) := f465.other W474 (Or.inl ne412)
  have f496 : Ari Z h473 a298 .int [(0 : Int32), (3 : Int32)] := f466.other W474 ne413
  have f497 : Exa Z h473 a345 "dev/stablemate/solve/Profile" := f467.wr W474
  have f498 : Fld Z h473 a345 "dev/stablemate/solve/Profile" "counts" "[I" (.ref a346) := f468.other W474 (Or.inl ne414)
  have f499 : Fld Z h473 a345 "dev/stablemate/solve/Profile" "cost" "J" (.long (4 : Int64)) := f469.other W474 (Or.inl ne414)
  have f500 : Ari Z h473 a346 .int [(1 : Int32), (0 : Int32), (1 : Int32)] := f470.other W474 ne415
  have f501 : Exa Z h473 a398 "[I" := f471.wr W474
  have zs502 : Z.heap.size ≤ h473.size := W474.size ▸ zs472
  refine Go.dup 119 at_118 rfl rfl ?_
  refine Go.iconst 120 (2) at_119 (by decide) rfl ?_
  refine Go.iload_n 121 at_120 rfl rfl ?_
  refine Go.iconst 122 (4) at_121 (by decide) rfl ?_
  refine Go.iushr 123 at_122 rfl ?_
  refine Go.iconst 124 (3) at_123 (by decide) rfl ?_
  refine Go.iand 125 at_124 rfl ?_
  refine Go.iconst 126 (1) at_125 (by decide) rfl ?_
  refine Go.iadd 127 at_126 rfl ?_
  refine Go.iastore (2) ([((i1 &&& (3 : Int32)) + (1 : Int32)), (((XT.ushr i1 (2 : Int32)) &&& (3 : Int32)) + (1 : Int32)), (((XT.ushr i1 (4 : Int32)) &&& (3 : Int32)) + (1 : Int32))]) 128 at_127 A475 (by decide) (by decide) (by decide : (2 : Nat) < 3) rfl ge416 rfl (fun h503 W504 A505 => ?_)
  have f506 : Exa Z h503 r_EGALITARIAN "dev/stablemate/solve/Criterion" := f476.wr W504
  have f507 : Sta Z h503 "dev/stablemate/solve/Criterion" "MINIMUM_REGRET" "Ldev/stablemate/solve/Criterion;" (.ref r_MINIMUM_REGRET) := f477.wr W504
  have f508 : Exa Z h503 r_MINIMUM_REGRET "dev/stablemate/solve/Criterion" := f478.wr W504
  have f509 : Exa Z h503 r_FIRST_CHOICE_MAXIMAL "dev/stablemate/solve/Criterion" := f479.wr W504
  have f510 : Exa Z h503 r_RANK_MAXIMAL "dev/stablemate/solve/Criterion" := f480.wr W504
  have f511 : Sta Z h503 "dev/stablemate/solve/Criterion" "GENEROUS" "Ldev/stablemate/solve/Criterion;" (.ref r_GENEROUS) := f481.wr W504
  have f512 : Exa Z h503 r_GENEROUS "dev/stablemate/solve/Criterion" := f482.wr W504
  have f513 : Fld Z h503 r_EGALITARIAN "java/lang/Enum" "ordinal" "I" (.int (0 : Int32)) := f483.other W504 (Or.inl ne404)
  have f514 : Fld Z h503 r_MINIMUM_REGRET "java/lang/Enum" "ordinal" "I" (.int (1 : Int32)) := f484.other W504 (Or.inl ne405)
  have f515 : Fld Z h503 r_GENEROUS "java/lang/Enum" "ordinal" "I" (.int (4 : Int32)) := f485.other W504 (Or.inl ne408)
  have f516 : Fld Z h503 r_RANK_MAXIMAL "java/lang/Enum" "ordinal" "I" (.int (3 : Int32)) := f486.other W504 (Or.inl ne407)
  have f517 : Fld Z h503 r_FIRST_CHOICE_MAXIMAL "java/lang/Enum" "ordinal" "I" (.int (2 : Int32)) := f487.other W504 (Or.inl ne406)
  have f518 : Aro Z h503 a1 "dev/stablemate/solve/Criterion" [.ref r_EGALITARIAN, .ref r_MINIMUM_REGRET, .ref r_FIRST_CHOICE_MAXIMAL, .ref r_RANK_MAXIMAL, .ref r_GENEROUS] := f488.other W504 ne409
  have f519 : Exa Z h503 a123 "[I" := f489.wr W504
  have f520 : Ari Z h503 a123 .int [(2 : Int32), (2 : Int32), (2 : Int32)] := f490.other W504 ne410
  have f521 : Exa Z h503 a204 "[I" := f491.wr W504
  have f522 : Ari Z h503 a204 .int [(1 : Int32), (3 : Int32), (1 : Int32)] := f492.other W504 ne411
  have f523 : Exa Z h503 a297 "dev/stablemate/solve/Profile" := f493.wr W504
  have f524 : Fld Z h503 a297 "dev/stablemate/solve/Profile" "counts" "[I" (.ref a298) := f494.other W504 (Or.inl ne412)
  have f525 : Fld Z h503 a297 "dev/stablemate/solve/Profile" "cost" "J" (.long (6 : Int64)) := f495.other W504 (Or.inl ne412)
  have f526 : Ari Z h503 a298 .int [(0 : Int32), (3 : Int32)] := f496.other W504 ne413
  have f527 : Exa Z h503 a345 "dev/stablemate/solve/Profile" := f497.wr W504
  have f528 : Fld Z h503 a345 "dev/stablemate/solve/Profile" "counts" "[I" (.ref a346) := f498.other W504 (Or.inl ne414)
  have f529 : Fld Z h503 a345 "dev/stablemate/solve/Profile" "cost" "J" (.long (4 : Int64)) := f499.other W504 (Or.inl ne414)
  have f530 : Ari Z h503 a346 .int [(1 : Int32), (0 : Int32), (1 : Int32)] := f500.other W504 ne415
  have f531 : Exa Z h503 a398 "[I" := f501.wr W504
  have zs532 : Z.heap.size ≤ h503.size := W504.size ▸ zs502
  refine Go.astore 130 #[.val (.int i0), .val (.int i1), .val (.int i2), .val (.ref a1), .val (.ref cc), .val (.ref a123), .val (.ref a204), .val (.ref a297), .val (.ref a345), .val (.ref a398), .unset, .unset, .unset, .unset, .unset] at_128 rfl rfl rfl ?_
  refine Go.iconst 131 (3) at_130 (by decide) rfl ?_
  refine Go.newIE (cap := 3) (xs := [0, 0, 0]) "[I" 133 at_131 (tw15 hw) rfl (by decide) (by decide) (by decide) (by decide) rfl (by decide) (by decide) rfl (fun a533 h534 q535 E536 A537 Ex538 => ?_)
  have ne539 : r_EGALITARIAN ≠ a533 := fun e => absurd f506.lt (by rw [e, q535]; exact Nat.lt_irrefl _)
  have ne540 : r_MINIMUM_REGRET ≠ a533 := fun e => absurd f508.lt (by rw [e, q535]; exact Nat.lt_irrefl _)
  have ne541 : r_FIRST_CHOICE_MAXIMAL ≠ a533 := fun e => absurd f509.lt (by rw [e, q535]; exact Nat.lt_irrefl _)
  have ne542 : r_RANK_MAXIMAL ≠ a533 := fun e => absurd f510.lt (by rw [e, q535]; exact Nat.lt_irrefl _)
  have ne543 : r_GENEROUS ≠ a533 := fun e => absurd f512.lt (by rw [e, q535]; exact Nat.lt_irrefl _)
  have ne544 : a1 ≠ a533 := fun e => absurd f518.lt (by rw [e, q535]; exact Nat.lt_irrefl _)
  have ne545 : a123 ≠ a533 := fun e => absurd f519.lt (by rw [e, q535]; exact Nat.lt_irrefl _)
  have ne546 : a204 ≠ a533 := fun e => absurd f521.lt (by rw [e, q535]; exact Nat.lt_irrefl _)
  have ne547 : a297 ≠ a533 := fun e => absurd f523.lt (by rw [e, q535]; exact Nat.lt_irrefl _)
  have ne548 : a298 ≠ a533 := fun e => absurd f526.lt (by rw [e, q535]; exact Nat.lt_irrefl _)
  have ne549 : a345 ≠ a533 := fun e => absurd f527.lt (by rw [e, q535]; exact Nat.lt_irrefl _)
  have ne550 : a346 ≠ a533 := fun e => absurd f530.lt (by rw [e, q535]; exact Nat.lt_irrefl _)
  have ne551 : a398 ≠ a533 := fun e => absurd f531.lt (by rw [e, q535]; exact Nat.lt_irrefl _)
  have ge552 : Z.heap.size ≤ a533 := (Eq.symm q535) ▸ zs532
  have f553 : Exa Z h534 r_EGALITARIAN "dev/stablemate/solve/Criterion" := f506.ext E536
  have f554 : Sta Z h534 "dev/stablemate/solve/Criterion" "MINIMUM_REGRET" "Ldev/stablemate/solve/Criterion;" (.ref r_MINIMUM_REGRET) := f507.ext E536
  have f555 : Exa Z h534 r_MINIMUM_REGRET "dev/stablemate/solve/Criterion" := f508.ext E536
  have f556 : Exa Z h534 r_FIRST_CHOICE_MAXIMAL "dev/stablemate/solve/Criterion" := f509.ext E536
  have f557 : Exa Z h534 r_RANK_MAXIMAL "dev/stablemate/solve/Criterion" := f510.ext E536
  have f558 : Sta Z h534 "dev/stablemate/solve/Criterion" "GENEROUS" "Ldev/stablemate/solve/Criterion;" (.ref r_GENEROUS) := f511.ext E536
  have f559 : Exa Z h534 r_GENEROUS "dev/stablemate/solve/Criterion" := f512.ext E536
  have f560 : Fld Z h534 r_EGALITARIAN "java/lang/Enum" "ordinal" "I" (.int (0 : Int32)) := f513.ext E536
  have f561 : Fld Z h534 r_MINIMUM_REGRET "java/lang/Enum" "ordinal" "I" (.int (1 : Int32)) := f514.ext E536
  have f562 : Fld Z h534 r_GENEROUS "java/lang/Enum" "ordinal" "I" (.int (4 : Int32)) := f515.ext E536
  have f563 : Fld Z h534 r_RANK_MAXIMAL "java/lang/Enum" "ordinal" "I" (.int (3 : Int32)) := f516.ext E536
  have f564 : Fld Z h534 r_FIRST_CHOICE_MAXIMAL "java/lang/Enum" "ordinal" "I" (.int (2 : Int32)) := f517.ext E536
  have f565 : Aro Z h534 a1 "dev/stablemate/solve/Criterion" [.ref r_EGALITARIAN, .ref r_MINIMUM_REGRET, .ref r_FIRST_CHOICE_MAXIMAL, .ref r_RANK_MAXIMAL, .ref r_GENEROUS] := f518.ext E536
  have f566 : Exa Z h534 a123 "[I" := f519.ext E536
  have f567 : Ari Z h534 a123 .int [(2 : Int32), (2 : Int32), (2 : Int32)] := f520.ext E536
  have f568 : Exa Z h534 a204 "[I" := f521.ext E536
  have f569 : Ari Z h534 a204 .int [(1 : Int32), (3 : Int32), (1 : Int32)] := f522.ext E536
  have f570 : Exa Z h534 a297 "dev/stablemate/solve/Profile" := f523.ext E536
  have f571 : Fld Z h534 a297 "dev/stablemate/solve/Profile" "counts" "[I" (.ref a298) := f524.ext E536
  have f572 : Fld Z h534 a297 "dev/stablemate/solve/Profile" "cost" "J" (.long (6 : Int64)) := f525.ext E536
  have f573 : Ari Z h534 a298 .int [(0 : Int32), (3 : Int32)] := f526.ext E536
  have f574 : Exa Z h534 a345 "dev/stablemate/solve/Profile" := f527.ext E536
  have f575 : Fld Z h534 a345 "dev/stablemate/solve/Profile" "counts" "[I" (.ref a346) := f528.ext E536
  have f576 : Fld Z h534 a345 "dev/stablemate/solve/Profile" "cost" "J" (.long (4 : Int64)) := f529.ext E536
  have f577 : Ari Z h534 a346 .int [(1 : Int32), (0 : Int32), (1 : Int32)] := f530.ext E536
  have f578 : Exa Z h534 a398 "[I" := f531.ext E536
  have f579 : Ari Z h534 a398 .int [((i1 &&& (3 : Int32)) + (1 : Int32)), (((XT.ushr i1 (2 : Int32)) &&& (3 : Int32)) + (1 : Int32)), (((XT.ushr i1 (4 : Int32)) &&& (3 : Int32)) + (1 : Int32))] := A505.ext E536
  have zs580 : Z.heap.size ≤ h534.size := Nat.le_trans zs532 E536.1
  refine Go.dup 134 at_133 rfl rfl ?_
  refine Go.iconst 135 (0) at_134 (by decide) rfl ?_
  refine Go.iload_n 136 at_135 rfl rfl ?_
  refine Go.iconst 137 (3) at_136 (by decide) rfl ?_
  refine Go.iand 138 at_137 rfl ?_
  refine Go.iconst 139 (1) at_138 (by decide) rfl ?_
  refine Go.iadd 140 at_139 rfl ?_
  refine Go.iastore (0) ([((i2 &&& (3 : Int32)) + (1 : Int32)), 0, 0]) 141 at_140 A537 (by decide) (by decide) (by decide : (0 : Nat) < 3) rfl ge552 rfl (fun h581 W582 A583 => ?_)
  have f584 : Exa Z h581 r_EGALITARIAN "dev/stablemate/solve/Criterion" := f553.wr W582
  have f585 : Sta Z h581 "dev/stablemate/solve/Criterion" "MINIMUM_REGRET" "Ldev/stablemate/solve/Criterion;" (.ref r_MINIMUM_REGRET) := f554.wr W582
  have f586 : Exa Z h581 r_MINIMUM_REGRET "dev/stablemate/solve/Criterion" := f555.wr W582
  have f587 : Exa Z h581 r_FIRST_CHOICE_MAXIMAL "dev/stablemate/solve/Criterion" := f556.wr W582
  have f588 : Exa Z h581 r_RANK_MAXIMAL "dev/stablemate/solve/Criterion" := f557.wr W582
  have f589 : Sta Z h581 "dev/stablemate/solve/Criterion" "GENEROUS" "Ldev/stablemate/solve/Criterion;" (.ref r_GENEROUS) := f558.wr W582
  have f590 : Exa Z h581 r_GENEROUS "dev/stablemate/solve/Criterion" := f559.wr W582
  have f591 : Fld Z h581 r_EGALITARIAN "java/lang/Enum" "ordinal" "I" (.int (0 : Int32)) := f560.other W582 (Or.inl ne539)
  have f592 : Fld Z h581 r_MINIMUM_REGRET "java/lang/Enum" "ordinal" "I" (.int (1 : Int32)) := f561.other W582 (Or.inl ne540)
  have f593 : Fld Z h581 r_GENEROUS "java/lang/Enum" "ordinal" "I" (.int (4 : Int32)) := f562.other W582 (Or.inl ne543)
  have f594 : Fld Z h581 r_RANK_MAXIMAL "java/lang/Enum" "ordinal" "I" (.int (3 : Int32)) := f563.other W582 (Or.inl ne542)
  have f595 : Fld Z h581 r_FIRST_CHOICE_MAXIMAL "java/lang/Enum" "ordinal" "I" (.int (2 : Int32)) := f564.other W582 (Or.inl ne541)
  have f596 : Aro Z h581 a1 "dev/stablemate/solve/Criterion" [.ref r_EGALITARIAN, .ref r_MINIMUM_REGRET, .ref r_FIRST_CHOICE_MAXIMAL, .ref r_RANK_MAXIMAL, .ref r_GENEROUS] := f565.other W582 ne544
  have f597 : Exa Z h581 a123 "[I" := f566.wr W582
  have f598 : Ari Z h581 a123 .int [(2 : Int32), (2 : Int32), (2 : Int32)] := f567.other W582 ne545
  have f599 : Exa Z h581 a204 "[I" := f568.wr W582
  have f600 : Ari Z h581 a204 .int [(1 : Int32), (3 : Int32), (1 : Int32)] := f569.other W582 ne546
  have f601 : Exa Z h581 a297 "dev/stablemate/solve/Profile" := f570.wr W582
  have f602 : Fld Z h581 a297 "dev/stablemate/solve/Profile" "counts" "[I" (.ref a298) := f571.other W582 (Or.inl ne547)
  have f603 : Fld Z h581 a297 "dev/stablemate/solve/Profile" "cost" "J" (.long (6 : Int64)) := f572.other W582 (Or.inl ne547)
  have f604 : Ari Z h581 a298 .int [(0 : Int32), (3 : Int32)] := f573.other W582 ne548
  have f605 : Exa Z h581 a345 "dev/stablemate/solve/Profile" := f574.wr W582
  have f606 : Fld Z h581 a345 "dev/stablemate/solve/Profile" "counts" "[I" (.ref a346) := f575.other W582 (Or.inl ne549)
  have f607 : Fld Z h581 a345 "dev/stablemate/solve/Profile" "cost" "J" (.long (4 : Int64)) := f576.other W582 (Or.inl ne549)
  have f608 : Ari Z h581 a346 .int [(1 : Int32), (0 : Int32), (1 : Int32)] := f577.other W582 ne550
  have f609 : Exa Z h581 a398 "[I" := f578.wr W582
  have f610 : Ari Z h581 a398 .int [((i1 &&& (3 : Int32)) + (1 : Int32)), (((XT.ushr i1 (2 : Int32)) &&& (3 : Int32)) + (1 : Int32)), (((XT.ushr i1 (4 : Int32)) &&& (3 : Int32)) + (1 : Int32))] := f579.other W582 ne551
  have f611 : Exa Z h581 a533 "[I" := Ex538.wr W582
  have zs612 : Z.heap.size ≤ h581.size := W582.size ▸ zs580
  refine Go.dup 142 at_141 rfl rfl ?_
  refine Go.iconst 143 (1) at_142 (by decide) rfl ?_
  refine Go.iload_n 144 at_143 rfl rfl ?_
  refine Go.iconst 145 (2) at_144 (by decide) rfl ?_
  refine Go.iushr 146 at_145 rfl ?_
  refine Go.iconst 147 (3) at_146 (by decide) rfl ?_
  refine Go.iand 148 at_147 rfl ?_
  refine Go.iconst 149 (1) at_148 (by decide) rfl ?_
  refine Go.iadd 150 at_149 rfl ?_
  refine Go.iastore (1) ([((i2 &&& (3 : Int32)) + (1 : Int32)), (((XT.ushr i2 (2 : Int32)) &&& (3 : Int32)) + (1 : Int32)), 0]) 151 at_150 A583 (by decide) (by decide) (by decide : (1 : Nat) < 3) rfl ge552 rfl (fun h613 W614 A615 => ?_)
  have f616 : Exa Z h613 r_EGALITARIAN "dev/stablemate/solve/Criterion" := f584.wr W614
  have f617 : Sta Z h613 "dev/stablemate/solve/Criterion" "MINIMUM_REGRET" "Ldev/stablemate/solve/Criterion;" (.ref r_MINIMUM_REGRET) := f585.wr W614
  have f618 : Exa Z h613 r_MINIMUM_REGRET "dev/stablemate/solve/Criterion" := f586.wr W614
  have f619 : Exa Z h613 r_FIRST_CHOICE_MAXIMAL "dev/stablemate/solve/Criterion" := f587.wr W614
  have f620 : Exa Z h613 r_RANK_MAXIMAL "dev/stablemate/solve/Criterion" := f588.wr W614
  have f621 : Sta Z h613 "dev/stablemate/solve/Criterion" "GENEROUS" "Ldev/stablemate/solve/Criterion;" (.ref r_GENEROUS) := f589.wr W614
  have f622 : Exa Z h613 r_GENEROUS "dev/stablemate/solve/Criterion" := f590.wr W614
  have f623 : Fld Z h613 r_EGALITARIAN "java/lang/Enum" "ordinal" "I" (.int (0 : Int32)) := f591.other W614 (Or.inl ne539)
  have f624 : Fld Z h613 r_MINIMUM_REGRET "java/lang/Enum" "ordinal" "I" (.int (1 : Int32)) := f592.other W614 (Or.inl ne540)
  have f625 : Fld Z h613 r_GENEROUS "java/lang/Enum" "ordinal" "I" (.int (4 : Int32)) := f593.other W614 (Or.inl ne543)
  have f626 : Fld Z h613 r_RANK_MAXIMAL "java/lang/Enum" "ordinal" "I" (.int (3 : Int32)) := f594.other W614 (Or.inl ne542)
  have f627 : Fld Z h613 r_FIRST_CHOICE_MAXIMAL "java/lang/Enum" "ordinal" "I" (.int (2 : Int32)) := f595.other W614 (Or.inl ne541)
  have f628 : Aro Z h613 a1 "dev/stablemate/solve/Criterion" [.ref r_EGALITARIAN, .ref r_MINIMUM_REGRET, .ref r_FIRST_CHOICE_MAXIMAL, .ref r_RANK_MAXIMAL, .ref r_GENEROUS] := f596.other W614 ne544
  have f629 : Exa Z h613 a123 "[I" := f597.wr W614
  have f630 : Ari Z h613 a123 .int [(2 : Int32), (2 : Int32), (2 : Int32)] := f598.other W614 ne545
  have f631 : Exa Z h613 a204 "[I" := f599.wr W614
  have f632 : Ari Z h613 a204 .int [(1 : Int32), (3 : Int32), (1 : Int32)] := f600.other W614 ne546
  have f633 : Exa Z h613 a297 "dev/stablemate/solve/Profile" := f601.wr W614
  have f634 : Fld Z h613 a297 "dev/stablemate/solve/Profile" "counts" "[I" (.ref a298) := f602.other W614 (Or.inl ne547)
  have f635 : Fld Z h613 a297 "dev/stablemate/solve/Profile" "cost" "J" (.long (6 : Int64)) := f603.other W614 (Or.inl ne547)
  have f636 : Ari Z h613 a298 .int [(0 : Int32), (3 : Int32)] := f604.other W614 ne548
  have f637 : Exa Z h613 a345 "dev/stablemate/solve/Profile" := f605.wr W614
  have f638 : Fld Z h613 a345 "dev/stablemate/solve/Profile" "counts" "[I" (.ref a346) := f606.other W614 (Or.inl ne549)
  have f639 : Fld Z h613 a345 "dev/stablemate/solve/Profile" "cost" "J" (.long (4 : Int64)) := f607.other W614 (Or.inl ne549)
  have f640 : Ari Z h613 a346 .int [(1 : Int32), (0 : Int32), (1 : Int32)] := f608.other W614 ne550
  have f641 : Exa Z h613 a398 "[I" := f609.wr W614
  have f642 : Ari Z h613 a398 .int [((i1 &&& (3 : Int32)) + (1 : Int32)), (((XT.ushr i1 (2 : Int32)) &&& (3 : Int32)) + (1 : Int32)), (((XT.ushr i1 (4 : Int32)) &&& (3 : Int32)) + (1 : Int32))] := f610.other W614 ne551
  have f643 : Exa Z h613 a533 "[I" := f611.wr W614
  have zs644 : Z.heap.size ≤ h613.size := W614.size ▸ zs612
  refine Go.dup 152 at_151 rfl rfl ?_
  refine Go.iconst 153 (2) at_152 (by decide) rfl ?_
  refine Go.iload_n 154 at_153 rfl rfl ?_
  refine Go.iconst 155 (4) at_154 (by decide) rfl ?_
  refine Go.iushr 156 at_155 rfl ?_
  refine Go.iconst 157 (3) at_156 (by decide) rfl ?_
  refine Go.iand 158 at_157 rfl ?_
  refine Go.iconst 159 (1) at_158 (by decide) rfl ?_
  refine Go.iadd 160 at_159 rfl ?_
  refine Go.iastore (2) ([((i2 &&& (3 : Int32)) + (1 : Int32)), (((XT.ushr i2 (2 : Int32)) &&& (3 : Int32)) + (1 : Int32)), (((XT.ushr i2 (4 : Int32)) &&& (3 : Int32)) + (1 : Int32))]) 161 at_160 A615 (by decide) (by decide) (by decide : (2 : Nat) < 3) rfl ge552 rfl (fun h645 W646 A647 => ?_)
  have f648 : Exa Z h645 r_EGALITARIAN "dev/stablemate/solve/Criterion" := f616.wr W646
  have f649 : Sta Z h645 "dev/stablemate/solve/Criterion" "MINIMUM_REGRET" "Ldev/stablemate/solve/Criterion;" (.ref r_MINIMUM_REGRET) := f617.wr W646
  have f650 : Exa Z h645 r_MINIMUM_REGRET "dev/stablemate/solve/Criterion" := f618.wr W646
  have f651 : Exa Z h645 r_FIRST_CHOICE_MAXIMAL "dev/stablemate/solve/Criterion" := f619.wr W646
  have f652 : Exa Z h645 r_RANK_MAXIMAL "dev/stablemate/solve/Criterion" := f620.wr W646
  have f653 : Sta Z h645 "dev/stablemate/solve/Criterion" "GENEROUS" "Ldev/stablemate/solve/Criterion;" (.ref r_GENEROUS) := f621.wr W646
  have f654 : Exa Z h645 r_GENEROUS "dev/stablemate/solve/Criterion" := f622.wr W646
  have f655 : Fld Z h645 r_EGALITARIAN "java/lang/Enum" "ordinal" "I" (.int (0 : Int32)) := f623.other W646 (Or.inl ne539)
  have f656 : Fld Z h645 r_MINIMUM_REGRET "java/lang/Enum" "ordinal" "I" (.int (1 : Int32)) := f624.other W646 (Or.inl ne540)
  have f657 : Fld Z h645 r_GENEROUS "java/lang/Enum" "ordinal" "I" (.int (4 : Int32)) := f625.other W646 (Or.inl ne543)
  have f658 : Fld Z h645 r_RANK_MAXIMAL "java/lang/Enum" "ordinal" "I" (.int (3 : Int32)) := f626.other W646 (Or.inl ne542)
  have f659 : Fld Z h645 r_FIRST_CHOICE_MAXIMAL "java/lang/Enum" "ordinal" "I" (.int (2 : Int32)) := f627.other W646 (Or.inl ne541)
  have f660 : Aro Z h645 a1 "dev/stablemate/solve/Criterion" [.ref r_EGALITARIAN, .ref r_MINIMUM_REGRET, .ref r_FIRST_CHOICE_MAXIMAL, .ref r_RANK_MAXIMAL, .ref r_GENEROUS] := f628.other W646 ne544
  have f661 : Exa Z h645 a123 "[I" := f629.wr W646
  have f662 : Ari Z h645 a123 .int [(2 : Int32), (2 : Int32), (2 : Int32)] := f630.other W646 ne545
  have f663 : Exa Z h645 a204 "[I" := f631.wr W646
  have f664 : Ari Z h645 a204 .int [(1 : Int32), (3 : Int32), (1 : Int32)] := f632.other W646 ne546
  have f665 : Exa Z h645 a297 "dev/stablemate/solve/Profile" := f633.wr W646
  have f666 : Fld Z h645 a297 "dev/stablemate/solve/Profile" "counts" "[I" (.ref a298) := f634.other W646 (Or.inl ne547)
  have f667 : Fld Z h645 a297 "dev/stablemate/solve/Profile" "cost" "J" (.long (6 : Int64)) := f635.other W646 (Or.inl ne547)
  have f668 : Ari Z h645 a298 .int [(0 : Int32), (3 : Int32)] := f636.other W646 ne548
  have f669 : Exa Z h645 a345 "dev/stablemate/solve/Profile" := f637.wr W646
  have f670 : Fld Z h645 a345 "dev/stablemate/solve/Profile" "counts" "[I" (.ref a346) := f638.other W646 (Or.inl ne549)
  have f671 : Fld Z h645 a345 "dev/stablemate/solve/Profile" "cost" "J" (.long (4 : Int64)) := f639.other W646 (Or.inl ne549)
  have f672 : Ari Z h645 a346 .int [(1 : Int32), (0 : Int32), (1 : Int32)] := f640.other W646 ne550
  have f673 : Exa Z h645 a398 "[I" := f641.wr W646
  have f674 : Ari Z h645 a398 .int [((i1 &&& (3 : Int32)) + (1 : Int32)), (((XT.ushr i1 (2 : Int32)) &&& (3 : Int32)) + (1 : Int32)), (((XT.ushr i1 (4 : Int32)) &&& (3 : Int32)) + (1 : Int32))] := f642.other W646 ne551
  have f675 : Exa Z h645 a533 "[I" := f643.wr W646
  have zs676 : Z.heap.size ≤ h645.size := W646.size ▸ zs644
  refine Go.astore 163 #[.val (.int i0), .val (.int i1), .val (.int i2), .val (.ref a1), .val (.ref cc), .val (.ref a123), .val (.ref a204), .val (.ref a297), .val (.ref a345), .val (.ref a398), .val (.ref a533), .unset, .unset, .unset, .unset] at_161 rfl rfl rfl ?_
  refine Go.iconst 164 (4) at_163 (by decide) rfl ?_
  refine Go.aload 166 at_164 rfl rfl rfl ?_
  refine Go.iload_n 167 at_166 rfl rfl ?_
  refine Go.bipush 169 (6) at_167 (by decide) rfl ?_
  refine Go.iushr 170 at_169 rfl ?_
  refine Go.iconst 171 (3) at_170 (by decide) rfl ?_
  refine Go.iand 172 at_171 rfl ?_
  refine Go.callSR [.int (4 : Int32), .ref a398, .int ((XT.ushr i1 (6 : Int32)) &&& (3 : Int32))] [] 175 at_172 (tw16 hw) (tw17 hw) (tw18 hw) (tw19 hw) pl1 (by decide) (lenOf pd1 rfl) rfl (fun m => ef_k_of m (4 : Int32) a398 ((XT.ushr i1 (6 : Int32)) &&& (3 : Int32))) _ (k_of hw h645 zs676 a398 (((XT.ushr i1 (6 : Int32)) &&& (3 : Int32))) f674 (own_three _) (own_rkx _) (own_rkx _) (own_rkx _)) 0 rfl (Nat.le_of_eq rfl) (by decide) (by decide) (by decide) (by decide) rfl ?_
  rintro z677 h678 ⟨a680, a681, rfl, g682, g683, ne684, K679, f685, f686, f687⟩
  have ne688 : r_EGALITARIAN ≠ a680 := Nat.ne_of_lt (Nat.lt_of_lt_of_le f648.lt g682)
  have ne689 : r_MINIMUM_REGRET ≠ a680 := Nat.ne_of_lt (Nat.lt_of_lt_of_le f650.lt g682)
  have ne690 : r_FIRST_CHOICE_MAXIMAL ≠ a680 := Nat.ne_of_lt (Nat.lt_of_lt_of_le f651.lt g682)
  have ne691 : r_RANK_MAXIMAL ≠ a680 := Nat.ne_of_lt (Nat.lt_of_lt_of_le f652.lt g682)
  have ne692 : r_GENEROUS ≠ a680 := Nat.ne_of_lt (Nat.lt_of_lt_of_le f654.lt g682)
  have ne693 : a1 ≠ a680 := Nat.ne_of_lt (Nat.lt_of_lt_of_le f660.lt g682)
  have ne694 : a123 ≠ a680 := Nat.ne_of_lt (Nat.lt_of_lt_of_le f661.lt g682)
  have ne695 : a204 ≠ a680 := Nat.ne_of_lt (Nat.lt_of_lt_of_le f663.lt g682)
  have ne696 : a297 ≠ a680 := Nat.ne_of_lt (Nat.lt_of_lt_of_le f665.lt g682)
  have ne697 : a298 ≠ a680 := Nat.ne_of_lt (Nat.lt_of_lt_of_le f668.lt g682)
  have ne698 : a345 ≠ a680 := Nat.ne_of_lt (Nat.lt_of_lt_of_le f669.lt g682)
  have ne699 : a346 ≠ a680 := Nat.ne_of_lt (Nat.lt_of_lt_of_le f672.lt g682)
  have ne700 : a398 ≠ a680 := Nat.ne_of_lt (Nat.lt_of_lt_of_le f673.lt g682)
  have ne701 : a533 ≠ a680 := Nat.ne_of_lt (Nat.lt_of_lt_of_le f675.lt g682)
  have ge702 : Z.heap.size ≤ a680 := Nat.le_trans zs676 g682
  have ne703 : r_EGALITARIAN ≠ a681 := Nat.ne_of_lt (Nat.lt_of_lt_of_le f648.lt g683)
  have ne704 : r_MINIMUM_REGRET ≠ a681 := Nat.ne_of_lt (Nat.lt_of_lt_of_le f650.lt g683)
  have ne705 : r_FIRST_CHOICE_MAXIMAL ≠ a681 := Nat.ne_of_lt (Nat.lt_of_lt_of_le f651.lt g683)
  have ne706 : r_RANK_MAXIMAL ≠ a681 := Nat.ne_of_lt (Nat.lt_of_lt_of_le f652.lt g683)
  have ne707 : r_GENEROUS ≠ a681 := Nat.ne_of_lt (Nat.lt_of_lt_of_le f654.lt g683)
  have ne708 : a1 ≠ a681 := Nat.ne_of_lt (Nat.lt_of_lt_of_le f660.lt g683)
  have ne709 : a123 ≠ a681 := Nat.ne_of_lt (Nat.lt_of_lt_of_le f661.lt g683)
  have ne710 : a204 ≠ a681 := Nat.ne_of_lt (Nat.lt_of_lt_of_le f663.lt g683)
  have ne711 : a297 ≠ a681 := Nat.ne_of_lt (Nat.lt_of_lt_of_le f665.lt g683)
  have ne712 : a298 ≠ a681 := Nat.ne_of_lt (Nat.lt_of_lt_of_le f668.lt g683)
  have ne713 : a345 ≠ a681 := Nat.ne_of_lt (Nat.lt_of_lt_of_le f669.lt g683)
  have ne714 : a346 ≠ a681 := Nat.ne_of_lt (Nat.lt_of_lt_of_le f672.lt g683)
  have ne715 : a398 ≠ a681 := Nat.ne_of_lt (Nat.lt_of_lt_of_le f673.lt g683)
  have ne716 : a533 ≠ a681 := Nat.ne_of_lt (Nat.lt_of_lt_of_le f675.lt g683)
  have ge717 : Z.heap.size ≤ a681 := Nat.le_trans zs676 g683
  have f718 : Exa Z h678 r_EGALITARIAN "dev/stablemate/solve/Criterion" := f648.keep K679
  have f719 : Sta Z h678 "dev/stablemate/solve/Criterion" "MINIMUM_REGRET" "Ldev/stablemate/solve/Criterion;" (.ref r_MINIMUM_REGRET) := own_staK f649 K679 all0
  have f720 : Exa Z h678 r_MINIMUM_REGRET "dev/stablemate/solve/Criterion" := f650.keep K679
  have f721 : Exa Z h678 r_FIRST_CHOICE_MAXIMAL "dev/stablemate/solve/Criterion" := f651.keep K679
  have f722 : Exa Z h678 r_RANK_MAXIMAL "dev/stablemate/solve/Criterion" := f652.keep K679
  have f723 : Sta Z h678 "dev/stablemate/solve/Criterion" "GENEROUS" "Ldev/stablemate/solve/Criterion;" (.ref r_GENEROUS) := own_staK f653 K679 all0
  have f724 : Exa Z h678 r_GENEROUS "dev/stablemate/solve/Criterion" := f654.keep K679
  have f725 : Fld Z h678 r_EGALITARIAN "java/lang/Enum" "ordinal" "I" (.int (0 : Int32)) := f655.keep K679 nin0
  have f726 : Fld Z h678 r_MINIMUM_REGRET "java/lang/Enum" "ordinal" "I" (.int (1 : Int32)) := f656.keep K679 nin0
  have f727 : Fld Z h678 r_GENEROUS "java/lang/Enum" "ordinal" "I" (.int (4 : Int32)) := f657.keep K679 nin0
  have f728 : Fld Z h678 r_RANK_MAXIMAL "java/lang/Enum" "ordinal" "I" (.int (3 : Int32)) := f658.keep K679 nin0
  have f729 : Fld Z h678 r_FIRST_CHOICE_MAXIMAL "java/lang/Enum" "ordinal" "I" (.int (2 : Int32)) := f659.keep K679 nin0
  have f730 : Aro Z h678 a1 "dev/stablemate/solve/Criterion" [.ref r_EGALITARIAN, .ref r_MINIMUM_REGRET, .ref r_FIRST_CHOICE_MAXIMAL, .ref r_RANK_MAXIMAL, .ref r_GENEROUS] := f660.keep K679 nin0
  have f731 : Exa Z h678 a123 "[I" := f661.keep K679
  have f732 : Ari Z h678 a123 .int [(2 : Int32), (2 : Int32), (2 : Int32)] := f662.keep K679 nin0
  have f733 : Exa Z h678 a204 "[I" := f663.keep K679
  have f734 : Ari Z h678 a204 .int [(1 : Int32), (3 : Int32), (1 : Int32)] := f664.keep K679 nin0
  have f735 : Exa Z h678 a297 "dev/stablemate/solve/Profile" := f665.keep K679
  have f736 : Fld Z h678 a297 "dev/stablemate/solve/Profile" "counts" "[I" (.ref a298) := f666.keep K679 nin0
  have f737 : Fld Z h678 a297 "dev/stablemate/solve/Profile" "cost" "J" (.long (6 : Int64)) := f667.keep K679 nin0
  have f738 : Ari Z h678 a298 .int [(0 : Int32), (3 : Int32)] := f668.keep K679 nin0
  have f739 : Exa Z h678 a345 "dev/stablemate/solve/Profile" := f669.keep K679
  have f740 : Fld Z h678 a345 "dev/stablemate/solve/Profile" "counts" "[I" (.ref a346) := f670.keep K679 nin0
  have f741 : Fld Z h678 a345 "dev/stablemate/solve/Profile" "cost" "J" (.long (4 : Int64)) := f671.keep K679 nin0
  have f742 : Ari Z h678 a346 .int [(1 : Int32), (0 : Int32), (1 : Int32)] := f672.keep K679 nin0
  have f743 : Exa Z h678 a398 "[I" := f673.keep K679
  have f744 : Ari Z h678 a398 .int [((i1 &&& (3 : Int32)) + (1 : Int32)), (((XT.ushr i1 (2 : Int32)) &&& (3 : Int32)) + (1 : Int32)), (((XT.ushr i1 (4 : Int32)) &&& (3 : Int32)) + (1 : Int32))] := f674.keep K679 nin0
  have f745 : Exa Z h678 a533 "[I" := f675.keep K679
  have f746 : Ari Z h678 a533 .int [((i2 &&& (3 : Int32)) + (1 : Int32)), (((XT.ushr i2 (2 : Int32)) &&& (3 : Int32)) + (1 : Int32)), (((XT.ushr i2 (4 : Int32)) &&& (3 : Int32)) + (1 : Int32))] := A647.keep K679 nin0
  have zs747 : Z.heap.size ≤ h678.size := Nat.le_trans zs676 K679.1
  refine Go.astore 177 #[.val (.int i0), .val (.int i1), .val (.int i2), .val (.ref a1), .val (.ref cc), .val (.ref a123), .val (.ref a204), .val (.ref a297), .val (.ref a345), .val (.ref a398), .val (.ref a533), .val (.ref a680), .unset, .unset, .unset] at_175 rfl rfl rfl ?_
  refine Go.iconst 178 (4) at_177 (by decide) rfl ?_
  refine Go.aload 180 at_178 rfl rfl rfl ?_
  refine Go.iload_n 181 at_180 rfl rfl ?_
  refine Go.bipush 183 (6) at_181 (by decide) rfl ?_
  refine Go.iushr 184 at_183 rfl ?_
  refine Go.iconst 185 (3) at_184 (by decide) rfl ?_
  refine Go.iand 186 at_185 rfl ?_
  refine Go.callSR [.int (4 : Int32), .ref a533, .int ((XT.ushr i2 (6 : Int32)) &&& (3 : Int32))] [] 189 at_186 (tw16 hw) (tw17 hw) (tw18 hw) (tw19 hw) pl1 (by decide) (lenOf pd1 rfl) rfl (fun m => ef_k_of m (4 : Int32) a533 ((XT.ushr i2 (6 : Int32)) &&& (3 : Int32))) _ (k_of hw h678 zs747 a533 (((XT.ushr i2 (6 : Int32)) &&& (3 : Int32))) f746 (own_three _) (own_rkx _) (own_rkx _) (own_rkx _)) 0 rfl (Nat.le_of_eq rfl) (by decide) (by decide) (by decide) (by decide) rfl ?_
  rintro z748 h749 ⟨a751, a752, rfl, g753, g754, ne755, K750, f756, f757, f758⟩
  have ne759 : r_EGALITARIAN ≠ a751 := Nat.ne_of_lt (Nat.lt_of_lt_of_le f718.lt g753)
  have ne760 : r_MINIMUM_REGRET ≠ a751 := Nat.ne_of_lt (Nat.lt_of_lt_of_le f720.lt g753)
  have ne761 : r_FIRST_CHOICE_MAXIMAL ≠ a751 := Nat.ne_of_lt (Nat.lt_of_lt_of_le f721.lt g753)
  have ne762 : r_RANK_MAXIMAL ≠ a751 := Nat.ne_of_lt (Nat.lt_of_lt_of_le f722.lt g753)
  have ne763 : r_GENEROUS ≠ a751 := Nat.ne_of_lt (Nat.lt_of_lt_of_le f724.lt g753)
  have ne764 : a1 ≠ a751 := Nat.ne_of_lt (Nat.lt_of_lt_of_le f730.lt g753)
  have ne765 : a123 ≠ a751 := Nat.ne_of_lt (Nat.lt_of_lt_of_le f731.lt g753)
  have ne766 : a204 ≠ a751 := Nat.ne_of_lt (Nat.lt_of_lt_of_le f733.lt g753)
  have ne767 : a297 ≠ a751 := Nat.ne_of_lt (Nat.lt_of_lt_of_le f735.lt g753)
  have ne768 : a298 ≠ a751 := Nat.ne_of_lt (Nat.lt_of_lt_of_le f738.lt g753)
  have ne769 : a345 ≠ a751 := Nat.ne_of_lt (Nat.lt_of_lt_of_le f739.lt g753)
  have ne770 : a346 ≠ a751 := Nat.ne_of_lt (Nat.lt_of_lt_of_le f742.lt g753)
  have ne771 : a398 ≠ a751 := Nat.ne_of_lt (Nat.lt_of_lt_of_le f743.lt g753)
  have ne772 : a533 ≠ a751 := Nat.ne_of_lt (Nat.lt_of_lt_of_le f745.lt g753)
  have ne773 : a680 ≠ a751 := Nat.ne_of_lt (Nat.lt_of_lt_of_le f685.lt g753)
  have ne774 : a681 ≠ a751 := Nat.ne_of_lt (Nat.lt_of_lt_of_le f687.lt g753)
  have ge775 : Z.heap.size ≤ a751 := Nat.le_trans zs747 g753
  have ne776 : r_EGALITARIAN ≠ a752 := Nat.ne_of_lt (Nat.lt_of_lt_of_le f718.lt g754)
  have ne777 : r_MINIMUM_REGRET ≠ a752 := Nat.ne_of_lt (Nat.lt_of_lt_of_le f720.lt g754)
  have ne778 : r_FIRST_CHOICE_MAXIMAL ≠ a752 := Nat.ne_of_lt (Nat.lt_of_lt_of_le f721.lt g754)
  have ne779 : r_RANK_MAXIMAL ≠ a752 := Nat.ne_of_lt (Nat.lt_of_lt_of_le f722.lt g754)
  have ne780 : r_GENEROUS ≠ a752 := Nat.ne_of_lt (Nat.lt_of_lt_of_le f724.lt g754)
  have ne781 : a1 ≠ a752 := Nat.ne_of_lt (Nat.lt_of_lt_of_le f730.lt g754)
  have ne782 : a123 ≠ a752 := Nat.ne_of_lt (Nat.lt_of_lt_of_le f731.lt g754)
  have ne783 : a204 ≠ a752 := Nat.ne_of_lt (Nat.lt_of_lt_of_le f733.lt g754)
  have ne784 : a297 ≠ a752 := Nat.ne_of_lt (Nat.lt_of_lt_of_le f735.lt g754)
  have ne785 : a298 ≠ a752 := Nat.ne_of_lt (Nat.lt_of_lt_of_le f738.lt g754)
  have ne786 : a345 ≠ a752 := Nat.ne_of_lt (Nat.lt_of_lt_of_le f739.lt g754)
  have ne787 : a346 ≠ a752 := Nat.ne_of_lt (Nat.lt_of_lt_of_le f742.lt g754)
  have ne788 : a398 ≠ a752 := Nat.ne_of_lt (Nat.lt_of_lt_of_le f743.lt g754)
  have ne789 : a533 ≠ a752 := Nat.ne_of_lt (Nat.lt_of_lt_of_le f745.lt g754)
  have ne790 : a680 ≠ a752 := Nat.ne_of_lt (Nat.lt_of_lt_of_le f685.lt g754)
  have ne791 : a681 ≠ a752 := Nat.ne_of_lt (Nat.lt_of_lt_of_le f687.lt g754)
  have ge792 : Z.heap.size ≤ a752 := Nat.le_trans zs747 g754
  have f793 : Exa Z h749 r_EGALITARIAN "dev/stablemate/solve/Criterion" := f718.keep K750
  have f794 : Sta Z h749 "dev/stablemate/solve/Criterion" "MINIMUM_REGRET" "Ldev/stablemate/solve/Criterion;" (.ref r_MINIMUM_REGRET) := own_staK f719 K750 all0
  have f795 : Exa Z h749 r_MINIMUM_REGRET "dev/stablemate/solve/Criterion" := f720.keep K750
  have f796 : Exa Z h749 r_FIRST_CHOICE_MAXIMAL "dev/stablemate/solve/Criterion" := f721.keep K750
  have f797 : Exa Z h749 r_RANK_MAXIMAL "dev/stablemate/solve/Criterion" := f722.keep K750
  have f798 : Sta Z h749 "dev/stablemate/solve/Criterion" "GENEROUS" "Ldev/stablemate/solve/Criterion;" (.ref r_GENEROUS) := own_staK f723 K750 all0
  have f799 : Exa Z h749 r_GENEROUS "dev/stablemate/solve/Criterion" := f724.keep K750
  have f800 : Fld Z h749 r_EGALITARIAN "java/lang/Enum" "ordinal" "I" (.int (0 : Int32)) := f725.keep K750 nin0
  have f801 : Fld Z h749 r_MINIMUM_REGRET "java/lang/Enum" "ordinal" "I" (.int (1 : Int32)) := f726.keep K750 nin0
  have f802 : Fld Z h749 r_GENEROUS "java/lang/Enum" "ordinal" "I" (.int (4 : Int32)) := f727.keep K750 nin0
  have f803 : Fld Z h749 r_RANK_MAXIMAL "java/lang/Enum" "ordinal" "I" (.int (3 : Int32)) := f728.keep K750 nin0
  have f804 : Fld Z h749 r_FIRST_CHOICE_MAXIMAL "java/lang/Enum" "ordinal" "I" (.int (2 : Int32)) := f729.keep K750 nin0
  have f805 : Aro Z h749 a1 "dev/stablemate/solve/Criterion" [.ref r_EGALITARIAN, .ref r_MINIMUM_REGRET, .ref r_FIRST_CHOICE_MAXIMAL, .ref r_RANK_MAXIMAL, .ref r_GENEROUS] := f730.keep K750 nin0
  have f806 : Exa Z h749 a123 "[I" := f731.keep K750
  have f807 : Ari Z h749 a123 .int [(2 : Int32), (2 : Int32), (2 : Int32)] := f732.keep K750 nin0
  have f808 : Exa Z h749 a204 "[I" := f733.keep K750
  have f809 : Ari Z h749 a204 .int [(1 : Int32), (3 : Int32), (1 : Int32)] := f734.keep K750 nin0
  have f810 : Exa Z h749 a297 "dev/stablemate/solve/Profile" := f735.keep K750
  have f811 : Fld Z h749 a297 "dev/stablemate/solve/Profile" "counts" "[I" (.ref a298) := f736.keep K750 nin0
  have f812 : Fld Z h749 a297 "dev/stablemate/solve/Profile" "cost" "J" (.long (6 : Int64)) := f737.keep K750 nin0
  have f813 : Ari Z h749 a298 .int [(0 : Int32), (3 : Int32)] := f738.keep K750 nin0
  have f814 : Exa Z h749 a345 "dev/stablemate/solve/Profile" := f739.keep K750
  have f815 : Fld Z h749 a345 "dev/stablemate/solve/Profile" "counts" "[I" (.ref a346) := f740.keep K750 nin0
  have f816 : Fld Z h749 a345 "dev/stablemate/solve/Profile" "cost" "J" (.long (4 : Int64)) := f741.keep K750 nin0
  have f817 : Ari Z h749 a346 .int [(1 : Int32), (0 : Int32), (1 : Int32)] := f742.keep K750 nin0
  have f818 : Exa Z h749 a398 "[I" := f743.keep K750
  have f819 : Ari Z h749 a398 .int [((i1 &&& (3 : Int32)) + (1 : Int32)), (((XT.ushr i1 (2 : Int32)) &&& (3 : Int32)) + (1 : Int32)), (((XT.ushr i1 (4 : Int32)) &&& (3 : Int32)) + (1 : Int32))] := f744.keep K750 nin0
  have f820 : Exa Z h749 a533 "[I" := f745.keep K750
  have f821 : Ari Z h749 a533 .int [((i2 &&& (3 : Int32)) + (1 : Int32)), (((XT.ushr i2 (2 : Int32)) &&& (3 : Int32)) + (1 : Int32)), (((XT.ushr i2 (4 : Int32)) &&& (3 : Int32)) + (1 : Int32))] := f746.keep K750 nin0
  have f822 : Exa Z h749 a680 "dev/stablemate/solve/Profile" := f685.keep K750
  have f823 : Fld Z h749 a680 "dev/stablemate/solve/Profile" "counts" "[I" (.ref a681) := f686.keep K750 nin0
  have f824 : Ari Z h749 a681 .int (own_trim (own_cnt ((XT.ushr i1 (6 : Int32)) &&& (3 : Int32)) ((i1 &&& (3 : Int32)) + (1 : Int32)) (((XT.ushr i1 (2 : Int32)) &&& (3 : Int32)) + (1 : Int32)) (((XT.ushr i1 (4 : Int32)) &&& (3 : Int32)) + (1 : Int32)))) := f687.keep K750 nin0
  have zs825 : Z.heap.size ≤ h749.size := Nat.le_trans zs747 K750.1
  refine Go.astore 191 #[.val (.int i0), .val (.int i1), .val (.int i2), .val (.ref a1), .val (.ref cc), .val (.ref a123), .val (.ref a204), .val (.ref a297), .val (.ref a345), .val (.ref a398), .val (.ref a533), .val (.ref a680), .val (.ref a751), .unset, .unset] at_189 rfl rfl rfl ?_
  rcases hcc with hs | hs | hs | hs | hs
  ·
    subst hs
    refine Go.aload 193 at_191 rfl rfl rfl ?_
    refine Go.callVIp [] [] 196 at_193 (tw55 hw) (tw56 hw) (tw58 hw) (tw57 hw) (tw3 hw) (tw59 hw) f793 pl6 (by decide) (lenOf pd6 rfl) rfl (fun m => ef_k_puts0 m r_EGALITARIAN) _ (k_puts0 hw h749 zs825 r_EGALITARIAN f794 f798 f801 f802 f800) 0 rfl (Nat.le_of_eq rfl) (by decide) (by decide) (by decide) (by decide) rfl ?_
    refine Go.istore 198 #[.val (.int i0), .val (.int i1), .val (.int i2), .val (.ref a1), .val (.ref r_EGALITARIAN), .val (.ref a123), .val (.ref a204), .val (.ref a297), .val (.ref a345), .val (.ref a398), .val (.ref a533), .val (.ref a680), .val (.ref a751), .val (.int (0 : Int32)), .unset] at_196 rfl rfl ?_
    refine Go.aload 200 at_198 rfl rfl rfl ?_
    refine Go.aload 202 at_200 rfl rfl rfl ?_
    refine Go.aload 204 at_202 rfl rfl rfl ?_
    refine Go.callVIp [.ref a297, .ref a345] [] 207 at_204 (tw62 hw) (tw63 hw) (tw65 hw) (tw64 hw) (tw3 hw) (tw66 hw) f793 pl7 (by decide) (lenOf pd7 rfl) rfl (fun m => ef_k_cmp_c0 m r_EGALITARIAN a297 a345) _ (k_cmp_c0 hw h749 zs825 r_EGALITARIAN a297 a345 f793 f800 f810 f814 f811 f815 f813 f817 f812 f816) 0 rfl (Nat.le_of_eq rfl) (by decide) (by decide) (by decide) (by decide) rfl ?_
    refine Go.if_ge 214 210 at_207 (by decide) (by decide) rfl (fun _ => ?_) (fun c => absurd c (by decide))
    refine Go.iconst 215 (0) at_214 (by decide) rfl ?_
    refine Go.istore 217 #[.val (.int i0), .val (.int i1), .val (.int i2), .val (.ref a1), .val (.ref r_EGALITARIAN), .val (.ref a123), .val (.ref a204), .val (.ref a297), .val (.ref a345), .val (.ref a398), .val (.ref a533), .val (.ref a680), .val (.ref a751), .val (.int (0 : Int32)), .val (.int (0 : Int32))] at_215 rfl rfl ?_
    refine Go.iload 219 at_217 rfl rfl ?_
    refine Go.iload 221 at_219 rfl rfl ?_
    refine Go.icmp_eq 226 224 at_221 (by decide) (by decide) rfl (fun _ => ?_) (fun c => absurd c (by decide))
    refine Go.iload 228 at_226 rfl rfl ?_
    refine Go.if_eq 262 231 at_228 (by decide) (by decide) rfl (fun _ => ?_) (fun c => absurd c (by decide))
    refine Go.iconst 263 (1) at_262 (by decide) rfl ?_
    refine Go.nreturn (t := .boolean) (z' := (1 : Int32)) at_263 rfl (by simp) (by decide) (by decide) (by decide) ?_
    rfl
  ·
    subst hs
    refine Go.aload 193 at_191 rfl rfl rfl ?_
    refine Go.callVIp [] [] 196 at_193 (tw55 hw) (tw56 hw) (tw58 hw) (tw57 hw) (tw3 hw) (tw59 hw) f795 pl6 (by decide) (lenOf pd6 rfl) rfl (fun m => ef_k_puts1 m r_MINIMUM_REGRET) _ (k_puts1 hw h749 zs825 r_MINIMUM_REGRET f794 f798 f801 f802) 0 rfl (Nat.le_of_eq rfl) (by decide) (by decide) (by decide) (by decide) rfl ?_
    refine Go.istore 198 #[.val (.int i0), .val (.int i1), .val (.int i2), .val (.ref a1), .val (.ref r_MINIMUM_REGRET), .val (.ref a123), .val (.ref a204), .val (.ref a297), .val (.ref a345), .val (.ref a398), .val (.ref a533), .val (.ref a680), .val (.ref a751), .val (.int (1 : Int32)), .unset] at_196 rfl rfl ?_
    refine Go.aload 200 at_198 rfl rfl rfl ?_
    refine Go.aload 202 at_200 rfl rfl rfl ?_
    refine Go.aload 204 at_202 rfl rfl rfl ?_
    refine Go.callVIp [.ref a297, .ref a345] [] 207 at_204 (tw62 hw) (tw63 hw) (tw65 hw) (tw64 hw) (tw3 hw) (tw66 hw) f795 pl7 (by decide) (lenOf pd7 rfl) rfl (fun m => ef_k_cmp_c1 m r_MINIMUM_REGRET a297 a345) _ (k_cmp_c1 hw h749 zs825 r_MINIMUM_REGRET a297 a345 f795 f801 f810 f814 f811 f815 f813 f817 f812 f816) 0 rfl (Nat.le_of_eq rfl) (by decide) (by decide) (by decide) (by decide) rfl ?_
    refine Go.if_ge 214 210 at_207 (by decide) (by decide) rfl (fun c => absurd c (by decide)) (fun _ => ?_)
    refine Go.iconst 211 (1) at_210 (by decide) rfl ?_
    refine Go.goto 215 at_211 (by decide) (by decide) ?_
    refine Go.istore 217 #[.val (.int i0), .val (.int i1), .val (.int i2), .val (.ref a1), .val (.ref r_MINIMUM_REGRET), .val (.ref a123), .val (.ref a204), .val (.ref a297), .val (.ref a345), .val (.ref a398), .val (.ref a533), .val (.ref a680), .val (.ref a751), .val (.int (1 : Int32)), .val (.int (1 : Int32))] at_215 rfl rfl ?_
    refine Go.iload 219 at_217 rfl rfl ?_
    refine Go.iload 221 at_219 rfl rfl ?_
    refine Go.icmp_eq 226 224 at_221 (by decide) (by decide) rfl (fun _ => ?_) (fun c => absurd c (by decide))
    refine Go.iload 228 at_226 rfl rfl ?_
    refine Go.if_eq 262 231 at_228 (by decide) (by decide) rfl (fun c => absurd c (by decide)) (fun _ => ?_)
    refine Go.aload 233 at_231 rfl rfl rfl ?_
    refine Go.callVIp [] [] 236 at_233 (tw97 hw) (tw68 hw) (tw70 hw) (tw69 hw) (tw18 hw) (tw71 hw) f822 pl8 (by decide) (lenOf pd8 rfl) rfl (fun m => ef_k_reg m a680) _ (k_reg hw h749 zs825 a680 f823 f824) 0 rfl (Nat.le_of_eq rfl) (by decide) (by decide) (by decide) (by decide) rfl ?_
    refine Go.aload 238 at_236 rfl rfl rfl ?_
    refine Go.callVIp [] [.int ((List.length (own_trim (own_cnt ((XT.ushr i1 (6 : Int32)) &&& (3 : Int32)) ((i1 &&& (3 : Int32)) + (1 : Int32)) (((XT.ushr i1 (2 : Int32)) &&& (3 : Int32)) + (1 : Int32)) (((XT.ushr i1 (4 : Int32)) &&& (3 : Int32)) + (1 : Int32))))).toInt32)] 241 at_238 (tw97 hw) (tw68 hw) (tw70 hw) (tw69 hw) (tw18 hw) (tw71 hw) f756 pl8 (by decide) (lenOf pd8 rfl) rfl (fun m => ef_k_reg m a751) _ (k_reg hw h749 zs825 a751 f757 f758) 1 rfl (Nat.le_of_eq rfl) (by decide) (by decide) (by decide) (by decide) rfl ?_
    refine Go.icmp_ge 262 244 at_241 (by decide) (by decide) rfl (fun c850 => ?_) (fun c850 => ?_)
    ·
      refine Go.iconst 263 (1) at_262 (by decide) rfl ?_
      refine Go.nreturn (t := .boolean) (z' := (1 : Int32)) at_263 rfl (by simp) (by decide) (by decide) (by decide) ?_
      rfl
    ·
      refine Go.aload 246 at_244 rfl rfl rfl ?_
      refine Go.aload 248 at_246 rfl rfl rfl ?_
      refine Go.aload 250 at_248 rfl rfl rfl ?_
      refine Go.callVIp [.ref a680, .ref a751] [] 253 at_250 (tw62 hw) (tw63 hw) (tw65 hw) (tw64 hw) (tw3 hw) (tw66 hw) f795 pl7 (by decide) (lenOf pd7 rfl) rfl (fun m => ef_k_cmp_a1 m r_MINIMUM_REGRET a680 a751) _ (k_cmp_a1 hw h749 zs825 r_MINIMUM_REGRET a680 a751 f795 f801 f822 f756 f823 f757 f824 f758 c850 (own_good _ (own_three _) (own_rkx _) (own_rkx _) (own_rkx _)).1 (own_good _ (own_three _) (own_rkx _) (own_rkx _) (own_rkx _)).1 (own_good _ (own_three _) (own_rkx _) (own_rkx _) (own_rkx _)).2) 0 rfl (Nat.le_of_eq rfl) (by decide) (by decide) (by decide) (by decide) rfl ?_
      refine Go.if_ge 260 256 at_253 (by decide) (by decide) rfl (fun c => absurd c (by decide)) (fun _ => ?_)
      refine Go.iconst 257 (1) at_256 (by decide) rfl ?_
      refine Go.goto 261 at_257 (by decide) (by decide) ?_
      refine Go.nreturn (t := .boolean) (z' := (1 : Int32)) at_261 rfl (by simp) (by decide) (by decide) (by decide) ?_
      rfl
  ·
    subst hs
    refine Go.aload 193 at_191 rfl rfl rfl ?_
    refine Go.callVIp [] [] 196 at_193 (tw55 hw) (tw56 hw) (tw58 hw) (tw57 hw) (tw3 hw) (tw59 hw) f796 pl6 (by decide) (lenOf pd6 rfl) rfl (fun m => ef_k_puts2 m r_FIRST_CHOICE_MAXIMAL) _ (k_puts2 hw h749 zs825 r_FIRST_CHOICE_MAXIMAL f794 f798 f801 f802 f804) 0 rfl (Nat.le_of_eq rfl) (by decide) (by decide) (by decide) (by decide) rfl ?_
    refine Go.istore 198 #[.val (.int i0), .val (.int i1), .val (.int i2), .val (.ref a1), .val (.ref r_FIRST_CHOICE_MAXIMAL), .val (.ref a123), .val (.ref a204), .val (.ref a297), .val (.ref a345), .val (.ref a398), .val (.ref a533), .val (.ref a680), .val (.ref a751), .val (.int (0 : Int32)), .unset] at_196 rfl rfl ?_
    refine Go.aload 200 at_198 rfl rfl rfl ?_
    refine Go.aload 202 at_200 rfl rfl rfl ?_
    refine Go.aload 204 at_202 rfl rfl rfl ?_
    refine Go.callVIp [.ref a297, .ref a345] [] 207 at_204 (tw62 hw) (tw63 hw) (tw65 hw) (tw64 hw) (tw3 hw) (tw66 hw) f796 pl7 (by decide) (lenOf pd7 rfl) rfl (fun m => ef_k_cmp_c2 m r_FIRST_CHOICE_MAXIMAL a297 a345) _ (k_cmp_c2 hw h749 zs825 r_FIRST_CHOICE_MAXIMAL a297 a345 f796 f804 f810 f814 f811 f815 f813 f817 f812 f816) 0 rfl (Nat.le_of_eq rfl) (by decide) (by decide) (by decide) (by decide) rfl ?_
    refine Go.if_ge 214 210 at_207 (by decide) (by decide) rfl (fun _ => ?_) (fun c => absurd c (by decide))
    refine Go.iconst 215 (0) at_214 (by decide) rfl ?_
    refine Go.istore 217 #[.val (.int i0), .val (.int i1), .val (.int i2), .val (.ref a1), .val (.ref r_FIRST_CHOICE_MAXIMAL), .val (.ref a123), .val (.ref a204), .val (.ref a297), .val (.ref a345), .val (.ref a398), .val (.ref a533), .val (.ref a680), .val (.ref a751), .val (.int (0 : Int32)), .val (.int (0 : Int32))] at_215 rfl rfl ?_
    refine Go.iload 219 at_217 rfl rfl ?_
    refine Go.iload 221 at_219 rfl rfl ?_
    refine Go.icmp_eq 226 224 at_221 (by decide) (by decide) rfl (fun _ => ?_) (fun c => absurd c (by decide))
    refine Go.iload 228 at_226 rfl rfl ?_
    refine Go.if_eq 262 231 at_228 (by decide) (by decide) rfl (fun _ => ?_) (fun c => absurd c (by decide))
    refine Go.iconst 263 (1) at_262 (by decide) rfl ?_
    refine Go.nreturn (t := .boolean) (z' := (1 : Int32)) at_263 rfl (by simp) (by decide) (by decide) (by decide) ?_
    rfl
  ·
    subst hs
    refine Go.aload 193 at_191 rfl rfl rfl ?_
    refine Go.callVIp [] [] 196 at_193 (tw55 hw) (tw56 hw) (tw58 hw) (tw57 hw) (tw3 hw) (tw59 hw) f797 pl6 (by decide) (lenOf pd6 rfl) rfl (fun m => ef_k_puts3 m r_RANK_MAXIMAL) _ (k_puts3 hw h749 zs825 r_RANK_MAXIMAL f794 f798 f801 f802 f803) 0 rfl (Nat.le_of_eq rfl) (by decide) (by decide) (by decide) (by decide) rfl ?_
    refine Go.istore 198 #[.val (.int i0), .val (.int i1), .val (.int i2), .val (.ref a1), .val (.ref r_RANK_MAXIMAL), .val (.ref a123), .val (.ref a204), .val (.ref a297), .val (.ref a345), .val (.ref a398), .val (.ref a533), .val (.ref a680), .val (.ref a751), .val (.int (0 : Int32)), .unset] at_196 rfl rfl ?_
    refine Go.aload 200 at_198 rfl rfl rfl ?_
    refine Go.aload 202 at_200 rfl rfl rfl ?_
    refine Go.aload 204 at_202 rfl rfl rfl ?_
    refine Go.callVIp [.ref a297, .ref a345] [] 207 at_204 (tw62 hw) (tw63 hw) (tw65 hw) (tw64 hw) (tw3 hw) (tw66 hw) f797 pl7 (by decide) (lenOf pd7 rfl) rfl (fun m => ef_k_cmp_c3 m r_RANK_MAXIMAL a297 a345) _ (k_cmp_c3 hw h749 zs825 r_RANK_MAXIMAL a297 a345 f797 f803 f810 f814 f811 f815 f813 f817 f812 f816) 0 rfl (Nat.le_of_eq rfl) (by decide) (by decide) (by decide) (by decide) rfl ?_
    refine Go.if_ge 214 210 at_207 (by decide) (by decide) rfl (fun _ => ?_) (fun c => absurd c (by decide))
    refine Go.iconst 215 (0) at_214 (by decide) rfl ?_
    refine Go.istore 217 #[.val (.int i0), .val (.int i1), .val (.int i2), .val (.ref a1), .val (.ref r_RANK_MAXIMAL), .val (.ref a123), .val (.ref a204), .val (.ref a297), .val (.ref a345), .val (.ref a398), .val (.ref a533), .val (.ref a680), .val (.ref a751), .val (.int (0 : Int32)), .val (.int (0 : Int32))] at_215 rfl rfl ?_
    refine Go.iload 219 at_217 rfl rfl ?_
    refine Go.iload 221 at_219 rfl rfl ?_
    refine Go.icmp_eq 226 224 at_221 (by decide) (by decide) rfl (fun _ => ?_) (fun c => absurd c (by decide))
    refine Go.iload 228 at_226 rfl rfl ?_
    refine Go.if_eq 262 231 at_228 (by decide) (by decide) rfl (fun _ => ?_) (fun c => absurd c (by decide))
    refine Go.iconst 263 (1) at_262 (by decide) rfl ?_
    refine Go.nreturn (t := .boolean) (z' := (1 : Int32)) at_263 rfl (by simp) (by decide) (by decide) (by decide) ?_
    rfl
  ·
    subst hs
    refine Go.aload 193 at_191 rfl rfl rfl ?_
    refine Go.callVIp [] [] 196 at_193 (tw55 hw) (tw56 hw) (tw58 hw) (tw57 hw) (tw3 hw) (tw59 hw) f799 pl6 (by decide) (lenOf pd6 rfl) rfl (fun m => ef_k_puts4 m r_GENEROUS) _ (k_puts4 hw h749 zs825 r_GENEROUS f794 f798 f801 f802) 0 rfl (Nat.le_of_eq rfl) (by decide) (by decide) (by decide) (by decide) rfl ?_
    refine Go.istore 198 #[.val (.int i0), .val (.int i1), .val (.int i2), .val (.ref a1), .val (.ref r_GENEROUS), .val (.ref a123), .val (.ref a204), .val (.ref a297), .val (.ref a345), .val (.ref a398), .val (.ref a533), .val (.ref a680), .val (.ref a751), .val (.int (1 : Int32)), .unset] at_196 rfl rfl ?_
    refine Go.aload 200 at_198 rfl rfl rfl ?_
    refine Go.aload 202 at_200 rfl rfl rfl ?_
    refine Go.aload 204 at_202 rfl rfl rfl ?_
    refine Go.callVIp [.ref a297, .ref a345] [] 207 at_204 (tw62 hw) (tw63 hw) (tw65 hw) (tw64 hw) (tw3 hw) (tw66 hw) f799 pl7 (by decide) (lenOf pd7 rfl) rfl (fun m => ef_k_cmp_c4 m r_GENEROUS a297 a345) _ (k_cmp_c4 hw h749 zs825 r_GENEROUS a297 a345 f799 f802 f810 f814 f811 f815 f813 f817 f812 f816) 0 rfl (Nat.le_of_eq rfl) (by decide) (by decide) (by decide) (by decide) rfl ?_
    refine Go.if_ge 214 210 at_207 (by decide) (by decide) rfl (fun c => absurd c (by decide)) (fun _ => ?_)
    refine Go.iconst 211 (1) at_210 (by decide) rfl ?_
    refine Go.goto 215 at_211 (by decide) (by decide) ?_
    refine Go.istore 217 #[.val (.int i0), .val (.int i1), .val (.int i2), .val (.ref a1), .val (.ref r_GENEROUS), .val (.ref a123), .val (.ref a204), .val (.ref a297), .val (.ref a345), .val (.ref a398), .val (.ref a533), .val (.ref a680), .val (.ref a751), .val (.int (1 : Int32)), .val (.int (1 : Int32))] at_215 rfl rfl ?_
    refine Go.iload 219 at_217 rfl rfl ?_
    refine Go.iload 221 at_219 rfl rfl ?_
    refine Go.icmp_eq 226 224 at_221 (by decide) (by decide) rfl (fun _ => ?_) (fun c => absurd c (by decide))
    refine Go.iload 228 at_226 rfl rfl ?_
    refine Go.if_eq 262 231 at_228 (by decide) (by decide) rfl (fun c => absurd c (by decide)) (fun _ => ?_)
    refine Go.aload 233 at_231 rfl rfl rfl ?_
    refine Go.callVIp [] [] 236 at_233 (tw97 hw) (tw68 hw) (tw70 hw) (tw69 hw) (tw18 hw) (tw71 hw) f822 pl8 (by decide) (lenOf pd8 rfl) rfl (fun m => ef_k_reg m a680) _ (k_reg hw h749 zs825 a680 f823 f824) 0 rfl (Nat.le_of_eq rfl) (by decide) (by decide) (by decide) (by decide) rfl ?_
    refine Go.aload 238 at_236 rfl rfl rfl ?_
    refine Go.callVIp [] [.int ((List.length (own_trim (own_cnt ((XT.ushr i1 (6 : Int32)) &&& (3 : Int32)) ((i1 &&& (3 : Int32)) + (1 : Int32)) (((XT.ushr i1 (2 : Int32)) &&& (3 : Int32)) + (1 : Int32)) (((XT.ushr i1 (4 : Int32)) &&& (3 : Int32)) + (1 : Int32))))).toInt32)] 241 at_238 (tw97 hw) (tw68 hw) (tw70 hw) (tw69 hw) (tw18 hw) (tw71 hw) f756 pl8 (by decide) (lenOf pd8 rfl) rfl (fun m => ef_k_reg m a751) _ (k_reg hw h749 zs825 a751 f757 f758) 1 rfl (Nat.le_of_eq rfl) (by decide) (by decide) (by decide) (by decide) rfl ?_
    refine Go.icmp_ge 262 244 at_241 (by decide) (by decide) rfl (fun c888 => ?_) (fun c888 => ?_)
    ·
      refine Go.iconst 263 (1) at_262 (by decide) rfl ?_
      refine Go.nreturn (t := .boolean) (z' := (1 : Int32)) at_263 rfl (by simp) (by decide) (by decide) (by decide) ?_
      rfl
    ·
      refine Go.aload 246 at_244 rfl rfl rfl ?_
      refine Go.aload 248 at_246 rfl rfl rfl ?_
      refine Go.aload 250 at_248 rfl rfl rfl ?_
      refine Go.callVIp [.ref a680, .ref a751] [] 253 at_250 (tw62 hw) (tw63 hw) (tw65 hw) (tw64 hw) (tw3 hw) (tw66 hw) f799 pl7 (by decide) (lenOf pd7 rfl) rfl (fun m => ef_k_cmp_a4 m r_GENEROUS a680 a751) _ (k_cmp_a4 hw h749 zs825 r_GENEROUS a680 a751 f799 f802 f822 f756 f823 f757 f824 f758 c888 (own_good _ (own_three _) (own_rkx _) (own_rkx _) (own_rkx _)).1 (own_good _ (own_three _) (own_rkx _) (own_rkx _) (own_rkx _)).1 (own_good _ (own_three _) (own_rkx _) (own_rkx _) (own_rkx _)).2) 0 rfl (Nat.le_of_eq rfl) (by decide) (by decide) (by decide) (by decide) rfl ?_
      refine Go.if_ge 260 256 at_253 (by decide) (by decide) rfl (fun c => absurd c (by decide)) (fun _ => ?_)
      refine Go.iconst 257 (1) at_256 (by decide) rfl ?_
      refine Go.goto 261 at_257 (by decide) (by decide) ?_
      refine Go.nreturn (t := .boolean) (z' := (1 : Int32)) at_261 rfl (by simp) (by decide) (by decide) (by decide) ?_
      rfl
set_option maxRecDepth 65536 in
set_option maxHeartbeats 40000000 in
theorem comes_1 {Post : Tables → Env → Array Value → State → Outcome → State → Prop} (hpost : ∀ tb e args s v u, (limb_1_1.after args s (.returned v) u = true ∧ limb_1_2.after args s (.returned v) u = true ∧ True) → FrameEnd s (.returned v) u (Jvm.fieldLocs frame_1_writes args s ++ Jvm.arrayLocs frame_1_arrays args s ++ Jvm.staticLocs frame_1_statics s) 48 192 → Post tb e args s (.returned v) u) :
    ArmFor flags0 classFile x code maxLocals ret World_1 tables_1 room_1 Calls_1 rest_1 Pre_1 Post := by
  intro l hfl _ _ p e ha hc hk s m args below hf hA hF happ hP
  obtain ⟨hcalls, hrest, hpre⟩ := hP
  obtain ⟨-, -, -, hnamed, -, -, -, hat⟩ := (Spec.applies_iff hf).mp happ
  obtain ⟨hg, hn⟩ := and_e (Cond.before_iff.mp (show (Jvm.Cond.and given_1 narrow_1).before args s = true from hpre))
  obtain ⟨h1, g0⟩ := and_e hg
  obtain ⟨w0, w1, w2, rfl⟩ : ∃ w0 w1 w2 : Value, args = #[w0, w1, w2] := by
    have hs : args.size = 3 := by simpa [Cond.value, given_1] using h1
    obtain ⟨L⟩ := args
    match L, hs with
    | [w0, w1, w2], _ => exact ⟨w0, w1, w2, rfl⟩
  have hw := fun d (hd : d ∈ tables_1) => atoms_spec (ws := Jvm.Cond.code x code maxLocals ret :: tables_1) hat d (List.mem_cons_of_mem _ hd)
  obtain ⟨b0, g1⟩ := and_e g0
  obtain ⟨i0, ei0⟩ := is_v b0
  obtain rfl : w0 = (.int i0) := Option.some.inj ei0
  obtain ⟨b1, g2⟩ := and_e g1
  obtain ⟨i1, ei1⟩ := is_v b1
  obtain rfl : w1 = (.int i1) := Option.some.inj ei1
  have b2 := g2
  obtain ⟨i2, ei2⟩ := is_v b2
  obtain rfl : w2 = (.int i2) := Option.some.inj ei2
  obtain ⟨na0, hn0⟩ := and_e hn
  obtain ⟨na1, hn1⟩ := and_e hn0
  obtain ⟨na2, hn2⟩ := and_e hn1
  obtain ⟨na3, hn3⟩ := and_e hn2
  obtain ⟨na4, hn4⟩ := and_e hn3
  obtain ⟨na5, hn5⟩ := and_e hn4
  obtain ⟨na6, hn6⟩ := and_e hn5
  obtain ⟨na7, hn7⟩ := and_e hn6
  obtain ⟨na8, hn8⟩ := and_e hn7
  have na9 := hn8
  obtain ⟨r_EGALITARIAN, ev_r_EGALITARIAN⟩ := exa_v na0
  obtain ⟨r_MINIMUM_REGRET, ev_r_MINIMUM_REGRET⟩ := exa_v na1
  obtain ⟨r_FIRST_CHOICE_MAXIMAL, ev_r_FIRST_CHOICE_MAXIMAL⟩ := exa_v na2
  obtain ⟨r_RANK_MAXIMAL, ev_r_RANK_MAXIMAL⟩ := exa_v na3
  obtain ⟨r_GENEROUS, ev_r_GENEROUS⟩ := exa_v na4
  have G := law0 (l := l) hw s.heap (Nat.le_refl _) i0 i1 i2 (Sta.start ev_r_EGALITARIAN (Or.inr ⟨(tw3 hw), (tw4 hw)⟩)) (Exa.start ev_r_EGALITARIAN na0) (Sta.start ev_r_MINIMUM_REGRET (Or.inr ⟨(tw3 hw), (tw7 hw)⟩)) (Exa.start ev_r_MINIMUM_REGRET na1) (Sta.start ev_r_FIRST_CHOICE_MAXIMAL (Or.inr ⟨(tw3 hw), (tw9 hw)⟩)) (Exa.start ev_r_FIRST_CHOICE_MAXIMAL na2) (Sta.start ev_r_RANK_MAXIMAL (Or.inr ⟨(tw3 hw), (tw11 hw)⟩)) (Exa.start ev_r_RANK_MAXIMAL na3) (Sta.start ev_r_GENEROUS (Or.inr ⟨(tw3 hw), (tw13 hw)⟩)) (Exa.start ev_r_GENEROUS na4) (own_eqf ev_r_EGALITARIAN na5) (own_eqf ev_r_MINIMUM_REGRET na6) (own_eqf ev_r_GENEROUS na7) (own_eqf ev_r_RANK_MAXIMAL na8) (own_eqf ev_r_FIRST_CHOICE_MAXIMAL na9)
  obtain ⟨n, o, h1, h2, h3, _, L, rfl, ⟨⟨z, rfl, rfl⟩, N⟩, hq⟩ := Go.met (as' := #[.int i0, .int i1, .int i2]) (plainFor_of_name pnx) (fun m => ef_law0 m i0 i1 i2) G tables_1 p e ha hc hk s m _ below hf ((Spec.applies_iff_loose hf).mp happ).1 ⟨rfl, State.Warmed39.refl s, rfl⟩ trivial
  refine ⟨n, _, h1, h2, h3, hpost _ _ _ _ _ _ ⟨Cond.after_iff.mpr rfl, Cond.after_iff.mpr (eq_i res_at (Term.int_eval (1)) rfl), trivial⟩ ⟨hq.1, hq.2.1, (hq.2.2.sift fun y hy => Or.inr (N y hy)).mono (by decide) (by decide)⟩⟩
theorem main_1_1 : Claimed_1_1 := comes_1 fun _ _ _ _ _ _ h hF => ⟨h.1, hF⟩
theorem main_1_2 : Claimed_1_2 := comes_1 fun _ _ _ _ _ _ h hF => ⟨h.2.1, hF⟩
end Jvm.Pilot.@@N@@
namespace Jvm.Pilot.@@N@@
open Jvm Jvm.ClassFile Sem Op Lib Jvm.Free Jvm.Stand Jvm.Pilot.@@N@@.Jvm.D
/-! MADE BY PROGRAM (witnessworld.py) out of the Statement's table words and the real class files: 22 classes; the members and pool entries that the words name. The judged class is class 1, her method 1. -/
namespace start1
open Jvm.ClassFile
def u (s : String) : CpInfo := .utf8 (stringToUtf16 s)
/-- a pool by its gaps: so many unusable entries, then the entry; so many at the end -/
def gap : Nat → List CpInfo → List CpInfo
  | 0, r => r
  | n + 1, r => .unusable :: gap n r
def poolList (es : List (Nat × CpInfo)) (last : Nat) : List CpInfo := es.foldr (fun e r => gap e.1 (e.2 :: r)) (gap last [])
def pool (es : List (Nat × CpInfo)) (last : Nat) : Array CpInfo := ⟨poolList es last⟩
def fileOf (pool : Array CpInfo) (this : Nat) (attrs : Array Attribute := #[]) (ms : Array MethodInfo := #[]) (fl : Nat := 33) (sup : Nat := 0) (ifs : Array Nat := #[]) (fds : Array FieldInfo := #[]) : ClassFile where
  minorVersion := 0
  majorVersion := 65
  constantPool := pool
  accessFlags := fl
  thisClass := this
  superClass := sup
  interfaces := ifs
  fields := fds
  methods := ms
  attributes := attrs
def plain (name : String) (sup : Option ClassId) : Class where
  name := name
  kind := .ordinary
  loader := none
  accessFlags := 33
  super := sup
  interfaces := #[]
  cf := none
  fields := #[]
  methods := #[]
  instanceTypes := #[]
  staticTypes := #[]
  resolved := #[]
  callSites := []
  init := .initialized
  statics := none
  mirror := none

def pool0 : Array CpInfo := pool [(5, u "<init>"), (0, u "()V"), (1, .class_ 10), (1, u "java/lang/Object"), (85, u "clone"), (0, u "()Ljava/lang/Object;")] 26

def k0c0 : Code := { maxStack := 0, maxLocals := 1, code := object_method_1_code, exceptionTable := #[], attributes := #[] }
def k0m0 : Method := { name := "<init>", desc := "()V", sig := { parameters := [], returnType := none }, accessFlags := 1, code := some k0c0 }
def k0m1 : Method := { name := "clone", desc := "()Ljava/lang/Object;", sig := { parameters := [], returnType := some (.object "java/lang/Object") }, accessFlags := 260, code := none }
/-- java/lang/Object -/
def k0 : Class := { plain "java/lang/Object" none with
  accessFlags := 33
  interfaces := #[]
  cf := some (fileOf pool0 8 #[] #[{ accessFlags := 1, nameIndex := 5, descriptorIndex := 6, attributes := #[] }, { accessFlags := 260, nameIndex := 96, descriptorIndex := 97, attributes := #[] }] 33 0 #[] #[])
  fields := #[]
  methods := #[k0m0, k0m1]
  instanceTypes := #[]
  staticTypes := #[]
  resolved := Array.replicate 124 none
  statics := none }

def pool1 : Array CpInfo := pool [(2, .class_ 4), (1, u "java/lang/Object"), (0, u "<init>"), (0, u "()V"), (0, .class_ 8), (0, u "dev/stablemate/solve/Criterion"), (0, .fieldref 7 10), (0, .nameAndType 11 12), (0, u "EGALITARIAN"), (0, u "Ldev/stablemate/solve/Criterion;"), (0, .fieldref 7 14), (0, .nameAndType 15 12), (0, u "MINIMUM_REGRET"), (0, .fieldref 7 17), (0, .nameAndType 18 12), (0, u "FIRST_CHOICE_MAXIMAL"), (0, .fieldref 7 20), (0, .nameAndType 21 12), (0, u "RANK_MAXIMAL"), (0, .fieldref 7 23), (0, .nameAndType 24 12), (0, u "GENEROUS"), (0, .integer 2147483647), (0, .methodref 27 28), (0, .class_ 29), (0, .nameAndType 30 31), (0, u "dev/stablemate/solve/Profile"), (0, u "ofRanks"), (0, u "(I[II)Ldev/stablemate/solve/Profile;"), (0, .methodref 7 33), (0, .nameAndType 34 35), (0, u "putsRegretFirst"), (0, u "()Z"), (0, .methodref 7 37), (0, .nameAndType 38 39), (0, u "compare"), (0, u "(Ldev/stablemate/solve/Profile;Ldev/stablemate/solve/Profile;)I"), (0, .methodref 27 41), (0, .nameAndType 42 43), (0, u "regret"), (0, u "()I"), (0, .class_ 45), (0, u "dev/stablemate/solve/CriterionPutsRegretFirstPinLaw"), (2, u "law"), (0, u "(III)Z")] 7

def k1m0 : Method := { name := "<init>", desc := "()V", sig := { parameters := [], returnType := none }, accessFlags := 1, code := none }
def k1c1 : Code := { maxStack := 5, maxLocals := 15, code := code, exceptionTable := #[], attributes := #[] }
def k1m1 : Method := { name := "law", desc := "(III)Z", sig := { parameters := [.int, .int, .int], returnType := some .boolean }, accessFlags := 9, code := some k1c1 }
/-- dev/stablemate/solve/CriterionPutsRegretFirstPinLaw -/
def k1 : Class := { plain "dev/stablemate/solve/CriterionPutsRegretFirstPinLaw" (some 0) with
  accessFlags := 49
  interfaces := #[]
  cf := some (fileOf pool1 44 #[] #[{ accessFlags := 1, nameIndex := 5, descriptorIndex := 6, attributes := #[] }, { accessFlags := 9, nameIndex := 48, descriptorIndex := 49, attributes := #[] }] 49 2 #[] #[])
  fields := #[]
  methods := #[k1m0, k1m1]
  instanceTypes := #[]
  staticTypes := #[]
  resolved := Array.replicate 57 none
  statics := none }

def pool2 : Array CpInfo := pool [(1, .class_ 2), (0, u "java/lang/constant/Constable"), (0, .class_ 4), (0, u "java/lang/Object")] 6

/-- java/lang/constant/Constable -/
def k2 : Class := { plain "java/lang/constant/Constable" (some 0) with
  accessFlags := 1537
  interfaces := #[]
  cf := some (fileOf pool2 1 #[] #[] 1537 3 #[] #[])
  fields := #[]
  methods := #[]
  instanceTypes := #[]
  staticTypes := #[]
  resolved := Array.replicate 11 none
  statics := none }

def pool3 : Array CpInfo := pool [(1, .class_ 2), (0, u "java/lang/Comparable"), (0, .class_ 4), (0, u "java/lang/Object")] 7

/-- java/lang/Comparable -/
def k3 : Class := { plain "java/lang/Comparable" (some 0) with
  accessFlags := 1537
  interfaces := #[]
  cf := some (fileOf pool3 1 #[] #[] 1537 3 #[] #[])
  fields := #[]
  methods := #[]
  instanceTypes := #[]
  staticTypes := #[]
  resolved := Array.replicate 12 none
  statics := none }

def pool4 : Array CpInfo := pool [(1, .class_ 2), (0, u "java/io/Serializable"), (0, .class_ 4), (0, u "java/lang/Object")] 2

/-- java/io/Serializable -/
def k4 : Class := { plain "java/io/Serializable" (some 0) with
  accessFlags := 1537
  interfaces := #[]
  cf := some (fileOf pool4 1 #[] #[] 1537 3 #[] #[])
  fields := #[]
  methods := #[]
  instanceTypes := #[]
  staticTypes := #[]
  resolved := Array.replicate 7 none
  statics := none }

def pool5 : Array CpInfo := pool [(2, .class_ 4), (1, u "java/lang/Enum"), (0, u "name"), (0, u "Ljava/lang/String;"), (0, .fieldref 2 8), (0, .nameAndType 9 10), (0, u "ordinal"), (0, u "I"), (1, .class_ 14), (1, u "java/lang/Object"), (4, u "hash"), (86, .class_ 108), (1, u "java/lang/Enum$EnumDesc"), (2, .class_ 112), (0, u "java/lang/constant/Constable"), (0, .class_ 114), (0, u "java/lang/Comparable"), (0, .class_ 116), (0, u "java/io/Serializable"), (9, u "()I")] 77

def k5c0 : Code := { maxStack := 1, maxLocals := 1, code := jdk_37_method_2_code, exceptionTable := #[], attributes := #[] }
def k5m0 : Method := { name := "ordinal", desc := "()I", sig := { parameters := [], returnType := some .int }, accessFlags := 17, code := some k5c0 }
/-- java/lang/Enum -/
def k5 : Class := { plain "java/lang/Enum" (some 0) with
  accessFlags := 1057
  interfaces := #[2, 3, 4]
  cf := some (fileOf pool5 2 #[.nestMembers #[106]] #[{ accessFlags := 17, nameIndex := 9, descriptorIndex := 126, attributes := #[] }] 1057 12 #[111, 113, 115] #[{ accessFlags := 18, nameIndex := 5, descriptorIndex := 6, attributes := #[] }, { accessFlags := 18, nameIndex := 9, descriptorIndex := 10, attributes := #[] }, { accessFlags := 2, nameIndex := 19, descriptorIndex := 10, attributes := #[] }])
  fields := #[{ name := "name", type := (.object "java/lang/String"), accessFlags := 18, slot := 0, constantValue := 0 }, { name := "ordinal", type := .int, accessFlags := 18, slot := 1, constantValue := 0 }, { name := "hash", type := .int, accessFlags := 2, slot := 2, constantValue := 0 }]
  methods := #[k5m0]
  instanceTypes := #[(.object "java/lang/String"), .int, .int]
  staticTypes := #[]
  resolved := Array.replicate 204 none
  statics := none }

def pool6 : Array CpInfo := pool [(19, .class_ 20), (0, u "java/util/Comparator"), (84, .class_ 106), (0, u "java/lang/Object")] 181

/-- java/util/Comparator -/
def k6 : Class := { plain "java/util/Comparator" (some 0) with
  accessFlags := 1537
  interfaces := #[]
  cf := some (fileOf pool6 19 #[] #[] 1537 105 #[] #[])
  fields := #[]
  methods := #[]
  instanceTypes := #[]
  staticTypes := #[]
  resolved := Array.replicate 288 none
  statics := none }

def pool7 : Array CpInfo := pool [(1, .class_ 2), (0, u "dev/stablemate/solve/Criterion"), (2, u "EGALITARIAN"), (0, u "Ldev/stablemate/solve/Criterion;"), (0, .fieldref 1 8), (0, .nameAndType 9 6), (0, u "MINIMUM_REGRET"), (2, u "FIRST_CHOICE_MAXIMAL"), (2, u "RANK_MAXIMAL"), (0, .fieldref 1 17), (0, .nameAndType 18 6), (0, u "GENEROUS"), (2, u "$VALUES"), (0, u "[Ldev/stablemate/solve/Criterion;"), (6, .class_ 31), (1, u "java/lang/Enum"), (8, u "label"), (0, u "Ljava/lang/String;"), (20, .methodref 63 64), (0, .class_ 65), (0, .nameAndType 66 67), (0, u "dev/stablemate/solve/Profile"), (0, u "regret"), (0, u "()I"), (0, .methodref 69 70), (0, .class_ 71), (0, .nameAndType 72 73), (0, u "java/lang/Math"), (0, u "max"), (0, u "(II)I"), (0, .methodref 1 75), (0, .nameAndType 76 67), (0, u "ordinal"), (0, .methodref 63 78), (0, .nameAndType 79 80), (0, u "cost"), (0, u "()J"), (0, .methodref 82 83), (0, .class_ 84), (0, .nameAndType 85 86), (0, u "java/lang/Long"), (0, u "compare"), (0, u "(JJ)I"), (0, .methodref 88 89), (0, .class_ 90), (0, .nameAndType 85 73), (0, u "java/lang/Integer"), (0, .methodref 63 92), (0, .nameAndType 93 94), (0, u "count"), (0, u "(I)I"), (5, u "(Ldev/stablemate/solve/Profile;Ldev/stablemate/solve/Profile;)I"), (21, .class_ 123), (0, u "java/util/Comparator"), (11, u "putsRegretFirst"), (0, u "()Z")] 8

def k7c0 : Code := { maxStack := 4, maxLocals := 6, code := prog_18_method_6_code, exceptionTable := #[], attributes := #[] }
def k7m0 : Method := { name := "compare", desc := "(Ldev/stablemate/solve/Profile;Ldev/stablemate/solve/Profile;)I", sig := { parameters := [(.object "dev/stablemate/solve/Profile"), (.object "dev/stablemate/solve/Profile")], returnType := some .int }, accessFlags := 1, code := some k7c0 }
def k7c1 : Code := { maxStack := 2, maxLocals := 1, code := prog_18_method_7_code, exceptionTable := #[], attributes := #[] }
def k7m1 : Method := { name := "putsRegretFirst", desc := "()Z", sig := { parameters := [], returnType := some .boolean }, accessFlags := 0, code := some k7c1 }
/-- dev/stablemate/solve/Criterion -/
def k7 : Class := { plain "dev/stablemate/solve/Criterion" (some 5) with
  accessFlags := 16433
  interfaces := #[6]
  cf := some (fileOf pool7 1 #[] #[{ accessFlags := 1, nameIndex := 85, descriptorIndex := 100, attributes := #[] }, { accessFlags := 0, nameIndex := 135, descriptorIndex := 136, attributes := #[] }] 16433 29 #[122] #[{ accessFlags := 16409, nameIndex := 5, descriptorIndex := 6, attributes := #[] }, { accessFlags := 16409, nameIndex := 9, descriptorIndex := 6, attributes := #[] }, { accessFlags := 16409, nameIndex := 12, descriptorIndex := 6, attributes := #[] }, { accessFlags := 16409, nameIndex := 15, descriptorIndex := 6, attributes := #[] }, { accessFlags := 16409, nameIndex := 18, descriptorIndex := 6, attributes := #[] }, { accessFlags := 18, nameIndex := 40, descriptorIndex := 41, attributes := #[] }, { accessFlags := 4122, nameIndex := 21, descriptorIndex := 22, attributes := #[] }])
  fields := #[{ name := "EGALITARIAN", type := (.object "dev/stablemate/solve/Criterion"), accessFlags := 16409, slot := 0, constantValue := 0 }, { name := "MINIMUM_REGRET", type := (.object "dev/stablemate/solve/Criterion"), accessFlags := 16409, slot := 1, constantValue := 0 }, { name := "FIRST_CHOICE_MAXIMAL", type := (.object "dev/stablemate/solve/Criterion"), accessFlags := 16409, slot := 2, constantValue := 0 }, { name := "RANK_MAXIMAL", type := (.object "dev/stablemate/solve/Criterion"), accessFlags := 16409, slot := 3, constantValue := 0 }, { name := "GENEROUS", type := (.object "dev/stablemate/solve/Criterion"), accessFlags := 16409, slot := 4, constantValue := 0 }, { name := "label", type := (.object "java/lang/String"), accessFlags := 18, slot := 3, constantValue := 0 }, { name := "$VALUES", type := (.array (.object "dev/stablemate/solve/Criterion")), accessFlags := 4122, slot := 5, constantValue := 0 }]
  methods := #[k7m0, k7m1]
  instanceTypes := #[(.object "java/lang/String"), .int, .int, (.object "java/lang/String")]
  staticTypes := #[(.object "dev/stablemate/solve/Criterion"), (.object "dev/stablemate/solve/Criterion"), (.object "dev/stablemate/solve/Criterion"), (.object "dev/stablemate/solve/Criterion"), (.object "dev/stablemate/solve/Criterion"), (.array (.object "dev/stablemate/solve/Criterion"))]
  resolved := Array.replicate 145 none
  statics := some 0 }

def pool8 : Array CpInfo := pool [(1, .methodref 2 3), (0, .class_ 4), (0, .nameAndType 5 6), (0, u "java/lang/Object"), (0, u "<init>"), (0, u "()V"), (0, .fieldref 8 9), (0, .class_ 10), (0, .nameAndType 11 12), (0, u "dev/stablemate/solve/Profile"), (0, u "length"), (0, u "I"), (0, .methodref 14 15), (0, .class_ 16), (0, .nameAndType 17 18), (0, u "java/util/Arrays"), (0, u "copyOf"), (0, u "([II)[I"), (0, .fieldref 8 20), (0, .nameAndType 21 22), (0, u "counts"), (0, u "[I"), (0, .fieldref 8 24), (0, .nameAndType 25 26), (0, u "cost"), (0, u "J"), (9, u "()I"), (5, u "(I)I"), (6, u "ofRanks"), (0, u "(I[II)Ldev/stablemate/solve/Profile;"), (0, .methodref 8 52), (0, .nameAndType 5 53), (0, u "(I[I)V"), (19, u "count"), (0, u "()J"), (0, u "regret")] 5

def k8c0 : Code := { maxStack := 7, maxLocals := 7, code := prog_26_method_1_code, exceptionTable := #[], attributes := #[] }
def k8m0 : Method := { name := "<init>", desc := "(I[I)V", sig := { parameters := [.int, (.array .int)], returnType := none }, accessFlags := 2, code := some k8c0 }
def k8c1 : Code := { maxStack := 4, maxLocals := 5, code := prog_26_method_3_code, exceptionTable := #[], attributes := #[] }
def k8m1 : Method := { name := "ofRanks", desc := "(I[II)Ldev/stablemate/solve/Profile;", sig := { parameters := [.int, (.array .int), .int], returnType := some (.object "dev/stablemate/solve/Profile") }, accessFlags := 8, code := some k8c1 }
def k8c2 : Code := { maxStack := 3, maxLocals := 2, code := prog_26_method_6_code, exceptionTable := #[], attributes := #[] }
def k8m2 : Method := { name := "count", desc := "(I)I", sig := { parameters := [.int], returnType := some .int }, accessFlags := 1, code := some k8c2 }
def k8c3 : Code := { maxStack := 2, maxLocals := 1, code := prog_26_method_7_code, exceptionTable := #[], attributes := #[] }
def k8m3 : Method := { name := "cost", desc := "()J", sig := { parameters := [], returnType := some .long }, accessFlags := 1, code := some k8c3 }
def k8c4 : Code := { maxStack := 1, maxLocals := 1, code := prog_26_method_8_code, exceptionTable := #[], attributes := #[] }
def k8m4 : Method := { name := "regret", desc := "()I", sig := { parameters := [], returnType := some .int }, accessFlags := 1, code := some k8c4 }
/-- dev/stablemate/solve/Profile -/
def k8 : Class := { plain "dev/stablemate/solve/Profile" (some 0) with
  accessFlags := 49
  interfaces := #[]
  cf := some (fileOf pool8 8 #[] #[{ accessFlags := 2, nameIndex := 5, descriptorIndex := 53, attributes := #[] }, { accessFlags := 8, nameIndex := 49, descriptorIndex := 50, attributes := #[] }, { accessFlags := 1, nameIndex := 73, descriptorIndex := 42, attributes := #[] }, { accessFlags := 1, nameIndex := 25, descriptorIndex := 74, attributes := #[] }, { accessFlags := 1, nameIndex := 75, descriptorIndex := 36, attributes := #[] }] 49 2 #[] #[{ accessFlags := 18, nameIndex := 11, descriptorIndex := 12, attributes := #[] }, { accessFlags := 18, nameIndex := 21, descriptorIndex := 22, attributes := #[] }, { accessFlags := 18, nameIndex := 25, descriptorIndex := 26, attributes := #[] }])
  fields := #[{ name := "length", type := .int, accessFlags := 18, slot := 0, constantValue := 0 }, { name := "counts", type := (.array .int), accessFlags := 18, slot := 1, constantValue := 0 }, { name := "cost", type := .long, accessFlags := 18, slot := 2, constantValue := 0 }]
  methods := #[k8m0, k8m1, k8m2, k8m3, k8m4]
  instanceTypes := #[.int, (.array .int), .long]
  staticTypes := #[]
  resolved := Array.replicate 81 none
  statics := none }

def pool9 : Array CpInfo := pool [(2, .class_ 4), (1, u "java/lang/Object"), (0, u "<init>"), (0, u "()V"), (7, .class_ 16), (1, u "java/util/Arrays"), (57, .class_ 76), (1, u "java/util/Arrays$NaturalOrder"), (32, u "()Ljava/lang/Object;"), (3, .class_ 115), (1, u "java/util/Arrays$LegacyMergeSort"), (1, u "Z"), (10, .nameAndType 129 109), (0, u "clone"), (20, .methodref 151 152), (0, .class_ 153), (0, .nameAndType 154 155), (0, u "java/lang/System"), (0, u "arraycopy"), (0, u "(Ljava/lang/Object;ILjava/lang/Object;II)V"), (146, u "copyOf"), (1, .methodref 305 306), (0, .class_ 307), (0, .nameAndType 308 309), (0, u "java/lang/Math"), (0, u "min"), (0, u "(II)I"), (6, .methodref 317 128), (0, .class_ 318), (0, u "[I"), (56, .class_ 376), (0, u "java/util/Arrays$ArrayList"), (68, u "$assertionsDisabled"), (269, u "MIN_ARRAY_SORT_GRAN"), (0, u "I"), (2, u "INSERTIONSORT_THRESHOLD"), (151, u "([II)[I"), (103, .class_ 976), (0, u "java/util/Arrays$ArrayItr")] 52

def k9m0 : Method := { name := "<init>", desc := "()V", sig := { parameters := [], returnType := none }, accessFlags := 2, code := none }
def k9c1 : Code := { maxStack := 6, maxLocals := 3, code := jdk_65_method_123_code, exceptionTable := #[], attributes := #[] }
def k9m1 : Method := { name := "copyOf", desc := "([II)[I", sig := { parameters := [(.array .int), .int], returnType := some (.array .int) }, accessFlags := 9, code := some k9c1 }
/-- java/util/Arrays -/
def k9 : Class := { plain "java/util/Arrays" (some 0) with
  accessFlags := 49
  interfaces := #[]
  cf := some (fileOf pool9 14 #[.nestMembers #[975, 375, 113, 74]] #[{ accessFlags := 2, nameIndex := 5, descriptorIndex := 6, attributes := #[] }, { accessFlags := 9, nameIndex := 302, descriptorIndex := 871, attributes := #[] }] 49 2 #[] #[{ accessFlags := 26, nameIndex := 715, descriptorIndex := 716, attributes := #[] }, { accessFlags := 26, nameIndex := 719, descriptorIndex := 716, attributes := #[] }, { accessFlags := 4120, nameIndex := 445, descriptorIndex := 117, attributes := #[] }])
  fields := #[{ name := "MIN_ARRAY_SORT_GRAN", type := .int, accessFlags := 26, slot := 0, constantValue := 0 }, { name := "INSERTIONSORT_THRESHOLD", type := .int, accessFlags := 26, slot := 1, constantValue := 0 }, { name := "$assertionsDisabled", type := .boolean, accessFlags := 4120, slot := 2, constantValue := 0 }]
  methods := #[k9m0, k9m1]
  instanceTypes := #[]
  staticTypes := #[.int, .int, .boolean]
  resolved := Array.replicate 1029 none
  statics := none }

def pool10 : Array CpInfo := pool [(1, .class_ 2), (0, u "java/lang/Math"), (1, .class_ 6), (1, u "java/lang/Object"), (0, u "<init>"), (0, u "()V"), (89, .class_ 100), (1, u "java/lang/Math$RandomNumberGeneratorHolder"), (71, u "negativeZeroFloatBits"), (0, u "J"), (2, u "negativeZeroDoubleBits"), (21, u "max"), (2, u "min"), (43, u "$assertionsDisabled"), (0, u "Z"), (88, u "(II)I"), (2, u "twoToTheDoubleScaleDown"), (0, u "D"), (4, u "twoToTheDoubleScaleUp"), (9, u "E"), (3, u "PI"), (2, u "TAU"), (2, u "DEGREES_TO_RADIANS"), (0, u "RADIANS_TO_DEGREES")] 94

def k10m0 : Method := { name := "<init>", desc := "()V", sig := { parameters := [], returnType := none }, accessFlags := 2, code := none }
def k10c1 : Code := { maxStack := 2, maxLocals := 2, code := jdk_29_method_65_code, exceptionTable := #[], attributes := #[] }
def k10m1 : Method := { name := "max", desc := "(II)I", sig := { parameters := [.int, .int], returnType := some .int }, accessFlags := 9, code := some k10c1 }
def k10c2 : Code := { maxStack := 2, maxLocals := 2, code := jdk_29_method_69_code, exceptionTable := #[], attributes := #[] }
def k10m2 : Method := { name := "min", desc := "(II)I", sig := { parameters := [.int, .int], returnType := some .int }, accessFlags := 9, code := some k10c2 }
/-- java/lang/Math -/
def k10 : Class := { plain "java/lang/Math" (some 0) with
  accessFlags := 49
  interfaces := #[]
  cf := some (fileOf pool10 1 #[.nestMembers #[98]] #[{ accessFlags := 2, nameIndex := 7, descriptorIndex := 8, attributes := #[] }, { accessFlags := 9, nameIndex := 198, descriptorIndex := 335, attributes := #[] }, { accessFlags := 9, nameIndex := 201, descriptorIndex := 335, attributes := #[] }] 49 4 #[] #[{ accessFlags := 25, nameIndex := 354, descriptorIndex := 339, attributes := #[] }, { accessFlags := 25, nameIndex := 358, descriptorIndex := 339, attributes := #[] }, { accessFlags := 25, nameIndex := 361, descriptorIndex := 339, attributes := #[] }, { accessFlags := 26, nameIndex := 364, descriptorIndex := 339, attributes := #[] }, { accessFlags := 26, nameIndex := 365, descriptorIndex := 339, attributes := #[] }, { accessFlags := 26, nameIndex := 172, descriptorIndex := 173, attributes := #[] }, { accessFlags := 26, nameIndex := 176, descriptorIndex := 173, attributes := #[] }, { accessFlags := 8, nameIndex := 344, descriptorIndex := 339, attributes := #[] }, { accessFlags := 8, nameIndex := 338, descriptorIndex := 339, attributes := #[] }, { accessFlags := 4120, nameIndex := 245, descriptorIndex := 246, attributes := #[] }])
  fields := #[{ name := "E", type := .double, accessFlags := 25, slot := 0, constantValue := 0 }, { name := "PI", type := .double, accessFlags := 25, slot := 1, constantValue := 0 }, { name := "TAU", type := .double, accessFlags := 25, slot := 2, constantValue := 0 }, { name := "DEGREES_TO_RADIANS", type := .double, accessFlags := 26, slot := 3, constantValue := 0 }, { name := "RADIANS_TO_DEGREES", type := .double, accessFlags := 26, slot := 4, constantValue := 0 }, { name := "negativeZeroFloatBits", type := .long, accessFlags := 26, slot := 5, constantValue := 0 }, { name := "negativeZeroDoubleBits", type := .long, accessFlags := 26, slot := 6, constantValue := 0 }, { name := "twoToTheDoubleScaleUp", type := .double, accessFlags := 8, slot := 7, constantValue := 0 }, { name := "twoToTheDoubleScaleDown", type := .double, accessFlags := 8, slot := 8, constantValue := 0 }, { name := "$assertionsDisabled", type := .boolean, accessFlags := 4120, slot := 9, constantValue := 0 }]
  methods := #[k10m0, k10m1, k10m2]
  instanceTypes := #[]
  staticTypes := #[.double, .double, .double, .double, .double, .long, .long, .double, .double, .boolean]
  resolved := Array.replicate 460 none
  statics := none }

def pool11 : Array CpInfo := pool [(2, .class_ 4), (1, u "java/lang/Object"), (0, u "<init>"), (0, u "()V"), (1, .class_ 10), (1, u "java/lang/System"), (0, u "allowSecurityManager"), (0, u "I"), (16, u "cons"), (0, u "Ljava/io/Console;"), (77, .class_ 110), (1, u "java/lang/System$CallersHolder"), (43, u "initialErrStream"), (0, u "Ljava/io/PrintStream;"), (19, u "security"), (0, u "Ljava/lang/SecurityManager;"), (31, .class_ 209), (0, u "java/lang/System$1"), (7, u "props"), (0, u "Ljava/util/Properties;"), (2, u "lineSeparator"), (0, u "Ljava/lang/String;"), (96, .class_ 321), (1, u "java/lang/System$LoggerFinder"), (5, .class_ 328), (0, u "java/lang/System$Logger"), (67, u "err"), (2, u "out"), (91, u "notSupportedJnuEncoding"), (15, u "in"), (17, u "initialIn"), (0, u "Ljava/io/InputStream;"), (35, u "bootLayer"), (0, u "Ljava/lang/ModuleLayer;"), (99, .class_ 664), (0, u "java/lang/System$2"), (9, u "NEVER"), (2, u "MAYBE"), (49, u "arraycopy"), (0, u "(Ljava/lang/Object;ILjava/lang/Object;II)V"), (72, .class_ 802), (0, u "java/lang/System$Logger$Level")] 31

def k11m0 : Method := { name := "<init>", desc := "()V", sig := { parameters := [], returnType := none }, accessFlags := 2, code := none }
def k11m1 : Method := { name := "arraycopy", desc := "(Ljava/lang/Object;ILjava/lang/Object;II)V", sig := { parameters := [(.object "java/lang/Object"), .int, (.object "java/lang/Object"), .int, .int], returnType := none }, accessFlags := 265, code := none }
/-- java/lang/System -/
def k11 : Class := { plain "java/lang/System" (some 0) with
  accessFlags := 49
  interfaces := #[]
  cf := some (fileOf pool11 8 #[.nestMembers #[319, 327, 801, 108, 663, 208]] #[{ accessFlags := 2, nameIndex := 5, descriptorIndex := 6, attributes := #[] }, { accessFlags := 265, nameIndex := 727, descriptorIndex := 728, attributes := #[] }] 49 2 #[] #[{ accessFlags := 25, nameIndex := 507, descriptorIndex := 526, attributes := #[] }, { accessFlags := 25, nameIndex := 399, descriptorIndex := 155, attributes := #[] }, { accessFlags := 25, nameIndex := 396, descriptorIndex := 155, attributes := #[] }, { accessFlags := 10, nameIndex := 525, descriptorIndex := 526, attributes := #[] }, { accessFlags := 26, nameIndex := 674, descriptorIndex := 12, attributes := #[] }, { accessFlags := 26, nameIndex := 677, descriptorIndex := 12, attributes := #[] }, { accessFlags := 10, nameIndex := 11, descriptorIndex := 12, attributes := #[] }, { accessFlags := 74, nameIndex := 175, descriptorIndex := 176, attributes := #[] }, { accessFlags := 10, nameIndex := 491, descriptorIndex := 222, attributes := #[] }, { accessFlags := 74, nameIndex := 29, descriptorIndex := 30, attributes := #[] }, { accessFlags := 74, nameIndex := 154, descriptorIndex := 155, attributes := #[] }, { accessFlags := 10, nameIndex := 217, descriptorIndex := 218, attributes := #[] }, { accessFlags := 10, nameIndex := 221, descriptorIndex := 222, attributes := #[] }, { accessFlags := 8, nameIndex := 562, descriptorIndex := 563, attributes := #[] }])
  fields := #[{ name := "in", type := (.object "java/io/InputStream"), accessFlags := 25, slot := 0, constantValue := 0 }, { name := "out", type := (.object "java/io/PrintStream"), accessFlags := 25, slot := 1, constantValue := 0 }, { name := "err", type := (.object "java/io/PrintStream"), accessFlags := 25, slot := 2, constantValue := 0 }, { name := "initialIn", type := (.object "java/io/InputStream"), accessFlags := 10, slot := 3, constantValue := 0 }, { name := "NEVER", type := .int, accessFlags := 26, slot := 4, constantValue := 0 }, { name := "MAYBE", type := .int, accessFlags := 26, slot := 5, constantValue := 0 }, { name := "allowSecurityManager", type := .int, accessFlags := 10, slot := 6, constantValue := 0 }, { name := "security", type := (.object "java/lang/SecurityManager"), accessFlags := 74, slot := 7, constantValue := 0 }, { name := "notSupportedJnuEncoding", type := (.object "java/lang/String"), accessFlags := 10, slot := 8, constantValue := 0 }, { name := "cons", type := (.object "java/io/Console"), accessFlags := 74, slot := 9, constantValue := 0 }, { name := "initialErrStream", type := (.object "java/io/PrintStream"), accessFlags := 74, slot := 10, constantValue := 0 }, { name := "props", type := (.object "java/util/Properties"), accessFlags := 10, slot := 11, constantValue := 0 }, { name := "lineSeparator", type := (.object "java/lang/String"), accessFlags := 10, slot := 12, constantValue := 0 }, { name := "bootLayer", type := (.object "java/lang/ModuleLayer"), accessFlags := 8, slot := 13, constantValue := 0 }]
  methods := #[k11m0, k11m1]
  instanceTypes := #[]
  staticTypes := #[(.object "java/io/InputStream"), (.object "java/io/PrintStream"), (.object "java/io/PrintStream"), (.object "java/io/InputStream"), .int, .int, .int, (.object "java/lang/SecurityManager"), (.object "java/lang/String"), (.object "java/io/Console"), (.object "java/io/PrintStream"), (.object "java/util/Properties"), (.object "java/lang/String"), (.object "java/lang/ModuleLayer")]
  resolved := Array.replicate 834 none
  statics := none }

def pool12 : Array CpInfo := pool [(1, .class_ 2), (0, u "java/lang/Cloneable"), (0, .class_ 4), (0, u "java/lang/Object")] 2

/-- java/lang/Cloneable -/
def k12 : Class := { plain "java/lang/Cloneable" (some 0) with
  accessFlags := 1537
  interfaces := #[]
  cf := some (fileOf pool12 1 #[] #[] 1537 3 #[] #[])
  fields := #[]
  methods := #[]
  instanceTypes := #[]
  staticTypes := #[]
  resolved := Array.replicate 7 none
  statics := none }

def pool13 : Array CpInfo := pool [(2, .class_ 4), (1, u "java/lang/Object"), (0, u "<init>"), (0, u "()V"), (1, .class_ 10), (1, u "java/lang/Number"), (2, .class_ 14), (0, u "java/io/Serializable"), (0, u "serialVersionUID"), (0, u "J")] 20

def k13m0 : Method := { name := "<init>", desc := "()V", sig := { parameters := [], returnType := none }, accessFlags := 1, code := none }
/-- java/lang/Number -/
def k13 : Class := { plain "java/lang/Number" (some 0) with
  accessFlags := 1057
  interfaces := #[4]
  cf := some (fileOf pool13 8 #[] #[{ accessFlags := 1, nameIndex := 5, descriptorIndex := 6, attributes := #[] }] 1057 2 #[13] #[{ accessFlags := 26, nameIndex := 15, descriptorIndex := 16, attributes := #[] }])
  fields := #[{ name := "serialVersionUID", type := .long, accessFlags := 26, slot := 0, constantValue := 0 }]
  methods := #[k13m0]
  instanceTypes := #[]
  staticTypes := #[.long]
  resolved := Array.replicate 37 none
  statics := none }

def pool14 : Array CpInfo := pool [(1, .class_ 2), (0, u "java/lang/constant/ConstantDesc"), (0, .class_ 4), (0, u "java/lang/Object")] 32

/-- java/lang/constant/ConstantDesc -/
def k14 : Class := { plain "java/lang/constant/ConstantDesc" (some 0) with
  accessFlags := 1537
  interfaces := #[]
  cf := some (fileOf pool14 1 #[] #[] 1537 3 #[] #[])
  fields := #[]
  methods := #[]
  instanceTypes := #[]
  staticTypes := #[]
  resolved := Array.replicate 37 none
  statics := none }

def pool15 : Array CpInfo := pool [(1, .class_ 2), (0, u "java/lang/Long"), (232, .class_ 237), (1, u "java/lang/Long$LongCache"), (33, .class_ 272), (0, u "java/lang/Number"), (2, u "value"), (0, u "J"), (27, u "compare"), (0, u "(JJ)I"), (55, u "TYPE"), (0, u "Ljava/lang/Class;"), (0, .class_ 364), (0, u "java/lang/Comparable"), (0, .class_ 366), (0, u "java/lang/constant/Constable"), (0, .class_ 368), (0, u "java/lang/constant/ConstantDesc"), (0, u "MIN_VALUE"), (1, u "MAX_VALUE"), (4, u "SIZE"), (0, u "I"), (1, u "BYTES"), (1, u "serialVersionUID")] 142

def k15c0 : Code := { maxStack := 4, maxLocals := 4, code := jdk_35_method_42_code, exceptionTable := #[], attributes := #[] }
def k15m0 : Method := { name := "compare", desc := "(JJ)I", sig := { parameters := [.long, .long], returnType := some .int }, accessFlags := 9, code := some k15c0 }
/-- java/lang/Long -/
def k15 : Class := { plain "java/lang/Long" (some 13) with
  accessFlags := 49
  interfaces := #[3, 2, 14]
  cf := some (fileOf pool15 1 #[.nestMembers #[235]] #[{ accessFlags := 9, nameIndex := 304, descriptorIndex := 305, attributes := #[] }] 49 271 #[363, 365, 367] #[{ accessFlags := 25, nameIndex := 369, descriptorIndex := 276, attributes := #[] }, { accessFlags := 25, nameIndex := 371, descriptorIndex := 276, attributes := #[] }, { accessFlags := 25, nameIndex := 361, descriptorIndex := 362, attributes := #[] }, { accessFlags := 18, nameIndex := 275, descriptorIndex := 276, attributes := #[] }, { accessFlags := 25, nameIndex := 376, descriptorIndex := 377, attributes := #[] }, { accessFlags := 25, nameIndex := 379, descriptorIndex := 377, attributes := #[] }, { accessFlags := 26, nameIndex := 381, descriptorIndex := 276, attributes := #[] }])
  fields := #[{ name := "MIN_VALUE", type := .long, accessFlags := 25, slot := 0, constantValue := 0 }, { name := "MAX_VALUE", type := .long, accessFlags := 25, slot := 1, constantValue := 0 }, { name := "TYPE", type := (.object "java/lang/Class"), accessFlags := 25, slot := 2, constantValue := 0 }, { name := "value", type := .long, accessFlags := 18, slot := 0, constantValue := 0 }, { name := "SIZE", type := .int, accessFlags := 25, slot := 3, constantValue := 0 }, { name := "BYTES", type := .int, accessFlags := 25, slot := 4, constantValue := 0 }, { name := "serialVersionUID", type := .long, accessFlags := 26, slot := 5, constantValue := 0 }]
  methods := #[k15m0]
  instanceTypes := #[.long]
  staticTypes := #[.long, .long, (.object "java/lang/Class"), .int, .int, .long]
  resolved := Array.replicate 524 none
  statics := none }

def pool16 : Array CpInfo := pool [(1, .class_ 2), (0, u "java/lang/Integer"), (16, u "digits"), (0, u "[C"), (39, u "(II)I"), (24, u "DigitOnes"), (0, u "[B"), (2, u "DigitTens"), (99, .class_ 190), (0, u "java/lang/Integer$IntegerCache"), (3, u "I"), (8, .class_ 204), (0, u "java/lang/Number"), (2, u "value"), (53, u "compare"), (40, u "TYPE"), (0, u "Ljava/lang/Class;"), (0, .class_ 305), (0, u "java/lang/Comparable"), (0, .class_ 307), (0, u "java/lang/constant/Constable"), (0, .class_ 309), (0, u "java/lang/constant/ConstantDesc"), (0, u "MIN_VALUE"), (1, u "MAX_VALUE"), (3, u "SIZE"), (1, u "BYTES"), (1, u "serialVersionUID"), (0, u "J")] 131

def k16c0 : Code := { maxStack := 2, maxLocals := 2, code := jdk_33_method_40_code, exceptionTable := #[], attributes := #[] }
def k16m0 : Method := { name := "compare", desc := "(II)I", sig := { parameters := [.int, .int], returnType := some .int }, accessFlags := 9, code := some k16c0 }
/-- java/lang/Integer -/
def k16 : Class := { plain "java/lang/Integer" (some 13) with
  accessFlags := 49
  interfaces := #[3, 2, 14]
  cf := some (fileOf pool16 1 #[.nestMembers #[189]] #[{ accessFlags := 9, nameIndex := 261, descriptorIndex := 60, attributes := #[] }] 49 203 #[304, 306, 308] #[{ accessFlags := 25, nameIndex := 310, descriptorIndex := 194, attributes := #[] }, { accessFlags := 25, nameIndex := 312, descriptorIndex := 194, attributes := #[] }, { accessFlags := 25, nameIndex := 302, descriptorIndex := 303, attributes := #[] }, { accessFlags := 24, nameIndex := 19, descriptorIndex := 20, attributes := #[] }, { accessFlags := 24, nameIndex := 89, descriptorIndex := 86, attributes := #[] }, { accessFlags := 24, nameIndex := 85, descriptorIndex := 86, attributes := #[] }, { accessFlags := 18, nameIndex := 207, descriptorIndex := 194, attributes := #[] }, { accessFlags := 25, nameIndex := 316, descriptorIndex := 194, attributes := #[] }, { accessFlags := 25, nameIndex := 318, descriptorIndex := 194, attributes := #[] }, { accessFlags := 26, nameIndex := 320, descriptorIndex := 321, attributes := #[] }])
  fields := #[{ name := "MIN_VALUE", type := .int, accessFlags := 25, slot := 0, constantValue := 0 }, { name := "MAX_VALUE", type := .int, accessFlags := 25, slot := 1, constantValue := 0 }, { name := "TYPE", type := (.object "java/lang/Class"), accessFlags := 25, slot := 2, constantValue := 0 }, { name := "digits", type := (.array .char), accessFlags := 24, slot := 3, constantValue := 0 }, { name := "DigitTens", type := (.array .byte), accessFlags := 24, slot := 4, constantValue := 0 }, { name := "DigitOnes", type := (.array .byte), accessFlags := 24, slot := 5, constantValue := 0 }, { name := "value", type := .int, accessFlags := 18, slot := 0, constantValue := 0 }, { name := "SIZE", type := .int, accessFlags := 25, slot := 6, constantValue := 0 }, { name := "BYTES", type := .int, accessFlags := 25, slot := 7, constantValue := 0 }, { name := "serialVersionUID", type := .long, accessFlags := 26, slot := 8, constantValue := 0 }]
  methods := #[k16m0]
  instanceTypes := #[.int]
  staticTypes := #[.int, .int, (.object "java/lang/Class"), (.array .char), (.array .byte), (.array .byte), .int, .int, .long]
  resolved := Array.replicate 453 none
  statics := none }

/-- the primitive byte -/
def k17 : Class := { plain "byte" none with kind := .primitive 'B', accessFlags := 0x411 }
/-- [B -/
def k18 : Class := { plain "[B" (some 0) with kind := .array 17 .byte, interfaces := #[12, 4], accessFlags := 1041 }

/-- the primitive int -/
def k19 : Class := { plain "int" none with kind := .primitive 'I', accessFlags := 0x411 }
/-- [I -/
def k20 : Class := { plain "[I" (some 0) with kind := .array 19 .int, interfaces := #[12, 4], accessFlags := 1041 }

/-- [Ldev/stablemate/solve/Criterion; -/
def k21 : Class := { plain "[Ldev/stablemate/solve/Criterion;" (some 0) with kind := .array 7 (.object "dev/stablemate/solve/Criterion"), interfaces := #[12, 4], accessFlags := 1041 }

def heap : Heap := #[{ cls := 7, slots := #[.ref 1, .ref 2, .ref 3, .ref 4, .ref 5, .null], vm := .statics 7 },
  { cls := 7, slots := #[.null, .int 0, .int 0, .null], vm := .none },
  { cls := 7, slots := #[.null, .int 1, .int 0, .null], vm := .none },
  { cls := 7, slots := #[.null, .int 2, .int 0, .null], vm := .none },
  { cls := 7, slots := #[.null, .int 3, .int 0, .null], vm := .none },
  { cls := 7, slots := #[.null, .int 4, .int 0, .null], vm := .none }]
def classes : Array Class := #[k0, k1, k2, k3, k4, k5, k6, k7, k8, k9, k10, k11, k12, k13, k14, k15, k16, k17, k18, k19, k20, k21]
def interned : List (Array UInt16 × Addr) := []
def slotsUsed : Nat := 26
def theMethod : MethodId := ⟨1, 1⟩
def args0 : Array Value := #[.int 1, .int 5, .int 9]
def aboutOver (below : List Frame) : State where
  vm := { classes := classes, interned := interned.toArray }
  heap := heap
  slotsUsed := slotsUsed
  threads := #[{ frames := .invoking theMethod args0 :: below }]
def below0 : List Frame := [.native { method := ⟨0, 0⟩, args := #[] }]
def about1 : State := aboutOver below0
def p0 : Program := .bare "" "" ""
def e0 : Env := launch0.env 0 0 0
theorem w_frames : about1.frames = Frame.invoking theMethod args0 :: below0 := rfl
set_option maxRecDepth 65536 in
theorem w_args : argsFit about1.vm theMethod args0 = true := by decide +kernel
set_option maxRecDepth 65536 in
theorem w_heap : heapFits about1 = true := by decide +kernel
set_option maxRecDepth 65536 in
theorem w_runnable : about1.curStatus? = some .runnable := by decide +kernel
set_option maxRecDepth 65536 in
theorem w_alone : about1.alone = true := by decide +kernel
set_option maxRecDepth 65536 in
theorem w_named : about1.methodNamed? x = some theMethod := by decide +kernel
set_option maxRecDepth 65536 in
theorem w_hears : about1.hears theMethod below0 = true := by decide +kernel
set_option maxRecDepth 65536 in
theorem w_ripe : about1.ripe theMethod args0 below0 = true := by decide +kernel
theorem w_running : about1.status = .running := rfl
set_option maxRecDepth 65536 in
theorem w_room : about1.hasRoom e0.platform room_1 = true :=
  launch0.hasRoom_least _ room_1 (by decide +kernel) (by decide +kernel) (by decide +kernel) (by decide +kernel) (by decide +kernel) (by decide +kernel)
theorem allAtoms_all (ts : List Jvm.Cond) (a : Array Jvm.Value) (st : Jvm.State) : (allAtoms ts).before a st = ts.all (fun c => c.before a st) := by
  induction ts with
  | nil => rfl
  | cons c t ih =>
    show (Jvm.Cond.and c (allAtoms t)).before a st = _
    rw [Jvm.Cond.before_and, ih, List.all_cons]
def words1 : List Jvm.Cond := Jvm.Cond.code x code maxLocals ret :: tables_1
/-- a 'code' word, met by the world's own term for the bytes: nothing is compared byte by byte -/
theorem code_word {y : MethodName} {bytes : ByteArray} {mx : Nat} {rt : Option FieldType} {a : Array Value} {s : State} {m : MethodId} {meth : Method} {c : Code} (h1 : s.methodNamed? y = some m) (h2 : s.vm.method? m = some meth) (h3 : meth.code = some c) (h4 : c.code = bytes)
    (h5 : (c.maxLocals == mx && c.exceptionTable.isEmpty && decide (c.maxStack ≤ mostOperands) && decide (meth.sig.returnType = rt) && !meth.locks && decide (parseMethodDescriptor y.desc = some meth.sig)) = true) : (Jvm.Cond.code y bytes mx rt).before a s = true := by
  simp only [Bool.and_eq_true, beq_iff_eq, Bool.not_eq_true', decide_eq_true_eq] at h5
  obtain ⟨⟨⟨⟨⟨g1, g2⟩, g3⟩, g4⟩, g5⟩, g6⟩ := h5
  simp [Cond.before, Cond.holds, Cond.value, h1, h2, h3, h4, g1, g2, g3, g4, g5, g6]
def isCode : Jvm.Cond → Bool
  | .code _ _ _ _ => true
  | _ => false
theorem all_split {L : List Jvm.Cond} {P : Jvm.Cond → Bool} (h1 : L.all (fun c => isCode c || P c) = true) (h2 : ∀ c ∈ L.filter isCode, P c = true) : L.all P = true := by
  refine List.all_eq_true.mpr fun c hc => ?_
  have h := List.all_eq_true.mp h1 c hc
  rcases Bool.eq_false_or_eq_true (isCode c) with hi | hi
  · exact h2 c (List.mem_filter.mpr ⟨hc, hi⟩)
  · simpa [hi] using h
set_option maxRecDepth 65536 in
theorem w_c0 : (Jvm.Cond.code x code maxLocals ret).before args0 about1 = true := code_word (m := ⟨1, 1⟩) (meth := k1m1) (c := k1c1) (by decide +kernel) rfl rfl rfl (by decide +kernel)
set_option maxRecDepth 65536 in
theorem w_c1 : (Jvm.Cond.code ({ cls := "dev/stablemate/solve/Profile", name := "ofRanks", desc := "(I[II)Ldev/stablemate/solve/Profile;" } : Jvm.MethodName) prog_26_method_3_code (5 : Nat) (Option.some (Jvm.ClassFile.FieldType.object "dev/stablemate/solve/Profile"))).before args0 about1 = true := code_word (m := ⟨8, 1⟩) (meth := k8m1) (c := k8c1) (by decide +kernel) rfl rfl rfl (by decide +kernel)
set_option maxRecDepth 65536 in
theorem w_c2 : (Jvm.Cond.code ({ cls := "dev/stablemate/solve/Profile", name := "<init>", desc := "(I[I)V" } : Jvm.MethodName) prog_26_method_1_code (7 : Nat) (Option.none : Option Jvm.ClassFile.FieldType)).before args0 about1 = true := code_word (m := ⟨8, 0⟩) (meth := k8m0) (c := k8c0) (by decide +kernel) rfl rfl rfl (by decide +kernel)
set_option maxRecDepth 65536 in
theorem w_c3 : (Jvm.Cond.code ({ cls := "java/lang/Object", name := "<init>", desc := "()V" } : Jvm.MethodName) object_method_1_code (1 : Nat) (Option.none : Option Jvm.ClassFile.FieldType)).before args0 about1 = true := code_word (m := ⟨0, 0⟩) (meth := k0m0) (c := k0c0) (by decide +kernel) rfl rfl rfl (by decide +kernel)
set_option maxRecDepth 65536 in
theorem w_c4 : (Jvm.Cond.code ({ cls := "java/util/Arrays", name := "copyOf", desc := "([II)[I" } : Jvm.MethodName) jdk_65_method_123_code (3 : Nat) (Option.some (Jvm.ClassFile.FieldType.array Jvm.ClassFile.FieldType.int))).before args0 about1 = true := code_word (m := ⟨9, 1⟩) (meth := k9m1) (c := k9c1) (by decide +kernel) rfl rfl rfl (by decide +kernel)
set_option maxRecDepth 65536 in
theorem w_c5 : (Jvm.Cond.code ({ cls := "java/lang/Math", name := "min", desc := "(II)I" } : Jvm.MethodName) jdk_29_method_69_code (2 : Nat) (Option.some Jvm.ClassFile.FieldType.int)).before args0 about1 = true := code_word (m := ⟨10, 2⟩) (meth := k10m2) (c := k10c2) (by decide +kernel) rfl rfl rfl (by decide +kernel)
set_option maxRecDepth 65536 in
theorem w_c6 : (Jvm.Cond.code ({ cls := "dev/stablemate/solve/Criterion", name := "putsRegretFirst", desc := "()Z" } : Jvm.MethodName) prog_18_method_7_code (1 : Nat) (Option.some Jvm.ClassFile.FieldType.boolean)).before args0 about1 = true := code_word (m := ⟨7, 1⟩) (meth := k7m1) (c := k7c1) (by decide +kernel) rfl rfl rfl (by decide +kernel)
set_option maxRecDepth 65536 in
theorem w_c7 : (Jvm.Cond.code ({ cls := "dev/stablemate/solve/Criterion", name := "compare", desc := "(Ldev/stablemate/solve/Profile;Ldev/stablemate/solve/Profile;)I" } : Jvm.MethodName) prog_18_method_6_code (6 : Nat) (Option.some Jvm.ClassFile.FieldType.int)).before args0 about1 = true := code_word (m := ⟨7, 0⟩) (meth := k7m0) (c := k7c0) (by decide +kernel) rfl rfl rfl (by decide +kernel)
set_option maxRecDepth 65536 in
theorem w_c8 : (Jvm.Cond.code ({ cls := "dev/stablemate/solve/Profile", name := "regret", desc := "()I" } : Jvm.MethodName) prog_26_method_8_code (1 : Nat) (Option.some Jvm.ClassFile.FieldType.int)).before args0 about1 = true := code_word (m := ⟨8, 4⟩) (meth := k8m4) (c := k8c4) (by decide +kernel) rfl rfl rfl (by decide +kernel)
set_option maxRecDepth 65536 in
theorem w_c9 : (Jvm.Cond.code ({ cls := "java/lang/Math", name := "max", desc := "(II)I" } : Jvm.MethodName) jdk_29_method_65_code (2 : Nat) (Option.some Jvm.ClassFile.FieldType.int)).before args0 about1 = true := code_word (m := ⟨10, 1⟩) (meth := k10m1) (c := k10c1) (by decide +kernel) rfl rfl rfl (by decide +kernel)
set_option maxRecDepth 65536 in
theorem w_c10 : (Jvm.Cond.code ({ cls := "java/lang/Enum", name := "ordinal", desc := "()I" } : Jvm.MethodName) jdk_37_method_2_code (1 : Nat) (Option.some Jvm.ClassFile.FieldType.int)).before args0 about1 = true := code_word (m := ⟨5, 0⟩) (meth := k5m0) (c := k5c0) (by decide +kernel) rfl rfl rfl (by decide +kernel)
set_option maxRecDepth 65536 in
theorem w_c11 : (Jvm.Cond.code ({ cls := "dev/stablemate/solve/Profile", name := "cost", desc := "()J" } : Jvm.MethodName) prog_26_method_7_code (1 : Nat) (Option.some Jvm.ClassFile.FieldType.long)).before args0 about1 = true := code_word (m := ⟨8, 3⟩) (meth := k8m3) (c := k8c3) (by decide +kernel) rfl rfl rfl (by decide +kernel)
set_option maxRecDepth 65536 in
theorem w_c12 : (Jvm.Cond.code ({ cls := "java/lang/Long", name := "compare", desc := "(JJ)I" } : Jvm.MethodName) jdk_35_method_42_code (4 : Nat) (Option.some Jvm.ClassFile.FieldType.int)).before args0 about1 = true := code_word (m := ⟨15, 0⟩) (meth := k15m0) (c := k15c0) (by decide +kernel) rfl rfl rfl (by decide +kernel)
set_option maxRecDepth 65536 in
theorem w_c13 : (Jvm.Cond.code ({ cls := "java/lang/Integer", name := "compare", desc := "(II)I" } : Jvm.MethodName) jdk_33_method_40_code (2 : Nat) (Option.some Jvm.ClassFile.FieldType.int)).before args0 about1 = true := code_word (m := ⟨16, 0⟩) (meth := k16m0) (c := k16c0) (by decide +kernel) rfl rfl rfl (by decide +kernel)
set_option maxRecDepth 65536 in
theorem w_c14 : (Jvm.Cond.code ({ cls := "dev/stablemate/solve/Profile", name := "count", desc := "(I)I" } : Jvm.MethodName) prog_26_method_6_code (2 : Nat) (Option.some Jvm.ClassFile.FieldType.int)).before args0 about1 = true := code_word (m := ⟨8, 2⟩) (meth := k8m2) (c := k8c2) (by decide +kernel) rfl rfl rfl (by decide +kernel)
def codes1 : List Jvm.Cond := [Jvm.Cond.code x code maxLocals ret, Jvm.Cond.code ({ cls := "dev/stablemate/solve/Profile", name := "ofRanks", desc := "(I[II)Ldev/stablemate/solve/Profile;" } : Jvm.MethodName) prog_26_method_3_code (5 : Nat) (Option.some (Jvm.ClassFile.FieldType.object "dev/stablemate/solve/Profile")), Jvm.Cond.code ({ cls := "dev/stablemate/solve/Profile", name := "<init>", desc := "(I[I)V" } : Jvm.MethodName) prog_26_method_1_code (7 : Nat) (Option.none : Option Jvm.ClassFile.FieldType), Jvm.Cond.code ({ cls := "java/lang/Object", name := "<init>", desc := "()V" } : Jvm.MethodName) object_method_1_code (1 : Nat) (Option.none : Option Jvm.ClassFile.FieldType), Jvm.Cond.code ({ cls := "java/util/Arrays", name := "copyOf", desc := "([II)[I" } : Jvm.MethodName) jdk_65_method_123_code (3 : Nat) (Option.some (Jvm.ClassFile.FieldType.array Jvm.ClassFile.FieldType.int)), Jvm.Cond.code ({ cls := "java/lang/Math", name := "min", desc := "(II)I" } : Jvm.MethodName) jdk_29_method_69_code (2 : Nat) (Option.some Jvm.ClassFile.FieldType.int), Jvm.Cond.code ({ cls := "dev/stablemate/solve/Criterion", name := "putsRegretFirst", desc := "()Z" } : Jvm.MethodName) prog_18_method_7_code (1 : Nat) (Option.some Jvm.ClassFile.FieldType.boolean), Jvm.Cond.code ({ cls := "dev/stablemate/solve/Criterion", name := "compare", desc := "(Ldev/stablemate/solve/Profile;Ldev/stablemate/solve/Profile;)I" } : Jvm.MethodName) prog_18_method_6_code (6 : Nat) (Option.some Jvm.ClassFile.FieldType.int), Jvm.Cond.code ({ cls := "dev/stablemate/solve/Profile", name := "regret", desc := "()I" } : Jvm.MethodName) prog_26_method_8_code (1 : Nat) (Option.some Jvm.ClassFile.FieldType.int), Jvm.Cond.code ({ cls := "java/lang/Math", name := "max", desc := "(II)I" } : Jvm.MethodName) jdk_29_method_65_code (2 : Nat) (Option.some Jvm.ClassFile.FieldType.int), Jvm.Cond.code ({ cls := "java/lang/Enum", name := "ordinal", desc := "()I" } : Jvm.MethodName) jdk_37_method_2_code (1 : Nat) (Option.some Jvm.ClassFile.FieldType.int), Jvm.Cond.code ({ cls := "dev/stablemate/solve/Profile", name := "cost", desc := "()J" } : Jvm.MethodName) prog_26_method_7_code (1 : Nat) (Option.some Jvm.ClassFile.FieldType.long), Jvm.Cond.code ({ cls := "java/lang/Long", name := "compare", desc := "(JJ)I" } : Jvm.MethodName) jdk_35_method_42_code (4 : Nat) (Option.some Jvm.ClassFile.FieldType.int), Jvm.Cond.code ({ cls := "java/lang/Integer", name := "compare", desc := "(II)I" } : Jvm.MethodName) jdk_33_method_40_code (2 : Nat) (Option.some Jvm.ClassFile.FieldType.int), Jvm.Cond.code ({ cls := "dev/stablemate/solve/Profile", name := "count", desc := "(I)I" } : Jvm.MethodName) prog_26_method_6_code (2 : Nat) (Option.some Jvm.ClassFile.FieldType.int)]
set_option maxRecDepth 65536 in
theorem codes_eq : words1.filter isCode = codes1 := rfl
theorem w_codes : ∀ c ∈ words1.filter isCode, c.before args0 about1 = true := by
  rw [codes_eq]
  intro c hc
  simp only [codes1, List.mem_cons, List.not_mem_nil, or_false] at hc
  rcases hc with rfl | rfl | rfl | rfl | rfl | rfl | rfl | rfl | rfl | rfl | rfl | rfl | rfl | rfl | rfl
  · exact w_c0
  · exact w_c1
  · exact w_c2
  · exact w_c3
  · exact w_c4
  · exact w_c5
  · exact w_c6
  · exact w_c7
  · exact w_c8
  · exact w_c9
  · exact w_c10
  · exact w_c11
  · exact w_c12
  · exact w_c13
  · exact w_c14
set_option maxRecDepth 65536 in
theorem w_t1 : (words1.take 24).all (fun c => isCode c || c.before args0 about1) = true := by decide +kernel
set_option maxRecDepth 65536 in
theorem w_t2 : ((words1.drop 24).take 24).all (fun c => isCode c || c.before args0 about1) = true := by decide +kernel
set_option maxRecDepth 65536 in
theorem w_t3 : (((words1.drop 24).drop 24).take 24).all (fun c => isCode c || c.before args0 about1) = true := by decide +kernel
set_option maxRecDepth 65536 in
theorem w_t4 : ((((words1.drop 24).drop 24).drop 24).take 24).all (fun c => isCode c || c.before args0 about1) = true := by decide +kernel
set_option maxRecDepth 65536 in
theorem w_t5 : ((((words1.drop 24).drop 24).drop 24).drop 24).all (fun c => isCode c || c.before args0 about1) = true := by decide +kernel
theorem w_tables : (allAtoms (Jvm.Cond.code x code maxLocals ret :: tables_1)).before args0 about1 = true := by
  rw [allAtoms_all]
  show words1.all (fun c => c.before args0 about1) = true
  refine all_split ?_ w_codes
  rw [← List.take_append_drop 24 words1, List.all_append, w_t1, ← List.take_append_drop 24 (words1.drop 24), List.all_append, w_t2, ← List.take_append_drop 24 ((words1.drop 24).drop 24), List.all_append, w_t3, ← List.take_append_drop 24 (((words1.drop 24).drop 24).drop 24), List.all_append, w_t4, w_t5]
  rfl
set_option maxRecDepth 65536 in
theorem w_case : (Jvm.Cond.and given_1 narrow_1).before args0 about1 = true := by decide +kernel
theorem w_applies : (headSpec (Jvm.Cond.code x code maxLocals ret :: tables_1) room_1).applies x e0.platform about1 = true :=
  (Spec.applies_iff w_frames).mpr ⟨w_running, w_runnable, w_alone, w_named, w_hears, w_ripe, w_room, w_tables⟩
theorem atStart : AtStart classFile x code maxLocals ret World_1 tables_1 room_1 Calls_1 rest_1 Pre_1 launch0 p0 e0 about1 theMethod args0 below0 :=
  ⟨lists_1, trivial, launch0.admits_env _ _ _, launch0.least_env, fairChoices_fair.cas, fairChoices_fair.clock, w_frames, w_args, w_heap, w_applies, trivial, trivial, w_case⟩
end start1
theorem witness_1 : WitnessClaimed_1 := ⟨start1.p0, start1.e0, start1.about1, start1.theMethod, start1.args0, start1.below0, start1.atStart⟩
end Jvm.Pilot.@@N@@
