import JvmDerived
import JvmDerived.Pilot.@@N@@Statement
import JvmDerived.Pilot.@@N@@Code
set_option linter.unusedVariables false
set_option linter.unusedSimpArgs false

namespace Jvm.OwnGo
open Sem ClassFile Op Lib Jvm.Stand Jvm.Free Jvm.LawKit Jvm.RoadKit
/-- what is known of a body while it is walked -/
def Cx (Z : State) (y : MethodName) (code : ByteArray) (ml : Nat) (ret : Option FieldType) (p : Program) (s : State) (m : MethodId) (meth : Method) (c : Code) : Prop :=
  p.tables.exec = Jvm.exec ∧ c.code = code ∧ Z.Warmed39 s.vm ∧ s.vm.findClass y.cls = some m.cls ∧ c.maxLocals = ml ∧ meth.sig.returnType = ret ∧ meth.locks = false ∧ meth.name = y.name
/-- the start that the last Stand is over: the start itself, or (w) the start with tables that have interned -/
def OkW (w : Bool) (s s' T' : State) : Prop := s' = s ∨ (w = true ∧ ∃ (vm : Vm) (k1 : Nat), s' = s.setVm vm ∧ s.Since vm k1 ∧ k1 ≤ T'.heap.size)
/-- from the frame (pc, Ls, st) over the heap h, with at most k cells and n slots made so far, the body of y returns with Q -/
def GoB (w : Bool) (l : Launch) (Z : State) (y : MethodName) (code : ByteArray) (ml : Nat) (ret : Option FieldType) (R : Room) (Q : Option Value → Heap → Prop) (k n : Nat) (h : Heap) (pc : Nat) (Ls : Array Slot) (st : List Value) : Prop :=
  ∀ (p : Program) (e : Env) (s : State) (m : MethodId) (args : Array Value) (below : List Frame) (meth : Method) (c : Code), Cx Z y code ml ret p s m meth c →
  ∀ (T : State) (L : List Loc) (k' n' : Nat), Stand p l e R s m args below meth c T L k' n' → k' ≤ k → n' ≤ n → Fr Z.heap.size L → T.heap = h →
  ∃ (s' : State) (v : Option Value) (T' : State) (L' : List Loc) (k'' n'' : Nat), OkW w s s' T' ∧ Stand p l e R s' m args below meth c T' L' k'' n'' ∧ k'' ≤ R.cells ∧ n'' ≤ R.slots ∧ Fr Z.heap.size L' ∧ Q v T'.heap ∧ (ret = none → v = none) ∧
    ∀ fs, (∀ (f : JFrame) (acts : List Action), f.method = m → f.locked = none → f.entered = [] → (doReturn e (T'.setTop f) acts v).1 = T'.setFrames fs) → Steps p.tables e below (T.setTop (mkF m pc Ls st)) (T'.setFrames fs)
abbrev Go (l : Launch) (Z : State) (y : MethodName) (code : ByteArray) (ml : Nat) (ret : Option FieldType) (R : Room) (Q : Option Value → Heap → Prop) (k n : Nat) (h : Heap) (pc : Nat) (Ls : Array Slot) (st : List Value) : Prop := GoB false l Z y code ml ret R Q k n h pc Ls st
/-- the shapes of an answer -/
def QI (P : Int32 → Heap → Prop) (v : Option Value) (h : Heap) : Prop := ∃ z : Int32, v = some (.int z) ∧ P z h
def QJ (P : Int64 → Heap → Prop) (v : Option Value) (h : Heap) : Prop := ∃ z : Int64, v = some (.long z) ∧ P z h
def QR (P : Value → Heap → Prop) (v : Option Value) (h : Heap) : Prop := ∃ z : Value, v = some z ∧ P z h
def QV (P : Heap → Prop) (v : Option Value) (h : Heap) : Prop := v = none ∧ P h
section Laws
variable {wf : Bool} {l : Launch} {Z : State} {y : MethodName} {code : ByteArray} {ml : Nat} {ret : Option FieldType} {R : Room} {Q : Option Value → Heap → Prop} {k n : Nat} {h : Heap} {pc : Nat} {Ls : Array Slot} {st : List Value} {a0 : Array Value}
theorem GoB.pure {pc' : Nat} {Ls' : Array Slot} {st' : List Value} (g : GoB wf l Z y code ml ret R Q k n h pc' Ls' st')
    (f : ∀ (p : Program) (e : Env) (s : State) (m : MethodId) (args : Array Value) (below : List Frame) (meth : Method) (c : Code), Cx Z y code ml ret p s m meth c → ∀ (T : State) (L : List Loc) (k' n' : Nat), Stand p l e R s m args below meth c T L k' n' → T.heap = h → ∀ target, Steps p.tables e below (T.setTop (mkF m pc' Ls' st')) target → Steps p.tables e below (T.setTop (mkF m pc Ls st)) target) :
    GoB wf l Z y code ml ret R Q k n h pc Ls st := by
  intro p e s m args below meth c K T L k' n' X h1 h2 N hT
  obtain ⟨s', v, T', L', k'', n'', ok', X', b1, b2, N', q, hv, stp⟩ := g p e s m args below meth c K T L k' n' X h1 h2 N hT
  exact ⟨s', v, T', L', k'', n'', ok', X', b1, b2, N', q, hv, fun fs hl => f p e s m args below meth c K T L k' n' X hT _ (stp fs hl)⟩
/-- a step that moves the state: by a law that hands out the new Stand -/
theorem GoB.move {pc' : Nat} {Ls' : Array Slot} {st' : List Value} {kk nn : Nat} {P : Heap → Prop} (g : ∀ h', P h' → GoB wf l Z y code ml ret R Q kk nn h' pc' Ls' st')
    (f : ∀ (p : Program) (e : Env) (s : State) (m : MethodId) (args : Array Value) (below : List Frame) (meth : Method) (c : Code), Cx Z y code ml ret p s m meth c → ∀ (T : State) (L : List Loc) (k' n' : Nat), Stand p l e R s m args below meth c T L k' n' → k' ≤ k → n' ≤ n → Fr Z.heap.size L → T.heap = h →
      ∃ (T' : State) (L' : List Loc) (k'' n'' : Nat), Stand p l e R s m args below meth c T' L' k'' n'' ∧ k'' ≤ kk ∧ n'' ≤ nn ∧ Fr Z.heap.size L' ∧ P T'.heap ∧ ∀ target, Steps p.tables e below (T'.setTop (mkF m pc' Ls' st')) target → Steps p.tables e below (T.setTop (mkF m pc Ls st)) target) :
    GoB wf l Z y code ml ret R Q k n h pc Ls st := by
  intro p e s m args below meth c K T L k' n' X h1 h2 N hT
  obtain ⟨T1, L1, k1, n1, X1, c1, c2, N1, p1, s1⟩ := f p e s m args below meth c K T L k' n' X h1 h2 N hT
  obtain ⟨s', v, T', L', k'', n'', ok', X', b1, b2, N', q, hv, stp⟩ := g _ p1 p e s m args below meth c K T1 L1 k1 n1 X1 c1 c2 N1 rfl
  exact ⟨s', v, T', L', k'', n'', ok', X', b1, b2, N', q, hv, fun fs hl => s1 _ (stp fs hl)⟩
theorem GoB.le {k₀ n₀ : Nat} (g : GoB wf l Z y code ml ret R Q k n h pc Ls st) (hk : k₀ ≤ k) (hn : n₀ ≤ n) : GoB wf l Z y code ml ret R Q k₀ n₀ h pc Ls st :=
  fun p e s m args below meth c K T L k' n' X h1 h2 N hT => g p e s m args below meth c K T L k' n' X (Nat.le_trans h1 hk) (Nat.le_trans h2 hn) N hT
theorem GoB.mono {Q' : Option Value → Heap → Prop} (g : GoB wf l Z y code ml ret R Q k n h pc Ls st) (hq : ∀ v h', Q v h' → Q' v h') : GoB wf l Z y code ml ret R Q' k n h pc Ls st := by
  intro p e s m args below meth c K T L k' n' X h1 h2 N hT
  obtain ⟨s', v, T', L', k'', n'', ok', X', b1, b2, N', q, r⟩ := g p e s m args below meth c K T L k' n' X h1 h2 N hT
  exact ⟨s', v, T', L', k'', n'', ok', X', b1, b2, N', hq _ _ q, r⟩
theorem Go.nameI {x : Int32} (g : ∀ v : Int32, v = x → GoB wf l Z y code ml ret R Q k n h pc Ls (.int v :: st)) : GoB wf l Z y code ml ret R Q k n h pc Ls (.int x :: st) := g x rfl
theorem Go.nameJ {x : Int64} (g : ∀ v : Int64, v = x → GoB wf l Z y code ml ret R Q k n h pc Ls (.long v :: st)) : GoB wf l Z y code ml ret R Q k n h pc Ls (.long x :: st) := g x rfl

theorem Go.iadd {x z : Int32} (q : Nat) (hd : decode code pc = .ok (.iadd, 1))  (hq : pc + 1 = q) (g : GoB wf l Z y code ml ret R Q k n h q Ls (.int (x + z) :: st)) : GoB wf l Z y code ml ret R Q k n h pc Ls (.int z :: .int x :: st) := by
  subst hq; exact g.pure fun p e s m args below meth c K T L k' n' X hT t r => XS.iadd X.here K.1 rfl (hb K.2.1 hd) rfl  r
theorem Go.isub {x z : Int32} (q : Nat) (hd : decode code pc = .ok (.isub, 1))  (hq : pc + 1 = q) (g : GoB wf l Z y code ml ret R Q k n h q Ls (.int (x - z) :: st)) : GoB wf l Z y code ml ret R Q k n h pc Ls (.int z :: .int x :: st) := by
  subst hq; exact g.pure fun p e s m args below meth c K T L k' n' X hT t r => XS.isub X.here K.1 rfl (hb K.2.1 hd) rfl  r
theorem Go.iand {x z : Int32} (q : Nat) (hd : decode code pc = .ok (.iand, 1))  (hq : pc + 1 = q) (g : GoB wf l Z y code ml ret R Q k n h q Ls (.int (x &&& z) :: st)) : GoB wf l Z y code ml ret R Q k n h pc Ls (.int z :: .int x :: st) := by
  subst hq; exact g.pure fun p e s m args below meth c K T L k' n' X hT t r => XS.iand X.here K.1 rfl (hb K.2.1 hd) rfl  r
theorem Go.imul {x z : Int32} (q : Nat) (hd : decode code pc = .ok (.imul, 1))  (hq : pc + 1 = q) (g : GoB wf l Z y code ml ret R Q k n h q Ls (.int (x * z) :: st)) : GoB wf l Z y code ml ret R Q k n h pc Ls (.int z :: .int x :: st) := by
  subst hq; exact g.pure fun p e s m args below meth c K T L k' n' X hT t r => XS.imul X.here K.1 rfl (hb K.2.1 hd) rfl  r
theorem Go.ixor {x z : Int32} (q : Nat) (hd : decode code pc = .ok (.ixor, 1))  (hq : pc + 1 = q) (g : GoB wf l Z y code ml ret R Q k n h q Ls (.int (x ^^^ z) :: st)) : GoB wf l Z y code ml ret R Q k n h pc Ls (.int z :: .int x :: st) := by
  subst hq; exact g.pure fun p e s m args below meth c K T L k' n' X hT t r => XT.ixor X.here K.1 rfl (hb K.2.1 hd) rfl  r
theorem Go.ior {x z : Int32} (q : Nat) (hd : decode code pc = .ok (.ior, 1))  (hq : pc + 1 = q) (g : GoB wf l Z y code ml ret R Q k n h q Ls (.int (x ||| z) :: st)) : GoB wf l Z y code ml ret R Q k n h pc Ls (.int z :: .int x :: st) := by
  subst hq; exact g.pure fun p e s m args below meth c K T L k' n' X hT t r => XT.ior X.here K.1 rfl (hb K.2.1 hd) rfl  r
theorem Go.ishl {x z : Int32} (q : Nat) (hd : decode code pc = .ok (.ishl, 1))  (hq : pc + 1 = q) (g : GoB wf l Z y code ml ret R Q k n h q Ls (.int (x <<< (z &&& 31)) :: st)) : GoB wf l Z y code ml ret R Q k n h pc Ls (.int z :: .int x :: st) := by
  subst hq; exact g.pure fun p e s m args below meth c K T L k' n' X hT t r => XT.ishl X.here K.1 rfl (hb K.2.1 hd) rfl  r
theorem Go.ishr {x z : Int32} (q : Nat) (hd : decode code pc = .ok (.ishr, 1))  (hq : pc + 1 = q) (g : GoB wf l Z y code ml ret R Q k n h q Ls (.int (x >>> (z &&& 31)) :: st)) : GoB wf l Z y code ml ret R Q k n h pc Ls (.int z :: .int x :: st) := by
  subst hq; exact g.pure fun p e s m args below meth c K T L k' n' X hT t r => XT.ishr X.here K.1 rfl (hb K.2.1 hd) rfl  r
theorem Go.iushr {x z : Int32} (q : Nat) (hd : decode code pc = .ok (.iushr, 1))  (hq : pc + 1 = q) (g : GoB wf l Z y code ml ret R Q k n h q Ls (.int (XT.ushr x z) :: st)) : GoB wf l Z y code ml ret R Q k n h pc Ls (.int z :: .int x :: st) := by
  subst hq; exact g.pure fun p e s m args below meth c K T L k' n' X hT t r => XT.iushr X.here K.1 rfl (hb K.2.1 hd) rfl  r
theorem Go.idiv {x z : Int32} (q : Nat) (hd : decode code pc = .ok (.idiv, 1)) (hz : z ≠ 0) (hq : pc + 1 = q) (g : GoB wf l Z y code ml ret R Q k n h q Ls (.int (x / z) :: st)) : GoB wf l Z y code ml ret R Q k n h pc Ls (.int z :: .int x :: st) := by
  subst hq; exact g.pure fun p e s m args below meth c K T L k' n' X hT t r => XS.idiv X.here K.1 rfl (hb K.2.1 hd) rfl hz r
theorem Go.irem {x z : Int32} (q : Nat) (hd : decode code pc = .ok (.irem, 1)) (hz : z ≠ 0) (hq : pc + 1 = q) (g : GoB wf l Z y code ml ret R Q k n h q Ls (.int (x % z) :: st)) : GoB wf l Z y code ml ret R Q k n h pc Ls (.int z :: .int x :: st) := by
  subst hq; exact g.pure fun p e s m args below meth c K T L k' n' X hT t r => iremM X K.1 rfl (hb K.2.1 hd) rfl hz r
theorem Go.ineg {x : Int32} (q : Nat) (hd : decode code pc = .ok (.ineg, 1))  (hq : pc + 1 = q) (g : GoB wf l Z y code ml ret R Q k n h q Ls (.int (-x) :: st)) : GoB wf l Z y code ml ret R Q k n h pc Ls (.int x :: st) := by
  subst hq; exact g.pure fun p e s m args below meth c K T L k' n' X hT t r => XS.ineg X.here K.1 rfl (hb K.2.1 hd) rfl  r
theorem Go.ladd {x z : Int64} (q : Nat) (hd : decode code pc = .ok (.ladd, 1))  (hq : pc + 1 = q) (g : GoB wf l Z y code ml ret R Q k n h q Ls (.long (x + z) :: st)) : GoB wf l Z y code ml ret R Q k n h pc Ls (.long z :: .long x :: st) := by
  subst hq; exact g.pure fun p e s m args below meth c K T L k' n' X hT t r => XT.ladd X.here K.1 rfl (hb K.2.1 hd) rfl  r
theorem Go.lsub {x z : Int64} (q : Nat) (hd : decode code pc = .ok (.lsub, 1))  (hq : pc + 1 = q) (g : GoB wf l Z y code ml ret R Q k n h q Ls (.long (x - z) :: st)) : GoB wf l Z y code ml ret R Q k n h pc Ls (.long z :: .long x :: st) := by
  subst hq; exact g.pure fun p e s m args below meth c K T L k' n' X hT t r => XT.lsub X.here K.1 rfl (hb K.2.1 hd) rfl  r
theorem Go.lmul {x z : Int64} (q : Nat) (hd : decode code pc = .ok (.lmul, 1))  (hq : pc + 1 = q) (g : GoB wf l Z y code ml ret R Q k n h q Ls (.long (x * z) :: st)) : GoB wf l Z y code ml ret R Q k n h pc Ls (.long z :: .long x :: st) := by
  subst hq; exact g.pure fun p e s m args below meth c K T L k' n' X hT t r => XT.lmul X.here K.1 rfl (hb K.2.1 hd) rfl  r
theorem Go.land {x z : Int64} (q : Nat) (hd : decode code pc = .ok (.land, 1))  (hq : pc + 1 = q) (g : GoB wf l Z y code ml ret R Q k n h q Ls (.long (x &&& z) :: st)) : GoB wf l Z y code ml ret R Q k n h pc Ls (.long z :: .long x :: st) := by
  subst hq; exact g.pure fun p e s m args below meth c K T L k' n' X hT t r => XT.land X.here K.1 rfl (hb K.2.1 hd) rfl  r
theorem Go.lor {x z : Int64} (q : Nat) (hd : decode code pc = .ok (.lor, 1))  (hq : pc + 1 = q) (g : GoB wf l Z y code ml ret R Q k n h q Ls (.long (x ||| z) :: st)) : GoB wf l Z y code ml ret R Q k n h pc Ls (.long z :: .long x :: st) := by
  subst hq; exact g.pure fun p e s m args below meth c K T L k' n' X hT t r => XT.lor X.here K.1 rfl (hb K.2.1 hd) rfl  r
theorem Go.lxor {x z : Int64} (q : Nat) (hd : decode code pc = .ok (.lxor, 1))  (hq : pc + 1 = q) (g : GoB wf l Z y code ml ret R Q k n h q Ls (.long (x ^^^ z) :: st)) : GoB wf l Z y code ml ret R Q k n h pc Ls (.long z :: .long x :: st) := by
  subst hq; exact g.pure fun p e s m args below meth c K T L k' n' X hT t r => XT.lxor X.here K.1 rfl (hb K.2.1 hd) rfl  r
theorem Go.ldiv {x z : Int64} (q : Nat) (hd : decode code pc = .ok (.ldiv, 1)) (hz : z ≠ 0) (hq : pc + 1 = q) (g : GoB wf l Z y code ml ret R Q k n h q Ls (.long (x / z) :: st)) : GoB wf l Z y code ml ret R Q k n h pc Ls (.long z :: .long x :: st) := by
  subst hq; exact g.pure fun p e s m args below meth c K T L k' n' X hT t r => XT.ldiv X.here K.1 rfl (hb K.2.1 hd) rfl hz r
theorem Go.lrem {x z : Int64} (q : Nat) (hd : decode code pc = .ok (.lrem, 1)) (hz : z ≠ 0) (hq : pc + 1 = q) (g : GoB wf l Z y code ml ret R Q k n h q Ls (.long (x - (x / z) * z) :: st)) : GoB wf l Z y code ml ret R Q k n h pc Ls (.long z :: .long x :: st) := by
  subst hq; exact g.pure fun p e s m args below meth c K T L k' n' X hT t r => XT.lrem X.here K.1 rfl (hb K.2.1 hd) rfl hz r
theorem Go.lneg {x : Int64} (q : Nat) (hd : decode code pc = .ok (.lneg, 1))  (hq : pc + 1 = q) (g : GoB wf l Z y code ml ret R Q k n h q Ls (.long (-x) :: st)) : GoB wf l Z y code ml ret R Q k n h pc Ls (.long x :: st) := by
  subst hq; exact g.pure fun p e s m args below meth c K T L k' n' X hT t r => XT.lneg X.here K.1 rfl (hb K.2.1 hd) rfl  r
theorem Go.lshl {x : Int64} {z : Int32} (q : Nat) (hd : decode code pc = .ok (.lshl, 1))  (hq : pc + 1 = q) (g : GoB wf l Z y code ml ret R Q k n h q Ls (.long (x <<< (z.toInt64 &&& 63)) :: st)) : GoB wf l Z y code ml ret R Q k n h pc Ls (.int z :: .long x :: st) := by
  subst hq; exact g.pure fun p e s m args below meth c K T L k' n' X hT t r => XT.lshl X.here K.1 rfl (hb K.2.1 hd) rfl  r
theorem Go.lshr {x : Int64} {z : Int32} (q : Nat) (hd : decode code pc = .ok (.lshr, 1))  (hq : pc + 1 = q) (g : GoB wf l Z y code ml ret R Q k n h q Ls (.long (x >>> (z.toInt64 &&& 63)) :: st)) : GoB wf l Z y code ml ret R Q k n h pc Ls (.int z :: .long x :: st) := by
  subst hq; exact g.pure fun p e s m args below meth c K T L k' n' X hT t r => XT.lshr X.here K.1 rfl (hb K.2.1 hd) rfl  r
theorem Go.lushr {x : Int64} {z : Int32} (q : Nat) (hd : decode code pc = .ok (.lushr, 1))  (hq : pc + 1 = q) (g : GoB wf l Z y code ml ret R Q k n h q Ls (.long (XT.ushrL x z) :: st)) : GoB wf l Z y code ml ret R Q k n h pc Ls (.int z :: .long x :: st) := by
  subst hq; exact g.pure fun p e s m args below meth c K T L k' n' X hT t r => XT.lushr X.here K.1 rfl (hb K.2.1 hd) rfl  r
theorem Go.lcmp {x z : Int64} (q : Nat) (hd : decode code pc = .ok (.lcmp, 1))  (hq : pc + 1 = q) (g : GoB wf l Z y code ml ret R Q k n h q Ls (.int (XT.cmpL x z) :: st)) : GoB wf l Z y code ml ret R Q k n h pc Ls (.long z :: .long x :: st) := by
  subst hq; exact g.pure fun p e s m args below meth c K T L k' n' X hT t r => XT.lcmp X.here K.1 rfl (hb K.2.1 hd) rfl  r
theorem Go.i2l {x : Int32} (q : Nat) (hd : decode code pc = .ok (.i2l, 1))  (hq : pc + 1 = q) (g : GoB wf l Z y code ml ret R Q k n h q Ls (.long x.toInt64 :: st)) : GoB wf l Z y code ml ret R Q k n h pc Ls (.int x :: st) := by
  subst hq; exact g.pure fun p e s m args below meth c K T L k' n' X hT t r => XT.i2l X.here K.1 rfl (hb K.2.1 hd) rfl  r
theorem Go.l2i {x : Int64} (q : Nat) (hd : decode code pc = .ok (.l2i, 1))  (hq : pc + 1 = q) (g : GoB wf l Z y code ml ret R Q k n h q Ls (.int x.toInt32 :: st)) : GoB wf l Z y code ml ret R Q k n h pc Ls (.long x :: st) := by
  subst hq; exact g.pure fun p e s m args below meth c K T L k' n' X hT t r => XT.l2i X.here K.1 rfl (hb K.2.1 hd) rfl  r
theorem Go.i2b {x : Int32} (q : Nat) (hd : decode code pc = .ok (.i2b, 1))  (hq : pc + 1 = q) (g : GoB wf l Z y code ml ret R Q k n h q Ls (.int x.toInt8.toInt32 :: st)) : GoB wf l Z y code ml ret R Q k n h pc Ls (.int x :: st) := by
  subst hq; exact g.pure fun p e s m args below meth c K T L k' n' X hT t r => XT.i2b X.here K.1 rfl (hb K.2.1 hd) rfl  r
theorem Go.i2c {x : Int32} (q : Nat) (hd : decode code pc = .ok (.i2c, 1))  (hq : pc + 1 = q) (g : GoB wf l Z y code ml ret R Q k n h q Ls (.int x.toUInt32.toUInt16.toUInt32.toInt32 :: st)) : GoB wf l Z y code ml ret R Q k n h pc Ls (.int x :: st) := by
  subst hq; exact g.pure fun p e s m args below meth c K T L k' n' X hT t r => XT.i2c X.here K.1 rfl (hb K.2.1 hd) rfl  r
theorem Go.i2s {x : Int32} (q : Nat) (hd : decode code pc = .ok (.i2s, 1))  (hq : pc + 1 = q) (g : GoB wf l Z y code ml ret R Q k n h q Ls (.int x.toInt16.toInt32 :: st)) : GoB wf l Z y code ml ret R Q k n h pc Ls (.int x :: st) := by
  subst hq; exact g.pure fun p e s m args below meth c K T L k' n' X hT t r => XT.i2s X.here K.1 rfl (hb K.2.1 hd) rfl  r
theorem Go.pop {x : Value} (q : Nat) (hd : decode code pc = .ok (.pop, 1)) (hc : x.category = 1) (hq : pc + 1 = q) (g : GoB wf l Z y code ml ret R Q k n h q Ls (st)) : GoB wf l Z y code ml ret R Q k n h pc Ls (x :: st) := by
  subst hq; exact g.pure fun p e s m args below meth c K T L k' n' X hT t r => XT.pop X.here K.1 rfl (hb K.2.1 hd) rfl hc r
theorem Go.dup {x : Value} (q : Nat) (hd : decode code pc = .ok (.dup, 1)) (hc : x.category = 1) (hq : pc + 1 = q) (g : GoB wf l Z y code ml ret R Q k n h q Ls (x :: x :: st)) : GoB wf l Z y code ml ret R Q k n h pc Ls (x :: st) := by
  subst hq; exact g.pure fun p e s m args below meth c K T L k' n' X hT t r => XS.dup X.here K.1 rfl (hb K.2.1 hd) rfl hc r
theorem Go.dupX1 {x z : Value} (q : Nat) (hd : decode code pc = .ok (.dup_x1, 1)) (hc : x.category = 1) (hc' : z.category = 1) (hq : pc + 1 = q) (g : GoB wf l Z y code ml ret R Q k n h q Ls (x :: z :: x :: st)) : GoB wf l Z y code ml ret R Q k n h pc Ls (x :: z :: st) := by
  subst hq; exact g.pure fun p e s m args below meth c K T L k' n' X hT t r => XT.dupX1 X.here K.1 rfl (hb K.2.1 hd) rfl hc hc' r
theorem Go.dup2 {x z : Value} (q : Nat) (hd : decode code pc = .ok (.dup2, 1)) (hc : x.category = 1) (hc' : z.category = 1) (hq : pc + 1 = q) (g : GoB wf l Z y code ml ret R Q k n h q Ls (x :: z :: x :: z :: st)) : GoB wf l Z y code ml ret R Q k n h pc Ls (x :: z :: st) := by
  subst hq; exact g.pure fun p e s m args below meth c K T L k' n' X hT t r => XT.dup2 X.here K.1 rfl (hb K.2.1 hd) rfl hc hc' r
theorem Go.dup2L {x : Int64} (q : Nat) (hd : decode code pc = .ok (.dup2, 1))  (hq : pc + 1 = q) (g : GoB wf l Z y code ml ret R Q k n h q Ls (.long x :: .long x :: st)) : GoB wf l Z y code ml ret R Q k n h pc Ls (.long x :: st) := by
  subst hq; exact g.pure fun p e s m args below meth c K T L k' n' X hT t r => XT.dup2L X.here K.1 rfl (hb K.2.1 hd) rfl  r
theorem Go.iconst {i : Int} (q : Nat) (v : Int32) (hd : decode code pc = .ok (.iconst i, 1)) (hv : Int32.ofInt i = v) (hq : pc + 1 = q) (g : GoB wf l Z y code ml ret R Q k n h q Ls (.int v :: st)) : GoB wf l Z y code ml ret R Q k n h pc Ls st := by
  subst hq; exact g.pure fun p e s m args below meth c K T L k' n' X hT t r => XT.iconstV X.here K.1 rfl v (hb K.2.1 hd) hv r
theorem Go.bipush {i : Int} (q : Nat) (v : Int32) (hd : decode code pc = .ok (.bipush i, 2)) (hv : (Int8.ofInt i).toInt32 = v) (hq : pc + 2 = q) (g : GoB wf l Z y code ml ret R Q k n h q Ls (.int v :: st)) : GoB wf l Z y code ml ret R Q k n h pc Ls st := by
  subst hq; exact g.pure fun p e s m args below meth c K T L k' n' X hT t r => XT.bipushV X.here K.1 rfl v (hb K.2.1 hd) hv r
theorem Go.sipush {i : Int} (q : Nat) (v : Int32) (hd : decode code pc = .ok (.sipush i, 3)) (hv : (Int16.ofInt i).toInt32 = v) (hq : pc + 3 = q) (g : GoB wf l Z y code ml ret R Q k n h q Ls (.int v :: st)) : GoB wf l Z y code ml ret R Q k n h pc Ls st := by
  subst hq; exact g.pure fun p e s m args below meth c K T L k' n' X hT t r => XT.sipushV X.here K.1 rfl v (hb K.2.1 hd) hv r
theorem Go.lconst {i : Fin 2} (q : Nat) (v : Int64) (hd : decode code pc = .ok (.lconst i, 1)) (hv : Int64.ofNat i = v) (hq : pc + 1 = q) (g : GoB wf l Z y code ml ret R Q k n h q Ls (.long v :: st)) : GoB wf l Z y code ml ret R Q k n h pc Ls st := by
  subst hq; exact g.pure fun p e s m args below meth c K T L k' n' X hT t r => XT.lconstV X.here K.1 rfl v (hb K.2.1 hd) hv r
theorem Go.aconst_null (q : Nat) (hd : decode code pc = .ok (.aconst_null, 1)) (hq : pc + 1 = q) (g : GoB wf l Z y code ml ret R Q k n h q Ls (.null :: st)) : GoB wf l Z y code ml ret R Q k n h pc Ls st := by
  subst hq; exact g.pure fun p e s m args below meth c K T L k' n' X hT t r => XS.aconstNull X.here K.1 rfl (hb K.2.1 hd) r
theorem Go.ldc {i : Nat} {v : Int32} (q : Nat) (hd : decode code pc = .ok (.ldc i, 2)) (w : (Cond.constant y.cls i v).before a0 Z = true) (hq : pc + 2 = q) (g : GoB wf l Z y code ml ret R Q k n h q Ls (.int v :: st)) : GoB wf l Z y code ml ret R Q k n h pc Ls st := by
  subst hq; exact g.pure fun p e s m args below meth c K T L k' n' X hT t r => X.ldcI K.1 K.2.2.2.1 (mvT K.2.2.1 w) rfl (hb K.2.1 hd) r
theorem Go.ldc_w {i : Nat} {v : Int32} (q : Nat) (hd : decode code pc = .ok (.ldc_w i, 3)) (w : (Cond.constant y.cls i v).before a0 Z = true) (hq : pc + 3 = q) (g : GoB wf l Z y code ml ret R Q k n h q Ls (.int v :: st)) : GoB wf l Z y code ml ret R Q k n h pc Ls st := by
  subst hq; exact g.pure fun p e s m args below meth c K T L k' n' X hT t r => X.ldcWI K.1 K.2.2.2.1 (mvT K.2.2.1 w) rfl (hb K.2.1 hd) r
theorem Go.ldc2_w {i : Nat} {v : Int64} (q : Nat) (hd : decode code pc = .ok (.ldc2_w i, 3)) (w : (Cond.constantLong y.cls i v).before a0 Z = true) (hq : pc + 3 = q) (g : GoB wf l Z y code ml ret R Q k n h q Ls (.long v :: st)) : GoB wf l Z y code ml ret R Q k n h pc Ls st := by
  subst hq; exact g.pure fun p e s m args below meth c K T L k' n' X hT t r => X.ldc2J K.1 K.2.2.2.1 (mvT K.2.2.1 w) rfl (hb K.2.1 hd) r
theorem Go.iload {i : Nat} {v : Int32} (q : Nat) (hd : decode code pc = .ok (.iload i, 2)) (hl : Ls[i]? = some (.val (.int v))) (hq : pc + 2 = q) (g : GoB wf l Z y code ml ret R Q k n h q Ls (.int v :: st)) : GoB wf l Z y code ml ret R Q k n h pc Ls st := by
  subst hq; exact g.pure fun p e s m args below meth c K T L k' n' X hT t r => XS.iload X.here K.1 rfl (hb K.2.1 hd) hl r
theorem Go.iload_n {i : Fin 4} {v : Int32} (q : Nat) (hd : decode code pc = .ok (.iload_n i, 1)) (hl : Ls[i.val]? = some (.val (.int v))) (hq : pc + 1 = q) (g : GoB wf l Z y code ml ret R Q k n h q Ls (.int v :: st)) : GoB wf l Z y code ml ret R Q k n h pc Ls st := by
  subst hq; exact g.pure fun p e s m args below meth c K T L k' n' X hT t r => XS.iloadN X.here K.1 rfl (hb K.2.1 hd) hl r
theorem Go.lload {i : Nat} {v : Int64} (q : Nat) (hd : decode code pc = .ok (.lload i, 2)) (hl : Ls[i]? = some (.val (.long v))) (hq : pc + 2 = q) (g : GoB wf l Z y code ml ret R Q k n h q Ls (.long v :: st)) : GoB wf l Z y code ml ret R Q k n h pc Ls st := by
  subst hq; exact g.pure fun p e s m args below meth c K T L k' n' X hT t r => XT.lload X.here K.1 rfl (hb K.2.1 hd) hl r
theorem Go.lload_n {i : Fin 4} {v : Int64} (q : Nat) (hd : decode code pc = .ok (.lload_n i, 1)) (hl : Ls[i.val]? = some (.val (.long v))) (hq : pc + 1 = q) (g : GoB wf l Z y code ml ret R Q k n h q Ls (.long v :: st)) : GoB wf l Z y code ml ret R Q k n h pc Ls st := by
  subst hq; exact g.pure fun p e s m args below meth c K T L k' n' X hT t r => XT.lloadN X.here K.1 rfl (hb K.2.1 hd) hl r
theorem Go.aload {i : Nat} {v : Value} (q : Nat) (hd : decode code pc = .ok (.aload i, 2)) (hl : Ls[i]? = some (.val v)) (hv : v.isRef = true) (hq : pc + 2 = q) (g : GoB wf l Z y code ml ret R Q k n h q Ls (v :: st)) : GoB wf l Z y code ml ret R Q k n h pc Ls st := by
  subst hq; exact g.pure fun p e s m args below meth c K T L k' n' X hT t r => XS.aload X.here K.1 rfl (hb K.2.1 hd) hl hv r
theorem Go.aload_n {i : Fin 4} {v : Value} (q : Nat) (hd : decode code pc = .ok (.aload_n i, 1)) (hl : Ls[i.val]? = some (.val v)) (hv : v.isRef = true) (hq : pc + 1 = q) (g : GoB wf l Z y code ml ret R Q k n h q Ls (v :: st)) : GoB wf l Z y code ml ret R Q k n h pc Ls st := by
  subst hq; exact g.pure fun p e s m args below meth c K T L k' n' X hT t r => XS.aloadN X.here K.1 rfl (hb K.2.1 hd) hl hv r
theorem Go.istore {i : Nat} {v : Int32} (q : Nat) (Ls' : Array Slot) (hd : decode code pc = .ok (.istore i, 2)) (hl : storeLocals Ls i (.int v) = some Ls') (hq : pc + 2 = q) (g : GoB wf l Z y code ml ret R Q k n h q Ls' st) : GoB wf l Z y code ml ret R Q k n h pc Ls (.int v :: st) := by
  subst hq; exact g.pure fun p e s m args below meth c K T L k' n' X hT t r => XS.istore X.here K.1 rfl (hb K.2.1 hd) rfl hl r
theorem Go.istore_n {i : Fin 4} {v : Int32} (q : Nat) (Ls' : Array Slot) (hd : decode code pc = .ok (.istore_n i, 1)) (hl : storeLocals Ls i.val (.int v) = some Ls') (hq : pc + 1 = q) (g : GoB wf l Z y code ml ret R Q k n h q Ls' st) : GoB wf l Z y code ml ret R Q k n h pc Ls (.int v :: st) := by
  subst hq; exact g.pure fun p e s m args below meth c K T L k' n' X hT t r => XS.istoreN X.here K.1 rfl (hb K.2.1 hd) rfl hl r
theorem Go.lstore {i : Nat} {v : Int64} (q : Nat) (Ls' : Array Slot) (hd : decode code pc = .ok (.lstore i, 2)) (hl : storeLocals Ls i (.long v) = some Ls') (hq : pc + 2 = q) (g : GoB wf l Z y code ml ret R Q k n h q Ls' st) : GoB wf l Z y code ml ret R Q k n h pc Ls (.long v :: st) := by
  subst hq; exact g.pure fun p e s m args below meth c K T L k' n' X hT t r => XT.lstore X.here K.1 rfl (hb K.2.1 hd) rfl hl r
theorem Go.lstore_n {i : Fin 4} {v : Int64} (q : Nat) (Ls' : Array Slot) (hd : decode code pc = .ok (.lstore_n i, 1)) (hl : storeLocals Ls i.val (.long v) = some Ls') (hq : pc + 1 = q) (g : GoB wf l Z y code ml ret R Q k n h q Ls' st) : GoB wf l Z y code ml ret R Q k n h pc Ls (.long v :: st) := by
  subst hq; exact g.pure fun p e s m args below meth c K T L k' n' X hT t r => XT.lstoreN X.here K.1 rfl (hb K.2.1 hd) rfl hl r
theorem Go.astore {i : Nat} {v : Value} (q : Nat) (Ls' : Array Slot) (hd : decode code pc = .ok (.astore i, 2)) (hv : v.isRef = true) (hl : storeLocals Ls i v = some Ls') (hq : pc + 2 = q) (g : GoB wf l Z y code ml ret R Q k n h q Ls' st) : GoB wf l Z y code ml ret R Q k n h pc Ls (v :: st) := by
  subst hq; exact g.pure fun p e s m args below meth c K T L k' n' X hT t r => XS.astore X.here K.1 rfl (hb K.2.1 hd) rfl hv hl r
theorem Go.astore_n {i : Fin 4} {v : Value} (q : Nat) (Ls' : Array Slot) (hd : decode code pc = .ok (.astore_n i, 1)) (hv : v.isRef = true) (hl : storeLocals Ls i.val v = some Ls') (hq : pc + 1 = q) (g : GoB wf l Z y code ml ret R Q k n h q Ls' st) : GoB wf l Z y code ml ret R Q k n h pc Ls (v :: st) := by
  subst hq; exact g.pure fun p e s m args below meth c K T L k' n' X hT t r => XS.astoreN X.here K.1 rfl (hb K.2.1 hd) rfl hv hl r
theorem Go.iinc {i : Nat} {cst : Int} {x : Int32} (q : Nat) (v : Int32) (Ls' : Array Slot) (hd : decode code pc = .ok (.iinc i cst, 3)) (hv : Int32.ofInt cst = v) (hl : Ls[i]? = some (.val (.int x))) (hl' : storeLocals Ls i (.int (x + v)) = some Ls') (hq : pc + 3 = q) (g : GoB wf l Z y code ml ret R Q k n h q Ls' st) : GoB wf l Z y code ml ret R Q k n h pc Ls st := by
  subst hq; exact g.pure fun p e s m args below meth c K T L k' n' X hT t r => XT.iincV X.here K.1 rfl v (hb K.2.1 hd) hv hl hl' r
theorem Go.goto {o : Int} (q : Nat) (hd : decode code pc = .ok (.goto o, 3)) (ho : 0 ≤ (pc : Int) + o) (hq : ((pc : Int) + o).toNat = q) (g : GoB wf l Z y code ml ret R Q k n h q Ls st) : GoB wf l Z y code ml ret R Q k n h pc Ls st :=
  g.pure fun p e s m args below meth c K T L k' n' X hT t r => XS.goto X.here K.1 rfl rfl (hb K.2.1 hd) ho hq r
theorem Go.icmp_eq {o : Int} {x z : Int32} (q1 q2 : Nat) (hd : decode code pc = .ok (.if_icmp .eq o, 3)) (ho : 0 ≤ (pc : Int) + o) (h1 : ((pc : Int) + o).toNat = q1) (h2 : pc + 3 = q2) (g1 : x = z → GoB wf l Z y code ml ret R Q k n h q1 Ls st) (g2 : ¬ x = z → GoB wf l Z y code ml ret R Q k n h q2 Ls st) : GoB wf l Z y code ml ret R Q k n h pc Ls (.int z :: .int x :: st) := by
  subst h2
  by_cases hc : x = z
  · exact (g1 hc).pure fun p e s m args below meth c K T L k' n' X hT t r => XS.icmpYes X.here K.1 rfl rfl (hb K.2.1 hd) rfl (XT.ii_eq_t hc) ho h1 r
  · exact (g2 (by first | exact hc | exact Decidable.not_not.mp hc)).pure fun p e s m args below meth c K T L k' n' X hT t r => XS.icmpNo X.here K.1 rfl (hb K.2.1 hd) rfl (XT.ii_eq_f (by first | exact hc | exact Decidable.not_not.mp hc)) r
theorem Go.lcmp_eq {o : Int} {x z : Int64} (q1 q2 : Nat) (hd : decode code pc = .ok (.ifCond .eq o, 3)) (ho : 0 ≤ (pc : Int) + o) (h1 : ((pc : Int) + o).toNat = q1) (h2 : pc + 3 = q2) (g1 : x = z → GoB wf l Z y code ml ret R Q k n h q1 Ls st) (g2 : ¬ x = z → GoB wf l Z y code ml ret R Q k n h q2 Ls st) : GoB wf l Z y code ml ret R Q k n h pc Ls (.int (XT.cmpL x z) :: st) := by
  subst h2
  by_cases hc : x = z
  · exact (g1 hc).pure fun p e s m args below meth c K T L k' n' X hT t r => XS.ifYes X.here K.1 rfl rfl (hb K.2.1 hd) rfl (XT.ll_eq_t hc) ho h1 r
  · exact (g2 (by first | exact hc | exact Decidable.not_not.mp hc)).pure fun p e s m args below meth c K T L k' n' X hT t r => XS.ifNo X.here K.1 rfl (hb K.2.1 hd) rfl (XT.ll_eq_f (by first | exact hc | exact Decidable.not_not.mp hc)) r
theorem Go.icmp_ne {o : Int} {x z : Int32} (q1 q2 : Nat) (hd : decode code pc = .ok (.if_icmp .ne o, 3)) (ho : 0 ≤ (pc : Int) + o) (h1 : ((pc : Int) + o).toNat = q1) (h2 : pc + 3 = q2) (g1 : ¬ x = z → GoB wf l Z y code ml ret R Q k n h q1 Ls st) (g2 : x = z → GoB wf l Z y code ml ret R Q k n h q2 Ls st) : GoB wf l Z y code ml ret R Q k n h pc Ls (.int z :: .int x :: st) := by
  subst h2
  by_cases hc : ¬ x = z
  · exact (g1 hc).pure fun p e s m args below meth c K T L k' n' X hT t r => XS.icmpYes X.here K.1 rfl rfl (hb K.2.1 hd) rfl (XT.ii_ne_t hc) ho h1 r
  · exact (g2 (by first | exact hc | exact Decidable.not_not.mp hc)).pure fun p e s m args below meth c K T L k' n' X hT t r => XS.icmpNo X.here K.1 rfl (hb K.2.1 hd) rfl (XT.ii_ne_f (by first | exact hc | exact Decidable.not_not.mp hc)) r
theorem Go.lcmp_ne {o : Int} {x z : Int64} (q1 q2 : Nat) (hd : decode code pc = .ok (.ifCond .ne o, 3)) (ho : 0 ≤ (pc : Int) + o) (h1 : ((pc : Int) + o).toNat = q1) (h2 : pc + 3 = q2) (g1 : ¬ x = z → GoB wf l Z y code ml ret R Q k n h q1 Ls st) (g2 : x = z → GoB wf l Z y code ml ret R Q k n h q2 Ls st) : GoB wf l Z y code ml ret R Q k n h pc Ls (.int (XT.cmpL x z) :: st) := by
  subst h2
  by_cases hc : ¬ x = z
  · exact (g1 hc).pure fun p e s m args below meth c K T L k' n' X hT t r => XS.ifYes X.here K.1 rfl rfl (hb K.2.1 hd) rfl (XT.ll_ne_t hc) ho h1 r
  · exact (g2 (by first | exact hc | exact Decidable.not_not.mp hc)).pure fun p e s m args below meth c K T L k' n' X hT t r => XS.ifNo X.here K.1 rfl (hb K.2.1 hd) rfl (XT.ll_ne_f (by first | exact hc | exact Decidable.not_not.mp hc)) r
theorem Go.icmp_lt {o : Int} {x z : Int32} (q1 q2 : Nat) (hd : decode code pc = .ok (.if_icmp .lt o, 3)) (ho : 0 ≤ (pc : Int) + o) (h1 : ((pc : Int) + o).toNat = q1) (h2 : pc + 3 = q2) (g1 : x < z → GoB wf l Z y code ml ret R Q k n h q1 Ls st) (g2 : ¬ x < z → GoB wf l Z y code ml ret R Q k n h q2 Ls st) : GoB wf l Z y code ml ret R Q k n h pc Ls (.int z :: .int x :: st) := by
  subst h2
  by_cases hc : x < z
  · exact (g1 hc).pure fun p e s m args below meth c K T L k' n' X hT t r => XS.icmpYes X.here K.1 rfl rfl (hb K.2.1 hd) rfl (XT.ii_lt_t hc) ho h1 r
  · exact (g2 (by first | exact hc | exact Decidable.not_not.mp hc)).pure fun p e s m args below meth c K T L k' n' X hT t r => XS.icmpNo X.here K.1 rfl (hb K.2.1 hd) rfl (XT.ii_lt_f (by first | exact hc | exact Decidable.not_not.mp hc)) r
theorem Go.lcmp_lt {o : Int} {x z : Int64} (q1 q2 : Nat) (hd : decode code pc = .ok (.ifCond .lt o, 3)) (ho : 0 ≤ (pc : Int) + o) (h1 : ((pc : Int) + o).toNat = q1) (h2 : pc + 3 = q2) (g1 : x < z → GoB wf l Z y code ml ret R Q k n h q1 Ls st) (g2 : ¬ x < z → GoB wf l Z y code ml ret R Q k n h q2 Ls st) : GoB wf l Z y code ml ret R Q k n h pc Ls (.int (XT.cmpL x z) :: st) := by
  subst h2
  by_cases hc : x < z
  · exact (g1 hc).pure fun p e s m args below meth c K T L k' n' X hT t r => XS.ifYes X.here K.1 rfl rfl (hb K.2.1 hd) rfl (XT.ll_lt_t hc) ho h1 r
  · exact (g2 (by first | exact hc | exact Decidable.not_not.mp hc)).pure fun p e s m args below meth c K T L k' n' X hT t r => XS.ifNo X.here K.1 rfl (hb K.2.1 hd) rfl (XT.ll_lt_f (by first | exact hc | exact Decidable.not_not.mp hc)) r
theorem Go.icmp_ge {o : Int} {x z : Int32} (q1 q2 : Nat) (hd : decode code pc = .ok (.if_icmp .ge o, 3)) (ho : 0 ≤ (pc : Int) + o) (h1 : ((pc : Int) + o).toNat = q1) (h2 : pc + 3 = q2) (g1 : ¬ x < z → GoB wf l Z y code ml ret R Q k n h q1 Ls st) (g2 : x < z → GoB wf l Z y code ml ret R Q k n h q2 Ls st) : GoB wf l Z y code ml ret R Q k n h pc Ls (.int z :: .int x :: st) := by
  subst h2
  by_cases hc : ¬ x < z
  · exact (g1 hc).pure fun p e s m args below meth c K T L k' n' X hT t r => XS.icmpYes X.here K.1 rfl rfl (hb K.2.1 hd) rfl (XT.ii_ge_t hc) ho h1 r
  · exact (g2 (by first | exact hc | exact Decidable.not_not.mp hc)).pure fun p e s m args below meth c K T L k' n' X hT t r => XS.icmpNo X.here K.1 rfl (hb K.2.1 hd) rfl (XT.ii_ge_f (by first | exact hc | exact Decidable.not_not.mp hc)) r
theorem Go.lcmp_ge {o : Int} {x z : Int64} (q1 q2 : Nat) (hd : decode code pc = .ok (.ifCond .ge o, 3)) (ho : 0 ≤ (pc : Int) + o) (h1 : ((pc : Int) + o).toNat = q1) (h2 : pc + 3 = q2) (g1 : ¬ x < z → GoB wf l Z y code ml ret R Q k n h q1 Ls st) (g2 : x < z → GoB wf l Z y code ml ret R Q k n h q2 Ls st) : GoB wf l Z y code ml ret R Q k n h pc Ls (.int (XT.cmpL x z) :: st) := by
  subst h2
  by_cases hc : ¬ x < z
  · exact (g1 hc).pure fun p e s m args below meth c K T L k' n' X hT t r => XS.ifYes X.here K.1 rfl rfl (hb K.2.1 hd) rfl (XT.ll_ge_t hc) ho h1 r
  · exact (g2 (by first | exact hc | exact Decidable.not_not.mp hc)).pure fun p e s m args below meth c K T L k' n' X hT t r => XS.ifNo X.here K.1 rfl (hb K.2.1 hd) rfl (XT.ll_ge_f (by first | exact hc | exact Decidable.not_not.mp hc)) r
theorem Go.icmp_gt {o : Int} {x z : Int32} (q1 q2 : Nat) (hd : decode code pc = .ok (.if_icmp .gt o, 3)) (ho : 0 ≤ (pc : Int) + o) (h1 : ((pc : Int) + o).toNat = q1) (h2 : pc + 3 = q2) (g1 : z < x → GoB wf l Z y code ml ret R Q k n h q1 Ls st) (g2 : ¬ z < x → GoB wf l Z y code ml ret R Q k n h q2 Ls st) : GoB wf l Z y code ml ret R Q k n h pc Ls (.int z :: .int x :: st) := by
  subst h2
  by_cases hc : z < x
  · exact (g1 hc).pure fun p e s m args below meth c K T L k' n' X hT t r => XS.icmpYes X.here K.1 rfl rfl (hb K.2.1 hd) rfl (XT.ii_gt_t hc) ho h1 r
  · exact (g2 (by first | exact hc | exact Decidable.not_not.mp hc)).pure fun p e s m args below meth c K T L k' n' X hT t r => XS.icmpNo X.here K.1 rfl (hb K.2.1 hd) rfl (XT.ii_gt_f (by first | exact hc | exact Decidable.not_not.mp hc)) r
theorem Go.lcmp_gt {o : Int} {x z : Int64} (q1 q2 : Nat) (hd : decode code pc = .ok (.ifCond .gt o, 3)) (ho : 0 ≤ (pc : Int) + o) (h1 : ((pc : Int) + o).toNat = q1) (h2 : pc + 3 = q2) (g1 : z < x → GoB wf l Z y code ml ret R Q k n h q1 Ls st) (g2 : ¬ z < x → GoB wf l Z y code ml ret R Q k n h q2 Ls st) : GoB wf l Z y code ml ret R Q k n h pc Ls (.int (XT.cmpL x z) :: st) := by
  subst h2
  by_cases hc : z < x
  · exact (g1 hc).pure fun p e s m args below meth c K T L k' n' X hT t r => XS.ifYes X.here K.1 rfl rfl (hb K.2.1 hd) rfl (XT.ll_gt_t hc) ho h1 r
  · exact (g2 (by first | exact hc | exact Decidable.not_not.mp hc)).pure fun p e s m args below meth c K T L k' n' X hT t r => XS.ifNo X.here K.1 rfl (hb K.2.1 hd) rfl (XT.ll_gt_f (by first | exact hc | exact Decidable.not_not.mp hc)) r
theorem Go.icmp_le {o : Int} {x z : Int32} (q1 q2 : Nat) (hd : decode code pc = .ok (.if_icmp .le o, 3)) (ho : 0 ≤ (pc : Int) + o) (h1 : ((pc : Int) + o).toNat = q1) (h2 : pc + 3 = q2) (g1 : ¬ z < x → GoB wf l Z y code ml ret R Q k n h q1 Ls st) (g2 : z < x → GoB wf l Z y code ml ret R Q k n h q2 Ls st) : GoB wf l Z y code ml ret R Q k n h pc Ls (.int z :: .int x :: st) := by
  subst h2
  by_cases hc : ¬ z < x
  · exact (g1 hc).pure fun p e s m args below meth c K T L k' n' X hT t r => XS.icmpYes X.here K.1 rfl rfl (hb K.2.1 hd) rfl (XT.ii_le_t hc) ho h1 r
  · exact (g2 (by first | exact hc | exact Decidable.not_not.mp hc)).pure fun p e s m args below meth c K T L k' n' X hT t r => XS.icmpNo X.here K.1 rfl (hb K.2.1 hd) rfl (XT.ii_le_f (by first | exact hc | exact Decidable.not_not.mp hc)) r
theorem Go.lcmp_le {o : Int} {x z : Int64} (q1 q2 : Nat) (hd : decode code pc = .ok (.ifCond .le o, 3)) (ho : 0 ≤ (pc : Int) + o) (h1 : ((pc : Int) + o).toNat = q1) (h2 : pc + 3 = q2) (g1 : ¬ z < x → GoB wf l Z y code ml ret R Q k n h q1 Ls st) (g2 : z < x → GoB wf l Z y code ml ret R Q k n h q2 Ls st) : GoB wf l Z y code ml ret R Q k n h pc Ls (.int (XT.cmpL x z) :: st) := by
  subst h2
  by_cases hc : ¬ z < x
  · exact (g1 hc).pure fun p e s m args below meth c K T L k' n' X hT t r => XS.ifYes X.here K.1 rfl rfl (hb K.2.1 hd) rfl (XT.ll_le_t hc) ho h1 r
  · exact (g2 (by first | exact hc | exact Decidable.not_not.mp hc)).pure fun p e s m args below meth c K T L k' n' X hT t r => XS.ifNo X.here K.1 rfl (hb K.2.1 hd) rfl (XT.ll_le_f (by first | exact hc | exact Decidable.not_not.mp hc)) r
theorem if0_eq_t {x : Int32} (h : x = 0) : ifCond.holds .eq x = true := by
  have e : ifCond.holds .eq x = if_icmp.holds .eq x 0 := rfl
  rw [e]; exact XT.ii_eq_t h
theorem if0_eq_f {x : Int32} (h : ¬ x = 0) : ifCond.holds .eq x = false := by
  have e : ifCond.holds .eq x = if_icmp.holds .eq x 0 := rfl
  rw [e]; exact XT.ii_eq_f h
theorem Go.if_eq {o : Int} {x : Int32} (q1 q2 : Nat) (hd : decode code pc = .ok (.ifCond .eq o, 3)) (ho : 0 ≤ (pc : Int) + o) (h1 : ((pc : Int) + o).toNat = q1) (h2 : pc + 3 = q2) (g1 : x = 0 → GoB wf l Z y code ml ret R Q k n h q1 Ls st) (g2 : ¬ x = 0 → GoB wf l Z y code ml ret R Q k n h q2 Ls st) : GoB wf l Z y code ml ret R Q k n h pc Ls (.int x :: st) := by
  subst h2
  by_cases hc : x = 0
  · exact (g1 hc).pure fun p e s m args below meth c K T L k' n' X hT t r => XS.ifYes X.here K.1 rfl rfl (hb K.2.1 hd) rfl (if0_eq_t hc) ho h1 r
  · exact (g2 (by first | exact hc | exact Decidable.not_not.mp hc)).pure fun p e s m args below meth c K T L k' n' X hT t r => XS.ifNo X.here K.1 rfl (hb K.2.1 hd) rfl (if0_eq_f (by first | exact hc | exact Decidable.not_not.mp hc)) r
theorem if0_ne_t {x : Int32} (h : ¬ x = 0) : ifCond.holds .ne x = true := by
  have e : ifCond.holds .ne x = if_icmp.holds .ne x 0 := rfl
  rw [e]; exact XT.ii_ne_t h
theorem if0_ne_f {x : Int32} (h : x = 0) : ifCond.holds .ne x = false := by
  have e : ifCond.holds .ne x = if_icmp.holds .ne x 0 := rfl
  rw [e]; exact XT.ii_ne_f h
theorem Go.if_ne {o : Int} {x : Int32} (q1 q2 : Nat) (hd : decode code pc = .ok (.ifCond .ne o, 3)) (ho : 0 ≤ (pc : Int) + o) (h1 : ((pc : Int) + o).toNat = q1) (h2 : pc + 3 = q2) (g1 : ¬ x = 0 → GoB wf l Z y code ml ret R Q k n h q1 Ls st) (g2 : x = 0 → GoB wf l Z y code ml ret R Q k n h q2 Ls st) : GoB wf l Z y code ml ret R Q k n h pc Ls (.int x :: st) := by
  subst h2
  by_cases hc : ¬ x = 0
  · exact (g1 hc).pure fun p e s m args below meth c K T L k' n' X hT t r => XS.ifYes X.here K.1 rfl rfl (hb K.2.1 hd) rfl (if0_ne_t hc) ho h1 r
  · exact (g2 (by first | exact hc | exact Decidable.not_not.mp hc)).pure fun p e s m args below meth c K T L k' n' X hT t r => XS.ifNo X.here K.1 rfl (hb K.2.1 hd) rfl (if0_ne_f (by first | exact hc | exact Decidable.not_not.mp hc)) r
theorem if0_lt_t {x : Int32} (h : x < 0) : ifCond.holds .lt x = true := by
  have e : ifCond.holds .lt x = if_icmp.holds .lt x 0 := rfl
  rw [e]; exact XT.ii_lt_t h
theorem if0_lt_f {x : Int32} (h : ¬ x < 0) : ifCond.holds .lt x = false := by
  have e : ifCond.holds .lt x = if_icmp.holds .lt x 0 := rfl
  rw [e]; exact XT.ii_lt_f h
theorem Go.if_lt {o : Int} {x : Int32} (q1 q2 : Nat) (hd : decode code pc = .ok (.ifCond .lt o, 3)) (ho : 0 ≤ (pc : Int) + o) (h1 : ((pc : Int) + o).toNat = q1) (h2 : pc + 3 = q2) (g1 : x < 0 → GoB wf l Z y code ml ret R Q k n h q1 Ls st) (g2 : ¬ x < 0 → GoB wf l Z y code ml ret R Q k n h q2 Ls st) : GoB wf l Z y code ml ret R Q k n h pc Ls (.int x :: st) := by
  subst h2
  by_cases hc : x < 0
  · exact (g1 hc).pure fun p e s m args below meth c K T L k' n' X hT t r => XS.ifYes X.here K.1 rfl rfl (hb K.2.1 hd) rfl (if0_lt_t hc) ho h1 r
  · exact (g2 (by first | exact hc | exact Decidable.not_not.mp hc)).pure fun p e s m args below meth c K T L k' n' X hT t r => XS.ifNo X.here K.1 rfl (hb K.2.1 hd) rfl (if0_lt_f (by first | exact hc | exact Decidable.not_not.mp hc)) r
theorem if0_ge_t {x : Int32} (h : ¬ x < 0) : ifCond.holds .ge x = true := by
  have e : ifCond.holds .ge x = if_icmp.holds .ge x 0 := rfl
  rw [e]; exact XT.ii_ge_t h
theorem if0_ge_f {x : Int32} (h : x < 0) : ifCond.holds .ge x = false := by
  have e : ifCond.holds .ge x = if_icmp.holds .ge x 0 := rfl
  rw [e]; exact XT.ii_ge_f h
theorem Go.if_ge {o : Int} {x : Int32} (q1 q2 : Nat) (hd : decode code pc = .ok (.ifCond .ge o, 3)) (ho : 0 ≤ (pc : Int) + o) (h1 : ((pc : Int) + o).toNat = q1) (h2 : pc + 3 = q2) (g1 : ¬ x < 0 → GoB wf l Z y code ml ret R Q k n h q1 Ls st) (g2 : x < 0 → GoB wf l Z y code ml ret R Q k n h q2 Ls st) : GoB wf l Z y code ml ret R Q k n h pc Ls (.int x :: st) := by
  subst h2
  by_cases hc : ¬ x < 0
  · exact (g1 hc).pure fun p e s m args below meth c K T L k' n' X hT t r => XS.ifYes X.here K.1 rfl rfl (hb K.2.1 hd) rfl (if0_ge_t hc) ho h1 r
  · exact (g2 (by first | exact hc | exact Decidable.not_not.mp hc)).pure fun p e s m args below meth c K T L k' n' X hT t r => XS.ifNo X.here K.1 rfl (hb K.2.1 hd) rfl (if0_ge_f (by first | exact hc | exact Decidable.not_not.mp hc)) r
theorem if0_gt_t {x : Int32} (h : 0 < x) : ifCond.holds .gt x = true := by
  have e : ifCond.holds .gt x = if_icmp.holds .gt x 0 := rfl
  rw [e]; exact XT.ii_gt_t h
theorem if0_gt_f {x : Int32} (h : ¬ 0 < x) : ifCond.holds .gt x = false := by
  have e : ifCond.holds .gt x = if_icmp.holds .gt x 0 := rfl
  rw [e]; exact XT.ii_gt_f h
theorem Go.if_gt {o : Int} {x : Int32} (q1 q2 : Nat) (hd : decode code pc = .ok (.ifCond .gt o, 3)) (ho : 0 ≤ (pc : Int) + o) (h1 : ((pc : Int) + o).toNat = q1) (h2 : pc + 3 = q2) (g1 : 0 < x → GoB wf l Z y code ml ret R Q k n h q1 Ls st) (g2 : ¬ 0 < x → GoB wf l Z y code ml ret R Q k n h q2 Ls st) : GoB wf l Z y code ml ret R Q k n h pc Ls (.int x :: st) := by
  subst h2
  by_cases hc : 0 < x
  · exact (g1 hc).pure fun p e s m args below meth c K T L k' n' X hT t r => XS.ifYes X.here K.1 rfl rfl (hb K.2.1 hd) rfl (if0_gt_t hc) ho h1 r
  · exact (g2 (by first | exact hc | exact Decidable.not_not.mp hc)).pure fun p e s m args below meth c K T L k' n' X hT t r => XS.ifNo X.here K.1 rfl (hb K.2.1 hd) rfl (if0_gt_f (by first | exact hc | exact Decidable.not_not.mp hc)) r
theorem if0_le_t {x : Int32} (h : ¬ 0 < x) : ifCond.holds .le x = true := by
  have e : ifCond.holds .le x = if_icmp.holds .le x 0 := rfl
  rw [e]; exact XT.ii_le_t h
theorem if0_le_f {x : Int32} (h : 0 < x) : ifCond.holds .le x = false := by
  have e : ifCond.holds .le x = if_icmp.holds .le x 0 := rfl
  rw [e]; exact XT.ii_le_f h
theorem Go.if_le {o : Int} {x : Int32} (q1 q2 : Nat) (hd : decode code pc = .ok (.ifCond .le o, 3)) (ho : 0 ≤ (pc : Int) + o) (h1 : ((pc : Int) + o).toNat = q1) (h2 : pc + 3 = q2) (g1 : ¬ 0 < x → GoB wf l Z y code ml ret R Q k n h q1 Ls st) (g2 : 0 < x → GoB wf l Z y code ml ret R Q k n h q2 Ls st) : GoB wf l Z y code ml ret R Q k n h pc Ls (.int x :: st) := by
  subst h2
  by_cases hc : ¬ 0 < x
  · exact (g1 hc).pure fun p e s m args below meth c K T L k' n' X hT t r => XS.ifYes X.here K.1 rfl rfl (hb K.2.1 hd) rfl (if0_le_t hc) ho h1 r
  · exact (g2 (by first | exact hc | exact Decidable.not_not.mp hc)).pure fun p e s m args below meth c K T L k' n' X hT t r => XS.ifNo X.here K.1 rfl (hb K.2.1 hd) rfl (if0_le_f (by first | exact hc | exact Decidable.not_not.mp hc)) r
theorem Go.ifnull_no {o : Int} {b : Addr} (q : Nat) (hd : decode code pc = .ok (.ifnull o, 3)) (hq : pc + 3 = q) (g : GoB wf l Z y code ml ret R Q k n h q Ls st) : GoB wf l Z y code ml ret R Q k n h pc Ls (.ref b :: st) := by
  subst hq; exact g.pure fun p e s m args below meth c K T L k' n' X hT t r => XS.ifnullNo X.here K.1 rfl (hb K.2.1 hd) rfl r
theorem Go.ifnull_yes {o : Int} (q : Nat) (hd : decode code pc = .ok (.ifnull o, 3)) (ho : 0 ≤ (pc : Int) + o) (hq : ((pc : Int) + o).toNat = q) (g : GoB wf l Z y code ml ret R Q k n h q Ls st) : GoB wf l Z y code ml ret R Q k n h pc Ls (.null :: st) :=
  g.pure fun p e s m args below meth c K T L k' n' X hT t r => XS.ifnullYes X.here K.1 rfl rfl (hb K.2.1 hd) rfl ho hq r
theorem Go.ifnonnull_yes {o : Int} {b : Addr} (q : Nat) (hd : decode code pc = .ok (.ifnonnull o, 3)) (ho : 0 ≤ (pc : Int) + o) (hq : ((pc : Int) + o).toNat = q) (g : GoB wf l Z y code ml ret R Q k n h q Ls st) : GoB wf l Z y code ml ret R Q k n h pc Ls (.ref b :: st) :=
  g.pure fun p e s m args below meth c K T L k' n' X hT t r => XT.ifnonnullYes X.here K.1 rfl rfl (hb K.2.1 hd) rfl ho hq r
theorem Go.ifnonnull_no {o : Int} (q : Nat) (hd : decode code pc = .ok (.ifnonnull o, 3)) (hq : pc + 3 = q) (g : GoB wf l Z y code ml ret R Q k n h q Ls st) : GoB wf l Z y code ml ret R Q k n h pc Ls (.null :: st) := by
  subst hq; exact g.pure fun p e s m args below meth c K T L k' n' X hT t r => XT.ifnonnullNo X.here K.1 rfl (hb K.2.1 hd) rfl r
theorem Go.acmp {cd : ACond} {o : Int} {x z : Value} (q : Nat) (same : Bool) (hd : decode code pc = .ok (.if_acmp cd o, 3)) (h1 : x.isRef = true) (h2 : z.isRef = true) (hs : decide (x = z) = same) (ho : 0 ≤ (pc : Int) + o) (hq : q = if acV cd same = true then ((pc : Int) + o).toNat else pc + 3) (g : GoB wf l Z y code ml ret R Q k n h q Ls st) : GoB wf l Z y code ml ret R Q k n h pc Ls (z :: x :: st) :=
  g.pure fun p e s m args below meth c K T L k' n' X hT t r => Jvm.RoadKit.acmp X K.1 rfl h1 h2 rfl (hb K.2.1 hd) rfl hs ho hq r
theorem Go.acmp_eq {o : Int} {x z : Addr} (q1 q2 : Nat) (hd : decode code pc = .ok (.if_acmp .eq o, 3)) (ho : 0 ≤ (pc : Int) + o) (h1 : ((pc : Int) + o).toNat = q1) (h2 : pc + 3 = q2) (g1 : x = z → GoB wf l Z y code ml ret R Q k n h q1 Ls st) (g2 : ¬ x = z → GoB wf l Z y code ml ret R Q k n h q2 Ls st) : GoB wf l Z y code ml ret R Q k n h pc Ls (.ref z :: .ref x :: st) := by
  subst h1 h2
  by_cases hc : x = z
  · exact Go.acmp _ true hd rfl rfl (by simp [hc]) ho rfl (by simpa [acV] using g1 hc)
  · exact Go.acmp _ false hd rfl rfl (by simp [hc]) ho rfl (by simpa [acV] using g2 hc)
theorem Go.acmp_ne {o : Int} {x z : Addr} (q1 q2 : Nat) (hd : decode code pc = .ok (.if_acmp .ne o, 3)) (ho : 0 ≤ (pc : Int) + o) (h1 : ((pc : Int) + o).toNat = q1) (h2 : pc + 3 = q2) (g1 : ¬ x = z → GoB wf l Z y code ml ret R Q k n h q1 Ls st) (g2 : x = z → GoB wf l Z y code ml ret R Q k n h q2 Ls st) : GoB wf l Z y code ml ret R Q k n h pc Ls (.ref z :: .ref x :: st) := by
  subst h1 h2
  by_cases hc : x = z
  · exact Go.acmp _ true hd rfl rfl (by simp [hc]) ho rfl (by simpa [acV] using g2 hc)
  · exact Go.acmp _ false hd rfl rfl (by simp [hc]) ho rfl (by simpa [acV] using g1 hc)

theorem Go.retV {v : Value} {t : FieldType} {i : Instr} (hd : decode code pc = .ok (i, 1)) (hret : ret = some t) (hn : narrow t v = v)
    (hi : (i = .ireturn ∧ (t = .int ∨ t = .boolean ∨ t = .byte ∨ t = .char ∨ t = .short) ∧ ∃ z, v = .int z) ∨ (i = .lreturn ∧ t = .long ∧ ∃ z, v = .long z) ∨ (i = .dreturn ∧ t = .double ∧ ∃ z, v = .double z) ∨ (i = .freturn ∧ t = .float ∧ ∃ z, v = .float z) ∨ (i = .areturn ∧ t.isReference = true ∧ v.isRef = true))
    (hk : k ≤ R.cells) (hN : n ≤ R.slots) (hQ : Q (some v) h) : GoB wf l Z y code ml ret R Q k n h pc Ls (v :: st) := by
  intro p e s m args below meth c K T L k' n' X h1 h2 N hT
  refine ⟨s, some v, T, L, k', n', Or.inl rfl, X, Nat.le_trans h1 hk, Nat.le_trans h2 hN, N, hT ▸ hQ, fun e => ?_, fun fs hl => ?_⟩
  · rw [hret] at e; cases e
  · exact retOut X K.1 (K.2.2.2.2.2.1.trans hret) hn hi (hb K.2.1 hd) hl
theorem Go.ireturn {z : Int32} {P : Int32 → Heap → Prop} (hd : decode code pc = .ok (.ireturn, 1)) (hret : ret = some .int) (hk : k ≤ R.cells) (hN : n ≤ R.slots) (hP : P z h) : GoB wf l Z y code ml ret R (QI P) k n h pc Ls (.int z :: st) :=
  Go.retV hd hret rfl (Or.inl ⟨rfl, Or.inl rfl, z, rfl⟩) hk hN ⟨z, rfl, hP⟩
theorem Go.lreturn {z : Int64} {P : Int64 → Heap → Prop} (hd : decode code pc = .ok (.lreturn, 1)) (hret : ret = some .long) (hk : k ≤ R.cells) (hN : n ≤ R.slots) (hP : P z h) : GoB wf l Z y code ml ret R (QJ P) k n h pc Ls (.long z :: st) :=
  Go.retV hd hret rfl (Or.inr (Or.inl ⟨rfl, rfl, z, rfl⟩)) hk hN ⟨z, rfl, hP⟩
theorem Go.areturn {z : Value} {t : FieldType} {P : Value → Heap → Prop} (hd : decode code pc = .ok (.areturn, 1)) (hret : ret = some t) (ht : t.isReference = true) (hz : z.isRef = true) (hk : k ≤ R.cells) (hN : n ≤ R.slots) (hP : P z h) : GoB wf l Z y code ml ret R (QR P) k n h pc Ls (z :: st) := by
  refine Go.retV hd hret ?_ (Or.inr (Or.inr (Or.inr (Or.inr ⟨rfl, ht, hz⟩)))) hk hN ⟨z, rfl, hP⟩
  cases t <;> cases z <;> first | rfl | (simp [Value.isRef] at hz)
/-- a boolean, byte, char or short: narrowed -/
theorem Go.nreturn {z z' : Int32} {t : FieldType} {P : Int32 → Heap → Prop} (hd : decode code pc = .ok (.ireturn, 1)) (hret : ret = some t) (ht : t = .boolean ∨ t = .byte ∨ t = .char ∨ t = .short) (hz : nar t z = z') (hk : k ≤ R.cells) (hN : n ≤ R.slots) (hP : P z' h) : GoB wf l Z y code ml ret R (QI P) k n h pc Ls (.int z :: st) := by
  subst hz
  intro p e s m args below meth c K T L k' n' X h1 h2 N hT
  refine ⟨s, some (.int (nar t z)), T, L, k', n', Or.inl rfl, X, Nat.le_trans h1 hk, Nat.le_trans h2 hN, N, ⟨_, rfl, hT ▸ hP⟩, fun e => ?_, fun fs hl => ?_⟩
  · rw [hret] at e; cases e
  · exact retN X K.1 (K.2.2.2.2.2.1.trans hret) ht (hb K.2.1 hd) hl
theorem Go.vreturn {P : Heap → Prop} (hd : decode code pc = .ok (.return_, 1)) (hret : ret = none) (hk : k ≤ R.cells) (hN : n ≤ R.slots) (hP : P h) : GoB wf l Z y code ml ret R (QV P) k n h pc Ls [] := by
  intro p e s m args below meth c K T L k' n' X h1 h2 N hT
  exact ⟨s, none, T, L, k', n', Or.inl rfl, X, Nat.le_trans h1 hk, Nat.le_trans h2 hN, N, ⟨rfl, hT ▸ hP⟩, fun _ => rfl, fun fs hl => X.returnOut K.1 (K.2.2.2.2.2.1.trans hret) (hb K.2.1 hd) hl⟩
/-- the whole body, as a contract -/
theorem Go.met {as' : Array Value} (hx : plainFor y = true) (hent : ∀ m, entryFrame m as' ml = mkF m 0 Ls []) (G : Go l Z y code ml ret R Q 0 0 h 0 Ls []) (ws : List Jvm.Cond) :
    MetFree l y (head1 (Jvm.Cond.code y code ml ret :: ws) R) (fun a U => a = as' ∧ Z.Warmed39 U.vm ∧ U.heap = h) (fun _ _ _ _ _ => True) (fun _ U o U' => ∃ v L, o = .returned v ∧ (Q v U'.heap ∧ Fr Z.heap.size L) ∧ FrameEnd U o U' L R.cells R.slots) := by
  refine MetFree.of_bodySF hx hisR ?_
  intro p e s m args below meth c s₁ Bd hml hP hK
  obtain ⟨rfl, hZ, hh⟩ := hP
  have X0 : Stand p l e R s m args below meth c s₁ [] 0 0 := Stand.of_body Bd
  have e0 : s₁.heap = h := by rw [← hh, Bd.state]; rfl
  have hnm := (name_of_methodNamed Bd.named Bd.method).1
  obtain ⟨s', v, T', L', k'', n'', ok', X', b1, b2, N', q, hv, stp⟩ := G p e s m args below meth c ⟨Bd.exec, Bd.bytes, hZ, findClass_of_methodNamed Bd.named, hml, Bd.returns, Bd.notSynchronized, hnm⟩ s₁ [] 0 0 X0 (Nat.le_refl _) (Nat.le_refl _) (Fr.nil _) e0
  obtain rfl : s' = s := ok'.elim id (fun q => absurd q.1 (by decide))
  obtain ⟨fs, hr, hrun, hended, hW, hsame⟩ := X'.leave (v := v) (fun hh => hv (by rw [← Bd.returns]; exact hh))
  refine ⟨_, _, castTop (hent m) (stp fs hr), hrun, hended, v, L', rfl, ⟨q, N'⟩, ⟨_, rfl⟩, hW, hsame.mono b1 b2⟩


theorem Go.getfield {i : Nat} {O nm d : String} {a : Addr} {v : Value} (q : Nat) (hd : decode code pc = .ok (.getfield i, 3)) (w : (Cond.fieldLink y.cls i O nm d).before a0 Z = true) (F : Fld Z h a O nm d v) (hq : pc + 3 = q) (g : GoB wf l Z y code ml ret R Q k n h q Ls (v :: st)) : GoB wf l Z y code ml ret R Q k n h pc Ls (.ref a :: st) := by
  subst hq
  refine GoB.move (P := fun h' => h' = h) (kk := k) (nn := n) (fun h' e => e ▸ g) ?_
  intro p e s m args below meth c K T L k' n' X h1 h2 N hT
  obtain ⟨T', X', e', s'⟩ := getF X K.1 K.2.2.1 K.2.2.2.1 (host := "") (Or.inl w) Via.refl hT F (g := mkF m pc Ls (.ref a :: st)) rfl rfl (hb K.2.1 hd)
  exact ⟨T', L, k', n', X', h1, h2, N, e', s'⟩
theorem Go.getfieldN {i : Nat} {O nm d host : String} {a : Addr} {v : Value} (q : Nat) (hd : decode code pc = .ok (.getfield i, 3)) (w : (Cond.fieldLinkNest y.cls i O nm d host).before a0 Z = true) (F : Fld Z h a O nm d v) (hq : pc + 3 = q) (g : GoB wf l Z y code ml ret R Q k n h q Ls (v :: st)) : GoB wf l Z y code ml ret R Q k n h pc Ls (.ref a :: st) := by
  subst hq
  refine GoB.move (P := fun h' => h' = h) (kk := k) (nn := n) (fun h' e => e ▸ g) ?_
  intro p e s m args below meth c K T L k' n' X h1 h2 N hT
  obtain ⟨T', X', e', s'⟩ := getF X K.1 K.2.2.1 K.2.2.2.1 (host := host) (Or.inr w) Via.refl hT F (g := mkF m pc Ls (.ref a :: st)) rfl rfl (hb K.2.1 hd)
  exact ⟨T', L, k', n', X', h1, h2, N, e', s'⟩
theorem Go.getfieldU {i : Nat} {R0 O nm d : String} {a : Addr} {v : Value} (q : Nat) (hd : decode code pc = .ok (.getfield i, 3)) (w : (Cond.fieldLink y.cls i R0 nm d).before a0 Z = true) (via : Via Z R0 O nm d) (F : Fld Z h a O nm d v) (hq : pc + 3 = q) (g : GoB wf l Z y code ml ret R Q k n h q Ls (v :: st)) : GoB wf l Z y code ml ret R Q k n h pc Ls (.ref a :: st) := by
  subst hq
  refine GoB.move (P := fun h' => h' = h) (kk := k) (nn := n) (fun h' e => e ▸ g) ?_
  intro p e s m args below meth c K T L k' n' X h1 h2 N hT
  obtain ⟨T', X', e', s'⟩ := getF X K.1 K.2.2.1 K.2.2.2.1 (host := "") (Or.inl w) via hT F (g := mkF m pc Ls (.ref a :: st)) rfl rfl (hb K.2.1 hd)
  exact ⟨T', L, k', n', X', h1, h2, N, e', s'⟩
theorem Go.getstatic {i : Nat} {O nm d : String} {v : Value} (q : Nat) (hd : decode code pc = .ok (.getstatic i, 3)) (w : (Cond.fieldLink y.cls i O nm d).before a0 Z = true) (F : Sta Z h O nm d v) (hq : pc + 3 = q) (g : GoB wf l Z y code ml ret R Q k n h q Ls (v :: st)) : GoB wf l Z y code ml ret R Q k n h pc Ls st := by
  subst hq
  refine GoB.move (P := fun h' => h' = h) (kk := k) (nn := n) (fun h' e => e ▸ g) ?_
  intro p e s m args below meth c K T L k' n' X h1 h2 N hT
  obtain ⟨T', X', e', s'⟩ := getS X K.1 K.2.2.1 (host := "") K.2.2.2.1 w Via.refl hT F (g := mkF m pc Ls st) rfl (hb K.2.1 hd)
  exact ⟨T', L, k', n', X', h1, h2, N, e', s'⟩
theorem Go.putfield {i kk : Nat} {C O nm d : String} {ty : FieldType} {a : Addr} {v old : Value} (q : Nat) (hd : decode code pc = .ok (.putfield i, 3)) (w : (Cond.fieldLink y.cls i O nm d).before a0 Z = true) (F : Fld Z h a O nm d old) (E : Exa Z h a C) (hL : (Cond.lays C O nm d).before a0 Z = true ∨ ((Cond.laysFinal C O nm d).before a0 Z = true ∧ y.cls = O ∧ y.name = "<init>"))
    (wi : (Cond.instantiable C kk).before a0 Z = true) (hty : parseFieldDescriptor d = some ty) (hn : narrow ty v = v) (hf : fits ty v = true) (hge : Z.heap.size ≤ a) (hq : pc + 3 = q)
    (g : ∀ h', Wr h h' a (Jvm.RoadKit.slotOf Z O nm d) v → GoB wf l Z y code ml ret R Q k n h' q Ls st) : GoB wf l Z y code ml ret R Q k n h pc Ls (v :: .ref a :: st) := by
  subst hq
  refine GoB.move (P := fun h' => Wr h h' a (Jvm.RoadKit.slotOf Z O nm d) v) (kk := k) (nn := n) g ?_
  intro p e s m args below meth c K T L k' n' X h1 h2 N hT
  obtain ⟨T', h', X', e', W', s'⟩ := putF X K.1 K.2.2.1 K.2.2.2.1 (host := "") (Or.inl w) Via.refl hT F E (hL.imp id fun ⟨a1, a2, a3⟩ => ⟨a1, a2, K.2.2.2.2.2.2.2.trans a3⟩) wi hty hn hf (g := mkF m pc Ls (v :: .ref a :: st)) rfl rfl (hb K.2.1 hd)
  exact ⟨T', _, k', n', X', h1, h2, Fr.snoc X' N hge, e' ▸ W', s'⟩
theorem Go.putfieldU {i kk : Nat} {R0 C O nm d : String} {ty : FieldType} {a : Addr} {v old : Value} (q : Nat) (hd : decode code pc = .ok (.putfield i, 3)) (w : (Cond.fieldLink y.cls i R0 nm d).before a0 Z = true) (via : Via Z R0 O nm d) (F : Fld Z h a O nm d old) (E : Exa Z h a C) (hL : (Cond.lays C O nm d).before a0 Z = true ∨ ((Cond.laysFinal C O nm d).before a0 Z = true ∧ y.cls = O ∧ y.name = "<init>"))
    (wi : (Cond.instantiable C kk).before a0 Z = true) (hty : parseFieldDescriptor d = some ty) (hn : narrow ty v = v) (hf : fits ty v = true) (hge : Z.heap.size ≤ a) (hq : pc + 3 = q)
    (g : ∀ h', Wr h h' a (Jvm.RoadKit.slotOf Z O nm d) v → GoB wf l Z y code ml ret R Q k n h' q Ls st) : GoB wf l Z y code ml ret R Q k n h pc Ls (v :: .ref a :: st) := by
  subst hq
  refine GoB.move (P := fun h' => Wr h h' a (Jvm.RoadKit.slotOf Z O nm d) v) (kk := k) (nn := n) g ?_
  intro p e s m args below meth c K T L k' n' X h1 h2 N hT
  obtain ⟨T', h', X', e', W', s'⟩ := putF X K.1 K.2.2.1 K.2.2.2.1 (host := "") (Or.inl w) via hT F E (hL.imp id fun ⟨a1, a2, a3⟩ => ⟨a1, a2, K.2.2.2.2.2.2.2.trans a3⟩) wi hty hn hf (g := mkF m pc Ls (v :: .ref a :: st)) rfl rfl (hb K.2.1 hd)
  exact ⟨T', _, k', n', X', h1, h2, Fr.snoc X' N hge, e' ▸ W', s'⟩
/-- a field that narrows (boolean, byte, char, short) -/
theorem Go.putfieldN {i kk : Nat} {C O nm d : String} {ty : FieldType} {a : Addr} {v v' old : Value} (q : Nat) (hd : decode code pc = .ok (.putfield i, 3)) (w : (Cond.fieldLink y.cls i O nm d).before a0 Z = true) (F : Fld Z h a O nm d old) (E : Exa Z h a C) (hL : (Cond.lays C O nm d).before a0 Z = true ∨ ((Cond.laysFinal C O nm d).before a0 Z = true ∧ y.cls = O ∧ y.name = "<init>"))
    (wi : (Cond.instantiable C kk).before a0 Z = true) (hty : parseFieldDescriptor d = some ty) (hn : narrow ty v = v') (hf : fits ty v' = true) (hge : Z.heap.size ≤ a) (hq : pc + 3 = q)
    (g : ∀ h', Wr h h' a (Jvm.RoadKit.slotOf Z O nm d) v' → GoB wf l Z y code ml ret R Q k n h' q Ls st) : GoB wf l Z y code ml ret R Q k n h pc Ls (v :: .ref a :: st) := by
  subst hq
  refine GoB.move (P := fun h' => Wr h h' a (Jvm.RoadKit.slotOf Z O nm d) v') (kk := k) (nn := n) g ?_
  intro p e s m args below meth c K T L k' n' X h1 h2 N hT
  obtain ⟨T', h', X', e', W', s'⟩ := putFN X K.1 K.2.2.1 K.2.2.2.1 w Via.refl hT F E (hL.imp id fun ⟨a1, a2, a3⟩ => ⟨a1, a2, K.2.2.2.2.2.2.2.trans a3⟩) wi hty hn hf (g := mkF m pc Ls (v :: .ref a :: st)) rfl rfl (hb K.2.1 hd)
  exact ⟨T', _, k', n', X', h1, h2, Fr.snoc X' N hge, e' ▸ W', s'⟩
theorem Go.new {i sz : Nat} {C : String} (q : Nat) (hd : decode code pc = .ok (.new i, 3)) (w : (Cond.classLink y.cls i C).before a0 Z = true) (wi : (Cond.instantiable C sz).before a0 Z = true) (wz : (Cond.initialized C).before a0 Z = true) (hk : k + 1 ≤ R.cells) (hN : n + sz ≤ R.slots) (hq : pc + 3 = q)
    (g : ∀ (a : Addr) h', a = h.size → Ext h h' → Exa Z h' a C → (∀ {O nm d : String} {ty : FieldType}, Laid Z a0 C O nm d → parseFieldDescriptor d = some ty → Fld Z h' a O nm d (defaultValue ty)) → GoB wf l Z y code ml ret R Q (k + 1) (n + sz) h' q Ls (.ref a :: st)) : GoB wf l Z y code ml ret R Q k n h pc Ls st := by
  subst hq
  refine GoB.move (P := fun h' => Ext h h' ∧ Exa Z h' h.size C ∧ (∀ {O nm d : String} {ty : FieldType}, Laid Z a0 C O nm d → parseFieldDescriptor d = some ty → Fld Z h' h.size O nm d (defaultValue ty))) (kk := k + 1) (nn := n + sz) (fun h' p => g h.size h' rfl p.1 p.2.1 p.2.2) ?_
  intro p e s m args below meth c K T L k' n' X h1 h2 N hT
  obtain ⟨T', h', X', e', E', A', D', -, s'⟩ := newO X K.1 K.2.2.1 K.2.2.2.1 w wi wz hT (g := mkF m pc Ls st) rfl (hb K.2.1 hd) (Nat.le_trans (Nat.add_le_add_right h1 1) hk) (Nat.le_trans (Nat.add_le_add_right h2 sz) hN)
  subst e'
  exact ⟨T', L, k' + 1, n' + sz, X', Nat.add_le_add_right h1 1, Nat.add_le_add_right h2 sz, N, ⟨E', A', D'⟩, s'⟩
theorem Go.initO {i : Nat} {a : Addr} (W : Nat) (q : Nat) (hd : decode code pc = .ok (.invokespecial i, 3)) (w1 : (Cond.methodLink y.cls i Lib.objectInit).before a0 Z = true) (w2 : (Cond.instanceMethod Lib.objectInit).before a0 Z = true) (w3 : (Cond.code Lib.objectInit ⟨#[0xb1]⟩ 1 none).before a0 Z = true)
    (hsz : Ls.size = ml) (hf : 1 ≤ R.frames) (hW : (st.map fun v => v.category).sum ≤ W) (hl : W + 12 ≤ R.locals) (hq : pc + 3 = q) (g : GoB wf l Z y code ml ret R Q k n h q Ls st) : GoB wf l Z y code ml ret R Q k n h pc Ls (.ref a :: st) := by
  subst hq
  refine GoB.move (P := fun h' => h' = h) (kk := k) (nn := n) (fun h' e => e ▸ g) ?_
  intro p e s m args below meth c K T L k' n' X h1 h2 N hT
  obtain ⟨T', X', e', s'⟩ := Jvm.RoadKit.initO X K.1 K.2.2.1 K.2.2.2.1 w1 w2 w3 hT (g := mkF m pc Ls (.ref a :: st)) rfl (hsz.trans K.2.2.2.2.1.symm) rfl (hb K.2.1 hd) hf (W := W) (by show 2 * 0 + _ ≤ _; rw [Nat.mul_zero, Nat.zero_add]; exact hW) hl
  exact ⟨T', L, k', n', X', h1, h2, N, e', s'⟩


section Calls
variable {y' : MethodName} {code' : ByteArray} {ml' : Nat} {ret' : Option FieldType} {R' : Room} {Q' : Option Value → Heap → Prop} {Ls' : Array Slot} {i W : Nat}
theorem Go.callS (argsL : List Value) (rest : List Value) (q : Nat) (hd : decode code pc = .ok (.invokestatic i, 3)) (w1 : (Cond.methodLink y.cls i y').before a0 Z = true) (w2 : (Cond.static y').before a0 Z = true) (w3 : (Cond.initialized y'.cls).before a0 Z = true) (w4 : (Cond.code y' code' ml' ret').before a0 Z = true)
    (hpl : plainFor y' = true) (hy : y'.cls ≠ "java/lang/invoke/MethodHandle" ∧ y'.cls ≠ "java/lang/invoke/VarHandle") (hlen : ∀ sig, parseMethodDescriptor y'.desc = some sig → argsL.length = sig.parameters.length) (hst : st = argsL.reverse ++ rest) (hent : ∀ m, entryFrame m argsL.toArray ml' = mkF m 0 Ls' [])
    (G : Go l Z y' code' ml' ret' R' Q' 0 0 h 0 Ls' []) (W : Nat) (hsz : Ls.size = ml) (hW : (rest.map fun v => v.category).sum ≤ W) (hf : R'.frames + 1 ≤ R.frames) (hl : W + (ml' + 11) + R'.locals ≤ R.locals) (hk : k + R'.cells ≤ R.cells) (hN : n + R'.slots ≤ R.slots) (hq : pc + 3 = q)
    (g : ∀ v h', Q' v h' → GoB wf l Z y code ml ret R Q (k + R'.cells) (n + R'.slots) h' q Ls (v.toList ++ rest)) : GoB wf l Z y code ml ret R Q k n h pc Ls st := by
  subst hq
  intro p e s m args below meth c K T L k' n' X h1 h2 N hT
  obtain ⟨v, vm₁, ⟨T', L', k'', n''⟩, -, X', ⟨Lc, ⟨hQ, N'⟩, e1, e2, e3⟩, s'⟩ := Jvm.LawKit.callS X K.1 K.2.2.2.1 (mvT K.2.2.1 w1) (mvT K.2.2.1 w2) (mvT K.2.2.1 w3) (mvT K.2.2.1 w4) hy (backOf (W := W) (Q := fun v h L => Q' v h ∧ Fr Z.heap.size L) (Go.met hpl hent G []) K.2.2.1 w4 w3 hf hl) (g := mkF m pc Ls st) rfl (hsz.trans K.2.2.2.2.1.symm) (argsL := argsL) (rest := rest) hlen hst (by show 2 * 0 + _ ≤ _; rw [Nat.mul_zero, Nat.zero_add]; exact hW) (hb K.2.1 hd) (fun _ _ => ⟨rfl, hT, Nat.le_trans (Nat.add_le_add_right h1 _) hk, Nat.le_trans (Nat.add_le_add_right h2 _) hN⟩)
  dsimp only [Pt.U, Pt.locs, Pt.cells, Pt.slots] at X' e1 e2 e3 s' hQ
  subst e1 e2 e3
  obtain ⟨s2, v2, T2, L2, k2, n2, ok2, X2, b1, b2, N2, q2, hv, stp⟩ := g v _ hQ p e s m args below meth c K T' _ _ _ X' (Nat.add_le_add_right h1 _) (Nat.add_le_add_right h2 _) (Fr.app N N') rfl
  exact ⟨s2, v2, T2, L2, k2, n2, ok2, X2, b1, b2, N2, q2, hv, fun fs hl => s' _ (stp fs hl)⟩
theorem Go.callC {a : Addr} (argsL : List Value) (rest : List Value) (q : Nat) (hd : decode code pc = .ok (.invokespecial i, 3)) (hy1 : y'.name = "<init>") (w1 : (Cond.methodLink y.cls i y').before a0 Z = true) (w2 : (Cond.instanceMethod y').before a0 Z = true) (w3 : (Cond.initialized y'.cls).before a0 Z = true) (w4 : (Cond.code y' code' ml' none).before a0 Z = true)
    (hpl : plainFor y' = true) (hy : y'.cls ≠ "java/lang/invoke/MethodHandle" ∧ y'.cls ≠ "java/lang/invoke/VarHandle") (hlen : ∀ sig, parseMethodDescriptor y'.desc = some sig → argsL.length = sig.parameters.length) (hst : st = argsL.reverse ++ .ref a :: rest) (hent : ∀ m, entryFrame m (.ref a :: argsL).toArray ml' = mkF m 0 Ls' [])
    (P' : Heap → Prop) (G : Go l Z y' code' ml' none R' (QV P') 0 0 h 0 Ls' []) (W : Nat) (hsz : Ls.size = ml) (hW : (rest.map fun v => v.category).sum ≤ W) (hf : R'.frames + 1 ≤ R.frames) (hl : W + (ml' + 11) + R'.locals ≤ R.locals) (hk : k + R'.cells ≤ R.cells) (hN : n + R'.slots ≤ R.slots) (hq : pc + 3 = q)
    (g : ∀ h', P' h' → GoB wf l Z y code ml ret R Q (k + R'.cells) (n + R'.slots) h' q Ls rest) : GoB wf l Z y code ml ret R Q k n h pc Ls st := by
  subst hq
  intro p e s m args below meth c K T L k' n' X h1 h2 N hT
  obtain ⟨v, vm₁, ⟨T', L', k'', n''⟩, -, X', ⟨Lc, ⟨⟨rfl, hQ⟩, N'⟩, e1, e2, e3⟩, s'⟩ := X.specialBack K.1 hy1 K.2.2.2.1 (mvT K.2.2.1 w1) (mvT K.2.2.1 w2) (mvT K.2.2.1 w4) hy (backOf (W := W) (Q := fun v h L => QV P' v h ∧ Fr Z.heap.size L) (Go.met hpl hent G []) K.2.2.1 w4 w3 hf hl) (g := mkF m pc Ls st) rfl (hsz.trans K.2.2.2.2.1.symm) (Steps.refl _) (a := a) (argsL := argsL) (rest := rest) hlen hst (by show 2 * 0 + _ ≤ _; rw [Nat.mul_zero, Nat.zero_add]; exact hW) (hb K.2.1 hd) (fun _ _ => ⟨rfl, hT, Nat.le_trans (Nat.add_le_add_right h1 _) hk, Nat.le_trans (Nat.add_le_add_right h2 _) hN⟩)
  dsimp only [Pt.U, Pt.locs, Pt.cells, Pt.slots] at X' e1 e2 e3 s' hQ
  subst e1 e2 e3
  obtain ⟨s2, v2, T2, L2, k2, n2, ok2, X2, b1, b2, N2, q2, hv, stp⟩ := g _ hQ p e s m args below meth c K T' _ _ _ X' (Nat.add_le_add_right h1 _) (Nat.add_le_add_right h2 _) (Fr.app N N') rfl
  exact ⟨s2, v2, T2, L2, k2, n2, ok2, X2, b1, b2, N2, q2, hv, fun fs hl => s'.trans (stp fs hl)⟩
theorem Go.callV {a : Addr} {C : String} (argsL : List Value) (rest : List Value) (q : Nat) (hd : decode code pc = .ok (.invokevirtual i, 3)) (w1 : (Cond.methodLink y.cls i y').before a0 Z = true) (w1' : (Cond.declares y').before a0 Z = true) (w1s : (Cond.selects C y' y').before a0 Z = true) (w2 : (Cond.instanceMethod y').before a0 Z = true) (w3 : (Cond.initialized y'.cls).before a0 Z = true) (w4 : (Cond.code y' code' ml' ret').before a0 Z = true) (E : Exa Z h a C)
    (hpl : plainFor y' = true) (hy : y'.cls ≠ "java/lang/invoke/MethodHandle" ∧ y'.cls ≠ "java/lang/invoke/VarHandle") (hlen : ∀ sig, parseMethodDescriptor y'.desc = some sig → argsL.length = sig.parameters.length) (hst : st = argsL.reverse ++ .ref a :: rest) (hent : ∀ m, entryFrame m (.ref a :: argsL).toArray ml' = mkF m 0 Ls' [])
    (G : Go l Z y' code' ml' ret' R' Q' 0 0 h 0 Ls' []) (W : Nat) (hsz : Ls.size = ml) (hW : (rest.map fun v => v.category).sum ≤ W) (hf : R'.frames + 1 ≤ R.frames) (hl : W + (ml' + 11) + R'.locals ≤ R.locals) (hk : k + R'.cells ≤ R.cells) (hN : n + R'.slots ≤ R.slots) (hq : pc + 3 = q)
    (g : ∀ v h', Q' v h' → GoB wf l Z y code ml ret R Q (k + R'.cells) (n + R'.slots) h' q Ls (v.toList ++ rest)) : GoB wf l Z y code ml ret R Q k n h pc Ls st := by
  subst hq
  intro p e s m args below meth c K T L k' n' X h1 h2 N hT
  obtain ⟨cq, kq, qa, qb, qc⟩ := isOf K.2.2.1 hT E
  obtain ⟨v, vm₁, ⟨T', L', k'', n''⟩, -, X', ⟨Lc, ⟨hQ, N'⟩, e1, e2, e3⟩, s'⟩ := X.virtualBack K.1 K.2.2.2.1 (mvT K.2.2.1 w1) (mvT K.2.2.1 w1') (notFace_of_selects (args := #[]) (mvT K.2.2.1 w1s)) (mvT K.2.2.1 w1s) (mvT K.2.2.1 w2) hy (backOf (W := W) (Q := fun v h L => Q' v h ∧ Fr Z.heap.size L) (Go.met hpl hent G []) K.2.2.1 w4 w3 hf hl) qa qc (g := mkF m pc Ls st) rfl (hsz.trans K.2.2.2.2.1.symm) (Steps.refl _) (argsL := argsL) (rest := rest) hlen hst (by show 2 * 0 + _ ≤ _; rw [Nat.mul_zero, Nat.zero_add]; exact hW) (hb K.2.1 hd) (fun _ _ => ⟨rfl, hT, Nat.le_trans (Nat.add_le_add_right h1 _) hk, Nat.le_trans (Nat.add_le_add_right h2 _) hN⟩)
  dsimp only [Pt.U, Pt.locs, Pt.cells, Pt.slots] at X' e1 e2 e3 s' hQ
  subst e1 e2 e3
  obtain ⟨s2, v2, T2, L2, k2, n2, ok2, X2, b1, b2, N2, q2, hv, stp⟩ := g v _ hQ p e s m args below meth c K T' _ _ _ X' (Nat.add_le_add_right h1 _) (Nat.add_le_add_right h2 _) (Fr.app N N') rfl
  exact ⟨s2, v2, T2, L2, k2, n2, ok2, X2, b1, b2, N2, q2, hv, fun fs hl => s'.trans (stp fs hl)⟩
theorem Go.callCp {a : Addr} (argsL : List Value) (rest : List Value) (q : Nat) (hd : decode code pc = .ok (.invokespecial i, 3)) (hy1 : y'.name = "<init>") (w1 : (Cond.methodLink y.cls i y').before a0 Z = true) (w2 : (Cond.instanceMethod y').before a0 Z = true) (w3 : (Cond.initialized y'.cls).before a0 Z = true) (w4 : (Cond.code y' code' ml' none).before a0 Z = true)
    (hpl : plainFor y' = true) (hy : y'.cls ≠ "java/lang/invoke/MethodHandle" ∧ y'.cls ≠ "java/lang/invoke/VarHandle") (hlen : ∀ sig, parseMethodDescriptor y'.desc = some sig → argsL.length = sig.parameters.length) (hst : st = argsL.reverse ++ .ref a :: rest) (hent : ∀ m, entryFrame m (.ref a :: argsL).toArray ml' = mkF m 0 Ls' [])
    (G : Go l Z y' code' ml' none R' (QV fun h' => h' = h) 0 0 h 0 Ls' []) (W : Nat) (hsz : Ls.size = ml) (hW : (rest.map fun v => v.category).sum ≤ W) (hf : R'.frames + 1 ≤ R.frames) (hl : W + (ml' + 11) + R'.locals ≤ R.locals) (hk : k + R'.cells ≤ R.cells) (hN : n + R'.slots ≤ R.slots) (hq : pc + 3 = q)
    (g : GoB wf l Z y code ml ret R Q (k + R'.cells) (n + R'.slots) h q Ls rest) : GoB wf l Z y code ml ret R Q k n h pc Ls st :=
  Go.callC argsL rest q hd hy1 w1 w2 w3 w4 hpl hy hlen hst hent _ G W hsz hW hf hl hk hN hq (fun h' e => by subst e; exact g)
end Calls

section
variable {y' : MethodName} {code' : ByteArray} {ml' : Nat} {ret' : Option FieldType} {R' : Room} {Ls' : Array Slot} {i : Nat}
theorem Go.callSI (argsL : List Value) (rest : List Value) (q : Nat) (hd : decode code pc = .ok (.invokestatic i, 3)) (w1 : (Cond.methodLink y.cls i y').before a0 Z = true) (w2 : (Cond.static y').before a0 Z = true) (w3 : (Cond.initialized y'.cls).before a0 Z = true) (w4 : (Cond.code y' code' ml' ret').before a0 Z = true)
    (hpl : plainFor y' = true) (hy : y'.cls ≠ "java/lang/invoke/MethodHandle" ∧ y'.cls ≠ "java/lang/invoke/VarHandle") (hlen : ∀ sig, parseMethodDescriptor y'.desc = some sig → argsL.length = sig.parameters.length) (hst : st = argsL.reverse ++ rest) (hent : ∀ m, entryFrame m argsL.toArray ml' = mkF m 0 Ls' [])
    (P' : Int32 → Heap → Prop) (G : Go l Z y' code' ml' ret' R' (QI P') 0 0 h 0 Ls' []) (W : Nat) (hsz : Ls.size = ml) (hW : (rest.map fun v => v.category).sum ≤ W) (hf : R'.frames + 1 ≤ R.frames) (hl : W + (ml' + 11) + R'.locals ≤ R.locals) (hk : k + R'.cells ≤ R.cells) (hN : n + R'.slots ≤ R.slots) (hq : pc + 3 = q)
    (g : ∀ (z : Int32) h', P' z h' → GoB wf l Z y code ml ret R Q (k + R'.cells) (n + R'.slots) h' q Ls (.int z :: rest)) : GoB wf l Z y code ml ret R Q k n h pc Ls st := by
  exact Go.callS argsL rest q hd w1 w2 w3 w4 hpl hy hlen hst hent G W hsz hW hf hl hk hN hq (fun v h' hq' => by obtain ⟨z, e, hp⟩ := hq'; subst e; exact g z h' hp)
end
section
variable {y' : MethodName} {code' : ByteArray} {ml' : Nat} {ret' : Option FieldType} {R' : Room} {Ls' : Array Slot} {i : Nat}
theorem Go.callSIp (argsL : List Value) (rest : List Value) (q : Nat) (hd : decode code pc = .ok (.invokestatic i, 3)) (w1 : (Cond.methodLink y.cls i y').before a0 Z = true) (w2 : (Cond.static y').before a0 Z = true) (w3 : (Cond.initialized y'.cls).before a0 Z = true) (w4 : (Cond.code y' code' ml' ret').before a0 Z = true)
    (hpl : plainFor y' = true) (hy : y'.cls ≠ "java/lang/invoke/MethodHandle" ∧ y'.cls ≠ "java/lang/invoke/VarHandle") (hlen : ∀ sig, parseMethodDescriptor y'.desc = some sig → argsL.length = sig.parameters.length) (hst : st = argsL.reverse ++ rest) (hent : ∀ m, entryFrame m argsL.toArray ml' = mkF m 0 Ls' [])
    (F : Int32) (G : Go l Z y' code' ml' ret' R' (QI fun z h' => z = F ∧ h' = h) 0 0 h 0 Ls' []) (W : Nat) (hsz : Ls.size = ml) (hW : (rest.map fun v => v.category).sum ≤ W) (hf : R'.frames + 1 ≤ R.frames) (hl : W + (ml' + 11) + R'.locals ≤ R.locals) (hk : k + R'.cells ≤ R.cells) (hN : n + R'.slots ≤ R.slots) (hq : pc + 3 = q)
    (g : GoB wf l Z y code ml ret R Q (k + R'.cells) (n + R'.slots) h q Ls (.int F :: rest)) : GoB wf l Z y code ml ret R Q k n h pc Ls st := by
  exact Go.callS argsL rest q hd w1 w2 w3 w4 hpl hy hlen hst hent G W hsz hW hf hl hk hN hq (fun v h' hq' => by obtain ⟨z, e, hp, hh⟩ := hq'; subst e; subst hh; rw [hp]; exact g)
end
section
variable {y' : MethodName} {code' : ByteArray} {ml' : Nat} {ret' : Option FieldType} {R' : Room} {Ls' : Array Slot} {i : Nat}
theorem Go.callSIe (argsL : List Value) (rest : List Value) (q : Nat) (hd : decode code pc = .ok (.invokestatic i, 3)) (w1 : (Cond.methodLink y.cls i y').before a0 Z = true) (w2 : (Cond.static y').before a0 Z = true) (w3 : (Cond.initialized y'.cls).before a0 Z = true) (w4 : (Cond.code y' code' ml' ret').before a0 Z = true)
    (hpl : plainFor y' = true) (hy : y'.cls ≠ "java/lang/invoke/MethodHandle" ∧ y'.cls ≠ "java/lang/invoke/VarHandle") (hlen : ∀ sig, parseMethodDescriptor y'.desc = some sig → argsL.length = sig.parameters.length) (hst : st = argsL.reverse ++ rest) (hent : ∀ m, entryFrame m argsL.toArray ml' = mkF m 0 Ls' [])
    (F : Int32) (P' : Heap → Prop) (G : Go l Z y' code' ml' ret' R' (QI fun z h' => z = F ∧ P' h') 0 0 h 0 Ls' []) (W : Nat) (hsz : Ls.size = ml) (hW : (rest.map fun v => v.category).sum ≤ W) (hf : R'.frames + 1 ≤ R.frames) (hl : W + (ml' + 11) + R'.locals ≤ R.locals) (hk : k + R'.cells ≤ R.cells) (hN : n + R'.slots ≤ R.slots) (hq : pc + 3 = q)
    (g : ∀ h', P' h' → GoB wf l Z y code ml ret R Q (k + R'.cells) (n + R'.slots) h' q Ls (.int F :: rest)) : GoB wf l Z y code ml ret R Q k n h pc Ls st := by
  exact Go.callS argsL rest q hd w1 w2 w3 w4 hpl hy hlen hst hent G W hsz hW hf hl hk hN hq (fun v h' hq' => by obtain ⟨z, e, hp, hh⟩ := hq'; subst e; rw [hp]; exact g h' hh)
end
section
variable {y' : MethodName} {code' : ByteArray} {ml' : Nat} {ret' : Option FieldType} {R' : Room} {Ls' : Array Slot} {i : Nat}
theorem Go.callSJ (argsL : List Value) (rest : List Value) (q : Nat) (hd : decode code pc = .ok (.invokestatic i, 3)) (w1 : (Cond.methodLink y.cls i y').before a0 Z = true) (w2 : (Cond.static y').before a0 Z = true) (w3 : (Cond.initialized y'.cls).before a0 Z = true) (w4 : (Cond.code y' code' ml' ret').before a0 Z = true)
    (hpl : plainFor y' = true) (hy : y'.cls ≠ "java/lang/invoke/MethodHandle" ∧ y'.cls ≠ "java/lang/invoke/VarHandle") (hlen : ∀ sig, parseMethodDescriptor y'.desc = some sig → argsL.length = sig.parameters.length) (hst : st = argsL.reverse ++ rest) (hent : ∀ m, entryFrame m argsL.toArray ml' = mkF m 0 Ls' [])
    (P' : Int64 → Heap → Prop) (G : Go l Z y' code' ml' ret' R' (QJ P') 0 0 h 0 Ls' []) (W : Nat) (hsz : Ls.size = ml) (hW : (rest.map fun v => v.category).sum ≤ W) (hf : R'.frames + 1 ≤ R.frames) (hl : W + (ml' + 11) + R'.locals ≤ R.locals) (hk : k + R'.cells ≤ R.cells) (hN : n + R'.slots ≤ R.slots) (hq : pc + 3 = q)
    (g : ∀ (z : Int64) h', P' z h' → GoB wf l Z y code ml ret R Q (k + R'.cells) (n + R'.slots) h' q Ls (.long z :: rest)) : GoB wf l Z y code ml ret R Q k n h pc Ls st := by
  exact Go.callS argsL rest q hd w1 w2 w3 w4 hpl hy hlen hst hent G W hsz hW hf hl hk hN hq (fun v h' hq' => by obtain ⟨z, e, hp⟩ := hq'; subst e; exact g z h' hp)
end
section
variable {y' : MethodName} {code' : ByteArray} {ml' : Nat} {ret' : Option FieldType} {R' : Room} {Ls' : Array Slot} {i : Nat}
theorem Go.callSJp (argsL : List Value) (rest : List Value) (q : Nat) (hd : decode code pc = .ok (.invokestatic i, 3)) (w1 : (Cond.methodLink y.cls i y').before a0 Z = true) (w2 : (Cond.static y').before a0 Z = true) (w3 : (Cond.initialized y'.cls).before a0 Z = true) (w4 : (Cond.code y' code' ml' ret').before a0 Z = true)
    (hpl : plainFor y' = true) (hy : y'.cls ≠ "java/lang/invoke/MethodHandle" ∧ y'.cls ≠ "java/lang/invoke/VarHandle") (hlen : ∀ sig, parseMethodDescriptor y'.desc = some sig → argsL.length = sig.parameters.length) (hst : st = argsL.reverse ++ rest) (hent : ∀ m, entryFrame m argsL.toArray ml' = mkF m 0 Ls' [])
    (F : Int64) (G : Go l Z y' code' ml' ret' R' (QJ fun z h' => z = F ∧ h' = h) 0 0 h 0 Ls' []) (W : Nat) (hsz : Ls.size = ml) (hW : (rest.map fun v => v.category).sum ≤ W) (hf : R'.frames + 1 ≤ R.frames) (hl : W + (ml' + 11) + R'.locals ≤ R.locals) (hk : k + R'.cells ≤ R.cells) (hN : n + R'.slots ≤ R.slots) (hq : pc + 3 = q)
    (g : GoB wf l Z y code ml ret R Q (k + R'.cells) (n + R'.slots) h q Ls (.long F :: rest)) : GoB wf l Z y code ml ret R Q k n h pc Ls st := by
  exact Go.callS argsL rest q hd w1 w2 w3 w4 hpl hy hlen hst hent G W hsz hW hf hl hk hN hq (fun v h' hq' => by obtain ⟨z, e, hp, hh⟩ := hq'; subst e; subst hh; rw [hp]; exact g)
end
section
variable {y' : MethodName} {code' : ByteArray} {ml' : Nat} {ret' : Option FieldType} {R' : Room} {Ls' : Array Slot} {i : Nat}
theorem Go.callSJe (argsL : List Value) (rest : List Value) (q : Nat) (hd : decode code pc = .ok (.invokestatic i, 3)) (w1 : (Cond.methodLink y.cls i y').before a0 Z = true) (w2 : (Cond.static y').before a0 Z = true) (w3 : (Cond.initialized y'.cls).before a0 Z = true) (w4 : (Cond.code y' code' ml' ret').before a0 Z = true)
    (hpl : plainFor y' = true) (hy : y'.cls ≠ "java/lang/invoke/MethodHandle" ∧ y'.cls ≠ "java/lang/invoke/VarHandle") (hlen : ∀ sig, parseMethodDescriptor y'.desc = some sig → argsL.length = sig.parameters.length) (hst : st = argsL.reverse ++ rest) (hent : ∀ m, entryFrame m argsL.toArray ml' = mkF m 0 Ls' [])
    (F : Int64) (P' : Heap → Prop) (G : Go l Z y' code' ml' ret' R' (QJ fun z h' => z = F ∧ P' h') 0 0 h 0 Ls' []) (W : Nat) (hsz : Ls.size = ml) (hW : (rest.map fun v => v.category).sum ≤ W) (hf : R'.frames + 1 ≤ R.frames) (hl : W + (ml' + 11) + R'.locals ≤ R.locals) (hk : k + R'.cells ≤ R.cells) (hN : n + R'.slots ≤ R.slots) (hq : pc + 3 = q)
    (g : ∀ h', P' h' → GoB wf l Z y code ml ret R Q (k + R'.cells) (n + R'.slots) h' q Ls (.long F :: rest)) : GoB wf l Z y code ml ret R Q k n h pc Ls st := by
  exact Go.callS argsL rest q hd w1 w2 w3 w4 hpl hy hlen hst hent G W hsz hW hf hl hk hN hq (fun v h' hq' => by obtain ⟨z, e, hp, hh⟩ := hq'; subst e; rw [hp]; exact g h' hh)
end
section
variable {y' : MethodName} {code' : ByteArray} {ml' : Nat} {ret' : Option FieldType} {R' : Room} {Ls' : Array Slot} {i : Nat}
theorem Go.callSR (argsL : List Value) (rest : List Value) (q : Nat) (hd : decode code pc = .ok (.invokestatic i, 3)) (w1 : (Cond.methodLink y.cls i y').before a0 Z = true) (w2 : (Cond.static y').before a0 Z = true) (w3 : (Cond.initialized y'.cls).before a0 Z = true) (w4 : (Cond.code y' code' ml' ret').before a0 Z = true)
    (hpl : plainFor y' = true) (hy : y'.cls ≠ "java/lang/invoke/MethodHandle" ∧ y'.cls ≠ "java/lang/invoke/VarHandle") (hlen : ∀ sig, parseMethodDescriptor y'.desc = some sig → argsL.length = sig.parameters.length) (hst : st = argsL.reverse ++ rest) (hent : ∀ m, entryFrame m argsL.toArray ml' = mkF m 0 Ls' [])
    (P' : Value → Heap → Prop) (G : Go l Z y' code' ml' ret' R' (QR P') 0 0 h 0 Ls' []) (W : Nat) (hsz : Ls.size = ml) (hW : (rest.map fun v => v.category).sum ≤ W) (hf : R'.frames + 1 ≤ R.frames) (hl : W + (ml' + 11) + R'.locals ≤ R.locals) (hk : k + R'.cells ≤ R.cells) (hN : n + R'.slots ≤ R.slots) (hq : pc + 3 = q)
    (g : ∀ (z : Value) h', P' z h' → GoB wf l Z y code ml ret R Q (k + R'.cells) (n + R'.slots) h' q Ls ( z :: rest)) : GoB wf l Z y code ml ret R Q k n h pc Ls st := by
  exact Go.callS argsL rest q hd w1 w2 w3 w4 hpl hy hlen hst hent G W hsz hW hf hl hk hN hq (fun v h' hq' => by obtain ⟨z, e, hp⟩ := hq'; subst e; exact g z h' hp)
end
section
variable {y' : MethodName} {code' : ByteArray} {ml' : Nat} {ret' : Option FieldType} {R' : Room} {Ls' : Array Slot} {i : Nat}
theorem Go.callSRp (argsL : List Value) (rest : List Value) (q : Nat) (hd : decode code pc = .ok (.invokestatic i, 3)) (w1 : (Cond.methodLink y.cls i y').before a0 Z = true) (w2 : (Cond.static y').before a0 Z = true) (w3 : (Cond.initialized y'.cls).before a0 Z = true) (w4 : (Cond.code y' code' ml' ret').before a0 Z = true)
    (hpl : plainFor y' = true) (hy : y'.cls ≠ "java/lang/invoke/MethodHandle" ∧ y'.cls ≠ "java/lang/invoke/VarHandle") (hlen : ∀ sig, parseMethodDescriptor y'.desc = some sig → argsL.length = sig.parameters.length) (hst : st = argsL.reverse ++ rest) (hent : ∀ m, entryFrame m argsL.toArray ml' = mkF m 0 Ls' [])
    (F : Value) (G : Go l Z y' code' ml' ret' R' (QR fun z h' => z = F ∧ h' = h) 0 0 h 0 Ls' []) (W : Nat) (hsz : Ls.size = ml) (hW : (rest.map fun v => v.category).sum ≤ W) (hf : R'.frames + 1 ≤ R.frames) (hl : W + (ml' + 11) + R'.locals ≤ R.locals) (hk : k + R'.cells ≤ R.cells) (hN : n + R'.slots ≤ R.slots) (hq : pc + 3 = q)
    (g : GoB wf l Z y code ml ret R Q (k + R'.cells) (n + R'.slots) h q Ls ( F :: rest)) : GoB wf l Z y code ml ret R Q k n h pc Ls st := by
  exact Go.callS argsL rest q hd w1 w2 w3 w4 hpl hy hlen hst hent G W hsz hW hf hl hk hN hq (fun v h' hq' => by obtain ⟨z, e, hp, hh⟩ := hq'; subst e; subst hh; rw [hp]; exact g)
end
section
variable {y' : MethodName} {code' : ByteArray} {ml' : Nat} {ret' : Option FieldType} {R' : Room} {Ls' : Array Slot} {i : Nat}
theorem Go.callSRe (argsL : List Value) (rest : List Value) (q : Nat) (hd : decode code pc = .ok (.invokestatic i, 3)) (w1 : (Cond.methodLink y.cls i y').before a0 Z = true) (w2 : (Cond.static y').before a0 Z = true) (w3 : (Cond.initialized y'.cls).before a0 Z = true) (w4 : (Cond.code y' code' ml' ret').before a0 Z = true)
    (hpl : plainFor y' = true) (hy : y'.cls ≠ "java/lang/invoke/MethodHandle" ∧ y'.cls ≠ "java/lang/invoke/VarHandle") (hlen : ∀ sig, parseMethodDescriptor y'.desc = some sig → argsL.length = sig.parameters.length) (hst : st = argsL.reverse ++ rest) (hent : ∀ m, entryFrame m argsL.toArray ml' = mkF m 0 Ls' [])
    (F : Value) (P' : Heap → Prop) (G : Go l Z y' code' ml' ret' R' (QR fun z h' => z = F ∧ P' h') 0 0 h 0 Ls' []) (W : Nat) (hsz : Ls.size = ml) (hW : (rest.map fun v => v.category).sum ≤ W) (hf : R'.frames + 1 ≤ R.frames) (hl : W + (ml' + 11) + R'.locals ≤ R.locals) (hk : k + R'.cells ≤ R.cells) (hN : n + R'.slots ≤ R.slots) (hq : pc + 3 = q)
    (g : ∀ h', P' h' → GoB wf l Z y code ml ret R Q (k + R'.cells) (n + R'.slots) h' q Ls ( F :: rest)) : GoB wf l Z y code ml ret R Q k n h pc Ls st := by
  exact Go.callS argsL rest q hd w1 w2 w3 w4 hpl hy hlen hst hent G W hsz hW hf hl hk hN hq (fun v h' hq' => by obtain ⟨z, e, hp, hh⟩ := hq'; subst e; rw [hp]; exact g h' hh)
end
section
variable {y' : MethodName} {code' : ByteArray} {ml' : Nat} {ret' : Option FieldType} {R' : Room} {Ls' : Array Slot} {i : Nat}
theorem Go.callSV (argsL : List Value) (rest : List Value) (q : Nat) (hd : decode code pc = .ok (.invokestatic i, 3)) (w1 : (Cond.methodLink y.cls i y').before a0 Z = true) (w2 : (Cond.static y').before a0 Z = true) (w3 : (Cond.initialized y'.cls).before a0 Z = true) (w4 : (Cond.code y' code' ml' ret').before a0 Z = true)
    (hpl : plainFor y' = true) (hy : y'.cls ≠ "java/lang/invoke/MethodHandle" ∧ y'.cls ≠ "java/lang/invoke/VarHandle") (hlen : ∀ sig, parseMethodDescriptor y'.desc = some sig → argsL.length = sig.parameters.length) (hst : st = argsL.reverse ++ rest) (hent : ∀ m, entryFrame m argsL.toArray ml' = mkF m 0 Ls' [])
    (P' : Heap → Prop) (G : Go l Z y' code' ml' ret' R' (QV P') 0 0 h 0 Ls' []) (W : Nat) (hsz : Ls.size = ml) (hW : (rest.map fun v => v.category).sum ≤ W) (hf : R'.frames + 1 ≤ R.frames) (hl : W + (ml' + 11) + R'.locals ≤ R.locals) (hk : k + R'.cells ≤ R.cells) (hN : n + R'.slots ≤ R.slots) (hq : pc + 3 = q)
    (g : ∀ h', P' h' → GoB wf l Z y code ml ret R Q (k + R'.cells) (n + R'.slots) h' q Ls rest) : GoB wf l Z y code ml ret R Q k n h pc Ls st := by
  exact Go.callS argsL rest q hd w1 w2 w3 w4 hpl hy hlen hst hent G W hsz hW hf hl hk hN hq (fun v h' hq' => by obtain ⟨e, hp⟩ := hq'; subst e; exact g h' hp)
end
section
variable {y' : MethodName} {code' : ByteArray} {ml' : Nat} {ret' : Option FieldType} {R' : Room} {Ls' : Array Slot} {i : Nat}
theorem Go.callSVp (argsL : List Value) (rest : List Value) (q : Nat) (hd : decode code pc = .ok (.invokestatic i, 3)) (w1 : (Cond.methodLink y.cls i y').before a0 Z = true) (w2 : (Cond.static y').before a0 Z = true) (w3 : (Cond.initialized y'.cls).before a0 Z = true) (w4 : (Cond.code y' code' ml' ret').before a0 Z = true)
    (hpl : plainFor y' = true) (hy : y'.cls ≠ "java/lang/invoke/MethodHandle" ∧ y'.cls ≠ "java/lang/invoke/VarHandle") (hlen : ∀ sig, parseMethodDescriptor y'.desc = some sig → argsL.length = sig.parameters.length) (hst : st = argsL.reverse ++ rest) (hent : ∀ m, entryFrame m argsL.toArray ml' = mkF m 0 Ls' [])
    (G : Go l Z y' code' ml' ret' R' (QV fun h' => h' = h) 0 0 h 0 Ls' []) (W : Nat) (hsz : Ls.size = ml) (hW : (rest.map fun v => v.category).sum ≤ W) (hf : R'.frames + 1 ≤ R.frames) (hl : W + (ml' + 11) + R'.locals ≤ R.locals) (hk : k + R'.cells ≤ R.cells) (hN : n + R'.slots ≤ R.slots) (hq : pc + 3 = q)
    (g : GoB wf l Z y code ml ret R Q (k + R'.cells) (n + R'.slots) h q Ls rest) : GoB wf l Z y code ml ret R Q k n h pc Ls st := by
  exact Go.callS argsL rest q hd w1 w2 w3 w4 hpl hy hlen hst hent G W hsz hW hf hl hk hN hq (fun v h' hq' => by obtain ⟨e, hp⟩ := hq'; subst e; subst hp; exact g)
end
section
variable {y' : MethodName} {code' : ByteArray} {ml' : Nat} {ret' : Option FieldType} {R' : Room} {Ls' : Array Slot} {i : Nat}
theorem Go.callVI {a : Addr} {C : String} (argsL : List Value) (rest : List Value) (q : Nat) (hd : decode code pc = .ok (.invokevirtual i, 3)) (w1 : (Cond.methodLink y.cls i y').before a0 Z = true) (w1' : (Cond.declares y').before a0 Z = true) (w1s : (Cond.selects C y' y').before a0 Z = true) (w2 : (Cond.instanceMethod y').before a0 Z = true) (w3 : (Cond.initialized y'.cls).before a0 Z = true) (w4 : (Cond.code y' code' ml' ret').before a0 Z = true) (E : Exa Z h a C)
    (hpl : plainFor y' = true) (hy : y'.cls ≠ "java/lang/invoke/MethodHandle" ∧ y'.cls ≠ "java/lang/invoke/VarHandle") (hlen : ∀ sig, parseMethodDescriptor y'.desc = some sig → argsL.length = sig.parameters.length) (hst : st = argsL.reverse ++ .ref a :: rest) (hent : ∀ m, entryFrame m (.ref a :: argsL).toArray ml' = mkF m 0 Ls' [])
    (P' : Int32 → Heap → Prop) (G : Go l Z y' code' ml' ret' R' (QI P') 0 0 h 0 Ls' []) (W : Nat) (hsz : Ls.size = ml) (hW : (rest.map fun v => v.category).sum ≤ W) (hf : R'.frames + 1 ≤ R.frames) (hl : W + (ml' + 11) + R'.locals ≤ R.locals) (hk : k + R'.cells ≤ R.cells) (hN : n + R'.slots ≤ R.slots) (hq : pc + 3 = q)
    (g : ∀ (z : Int32) h', P' z h' → GoB wf l Z y code ml ret R Q (k + R'.cells) (n + R'.slots) h' q Ls (.int z :: rest)) : GoB wf l Z y code ml ret R Q k n h pc Ls st := by
  exact Go.callV argsL rest q hd w1 w1' w1s w2 w3 w4 E hpl hy hlen hst hent G W hsz hW hf hl hk hN hq (fun v h' hq' => by obtain ⟨z, e, hp⟩ := hq'; subst e; exact g z h' hp)
end
section
variable {y' : MethodName} {code' : ByteArray} {ml' : Nat} {ret' : Option FieldType} {R' : Room} {Ls' : Array Slot} {i : Nat}
theorem Go.callVIp {a : Addr} {C : String} (argsL : List Value) (rest : List Value) (q : Nat) (hd : decode code pc = .ok (.invokevirtual i, 3)) (w1 : (Cond.methodLink y.cls i y').before a0 Z = true) (w1' : (Cond.declares y').before a0 Z = true) (w1s : (Cond.selects C y' y').before a0 Z = true) (w2 : (Cond.instanceMethod y').before a0 Z = true) (w3 : (Cond.initialized y'.cls).before a0 Z = true) (w4 : (Cond.code y' code' ml' ret').before a0 Z = true) (E : Exa Z h a C)
    (hpl : plainFor y' = true) (hy : y'.cls ≠ "java/lang/invoke/MethodHandle" ∧ y'.cls ≠ "java/lang/invoke/VarHandle") (hlen : ∀ sig, parseMethodDescriptor y'.desc = some sig → argsL.length = sig.parameters.length) (hst : st = argsL.reverse ++ .ref a :: rest) (hent : ∀ m, entryFrame m (.ref a :: argsL).toArray ml' = mkF m 0 Ls' [])
    (F : Int32) (G : Go l Z y' code' ml' ret' R' (QI fun z h' => z = F ∧ h' = h) 0 0 h 0 Ls' []) (W : Nat) (hsz : Ls.size = ml) (hW : (rest.map fun v => v.category).sum ≤ W) (hf : R'.frames + 1 ≤ R.frames) (hl : W + (ml' + 11) + R'.locals ≤ R.locals) (hk : k + R'.cells ≤ R.cells) (hN : n + R'.slots ≤ R.slots) (hq : pc + 3 = q)
    (g : GoB wf l Z y code ml ret R Q (k + R'.cells) (n + R'.slots) h q Ls (.int F :: rest)) : GoB wf l Z y code ml ret R Q k n h pc Ls st := by
  exact Go.callV argsL rest q hd w1 w1' w1s w2 w3 w4 E hpl hy hlen hst hent G W hsz hW hf hl hk hN hq (fun v h' hq' => by obtain ⟨z, e, hp, hh⟩ := hq'; subst e; subst hh; rw [hp]; exact g)
end
section
variable {y' : MethodName} {code' : ByteArray} {ml' : Nat} {ret' : Option FieldType} {R' : Room} {Ls' : Array Slot} {i : Nat}
theorem Go.callVIe {a : Addr} {C : String} (argsL : List Value) (rest : List Value) (q : Nat) (hd : decode code pc = .ok (.invokevirtual i, 3)) (w1 : (Cond.methodLink y.cls i y').before a0 Z = true) (w1' : (Cond.declares y').before a0 Z = true) (w1s : (Cond.selects C y' y').before a0 Z = true) (w2 : (Cond.instanceMethod y').before a0 Z = true) (w3 : (Cond.initialized y'.cls).before a0 Z = true) (w4 : (Cond.code y' code' ml' ret').before a0 Z = true) (E : Exa Z h a C)
    (hpl : plainFor y' = true) (hy : y'.cls ≠ "java/lang/invoke/MethodHandle" ∧ y'.cls ≠ "java/lang/invoke/VarHandle") (hlen : ∀ sig, parseMethodDescriptor y'.desc = some sig → argsL.length = sig.parameters.length) (hst : st = argsL.reverse ++ .ref a :: rest) (hent : ∀ m, entryFrame m (.ref a :: argsL).toArray ml' = mkF m 0 Ls' [])
    (F : Int32) (P' : Heap → Prop) (G : Go l Z y' code' ml' ret' R' (QI fun z h' => z = F ∧ P' h') 0 0 h 0 Ls' []) (W : Nat) (hsz : Ls.size = ml) (hW : (rest.map fun v => v.category).sum ≤ W) (hf : R'.frames + 1 ≤ R.frames) (hl : W + (ml' + 11) + R'.locals ≤ R.locals) (hk : k + R'.cells ≤ R.cells) (hN : n + R'.slots ≤ R.slots) (hq : pc + 3 = q)
    (g : ∀ h', P' h' → GoB wf l Z y code ml ret R Q (k + R'.cells) (n + R'.slots) h' q Ls (.int F :: rest)) : GoB wf l Z y code ml ret R Q k n h pc Ls st := by
  exact Go.callV argsL rest q hd w1 w1' w1s w2 w3 w4 E hpl hy hlen hst hent G W hsz hW hf hl hk hN hq (fun v h' hq' => by obtain ⟨z, e, hp, hh⟩ := hq'; subst e; rw [hp]; exact g h' hh)
end
section
variable {y' : MethodName} {code' : ByteArray} {ml' : Nat} {ret' : Option FieldType} {R' : Room} {Ls' : Array Slot} {i : Nat}
theorem Go.callVJ {a : Addr} {C : String} (argsL : List Value) (rest : List Value) (q : Nat) (hd : decode code pc = .ok (.invokevirtual i, 3)) (w1 : (Cond.methodLink y.cls i y').before a0 Z = true) (w1' : (Cond.declares y').before a0 Z = true) (w1s : (Cond.selects C y' y').before a0 Z = true) (w2 : (Cond.instanceMethod y').before a0 Z = true) (w3 : (Cond.initialized y'.cls).before a0 Z = true) (w4 : (Cond.code y' code' ml' ret').before a0 Z = true) (E : Exa Z h a C)
    (hpl : plainFor y' = true) (hy : y'.cls ≠ "java/lang/invoke/MethodHandle" ∧ y'.cls ≠ "java/lang/invoke/VarHandle") (hlen : ∀ sig, parseMethodDescriptor y'.desc = some sig → argsL.length = sig.parameters.length) (hst : st = argsL.reverse ++ .ref a :: rest) (hent : ∀ m, entryFrame m (.ref a :: argsL).toArray ml' = mkF m 0 Ls' [])
    (P' : Int64 → Heap → Prop) (G : Go l Z y' code' ml' ret' R' (QJ P') 0 0 h 0 Ls' []) (W : Nat) (hsz : Ls.size = ml) (hW : (rest.map fun v => v.category).sum ≤ W) (hf : R'.frames + 1 ≤ R.frames) (hl : W + (ml' + 11) + R'.locals ≤ R.locals) (hk : k + R'.cells ≤ R.cells) (hN : n + R'.slots ≤ R.slots) (hq : pc + 3 = q)
    (g : ∀ (z : Int64) h', P' z h' → GoB wf l Z y code ml ret R Q (k + R'.cells) (n + R'.slots) h' q Ls (.long z :: rest)) : GoB wf l Z y code ml ret R Q k n h pc Ls st := by
  exact Go.callV argsL rest q hd w1 w1' w1s w2 w3 w4 E hpl hy hlen hst hent G W hsz hW hf hl hk hN hq (fun v h' hq' => by obtain ⟨z, e, hp⟩ := hq'; subst e; exact g z h' hp)
end
section
variable {y' : MethodName} {code' : ByteArray} {ml' : Nat} {ret' : Option FieldType} {R' : Room} {Ls' : Array Slot} {i : Nat}
theorem Go.callVJp {a : Addr} {C : String} (argsL : List Value) (rest : List Value) (q : Nat) (hd : decode code pc = .ok (.invokevirtual i, 3)) (w1 : (Cond.methodLink y.cls i y').before a0 Z = true) (w1' : (Cond.declares y').before a0 Z = true) (w1s : (Cond.selects C y' y').before a0 Z = true) (w2 : (Cond.instanceMethod y').before a0 Z = true) (w3 : (Cond.initialized y'.cls).before a0 Z = true) (w4 : (Cond.code y' code' ml' ret').before a0 Z = true) (E : Exa Z h a C)
    (hpl : plainFor y' = true) (hy : y'.cls ≠ "java/lang/invoke/MethodHandle" ∧ y'.cls ≠ "java/lang/invoke/VarHandle") (hlen : ∀ sig, parseMethodDescriptor y'.desc = some sig → argsL.length = sig.parameters.length) (hst : st = argsL.reverse ++ .ref a :: rest) (hent : ∀ m, entryFrame m (.ref a :: argsL).toArray ml' = mkF m 0 Ls' [])
    (F : Int64) (G : Go l Z y' code' ml' ret' R' (QJ fun z h' => z = F ∧ h' = h) 0 0 h 0 Ls' []) (W : Nat) (hsz : Ls.size = ml) (hW : (rest.map fun v => v.category).sum ≤ W) (hf : R'.frames + 1 ≤ R.frames) (hl : W + (ml' + 11) + R'.locals ≤ R.locals) (hk : k + R'.cells ≤ R.cells) (hN : n + R'.slots ≤ R.slots) (hq : pc + 3 = q)
    (g : GoB wf l Z y code ml ret R Q (k + R'.cells) (n + R'.slots) h q Ls (.long F :: rest)) : GoB wf l Z y code ml ret R Q k n h pc Ls st := by
  exact Go.callV argsL rest q hd w1 w1' w1s w2 w3 w4 E hpl hy hlen hst hent G W hsz hW hf hl hk hN hq (fun v h' hq' => by obtain ⟨z, e, hp, hh⟩ := hq'; subst e; subst hh; rw [hp]; exact g)
end
section
variable {y' : MethodName} {code' : ByteArray} {ml' : Nat} {ret' : Option FieldType} {R' : Room} {Ls' : Array Slot} {i : Nat}
theorem Go.callVJe {a : Addr} {C : String} (argsL : List Value) (rest : List Value) (q : Nat) (hd : decode code pc = .ok (.invokevirtual i, 3)) (w1 : (Cond.methodLink y.cls i y').before a0 Z = true) (w1' : (Cond.declares y').before a0 Z = true) (w1s : (Cond.selects C y' y').before a0 Z = true) (w2 : (Cond.instanceMethod y').before a0 Z = true) (w3 : (Cond.initialized y'.cls).before a0 Z = true) (w4 : (Cond.code y' code' ml' ret').before a0 Z = true) (E : Exa Z h a C)
    (hpl : plainFor y' = true) (hy : y'.cls ≠ "java/lang/invoke/MethodHandle" ∧ y'.cls ≠ "java/lang/invoke/VarHandle") (hlen : ∀ sig, parseMethodDescriptor y'.desc = some sig → argsL.length = sig.parameters.length) (hst : st = argsL.reverse ++ .ref a :: rest) (hent : ∀ m, entryFrame m (.ref a :: argsL).toArray ml' = mkF m 0 Ls' [])
    (F : Int64) (P' : Heap → Prop) (G : Go l Z y' code' ml' ret' R' (QJ fun z h' => z = F ∧ P' h') 0 0 h 0 Ls' []) (W : Nat) (hsz : Ls.size = ml) (hW : (rest.map fun v => v.category).sum ≤ W) (hf : R'.frames + 1 ≤ R.frames) (hl : W + (ml' + 11) + R'.locals ≤ R.locals) (hk : k + R'.cells ≤ R.cells) (hN : n + R'.slots ≤ R.slots) (hq : pc + 3 = q)
    (g : ∀ h', P' h' → GoB wf l Z y code ml ret R Q (k + R'.cells) (n + R'.slots) h' q Ls (.long F :: rest)) : GoB wf l Z y code ml ret R Q k n h pc Ls st := by
  exact Go.callV argsL rest q hd w1 w1' w1s w2 w3 w4 E hpl hy hlen hst hent G W hsz hW hf hl hk hN hq (fun v h' hq' => by obtain ⟨z, e, hp, hh⟩ := hq'; subst e; rw [hp]; exact g h' hh)
end
section
variable {y' : MethodName} {code' : ByteArray} {ml' : Nat} {ret' : Option FieldType} {R' : Room} {Ls' : Array Slot} {i : Nat}
theorem Go.callVR {a : Addr} {C : String} (argsL : List Value) (rest : List Value) (q : Nat) (hd : decode code pc = .ok (.invokevirtual i, 3)) (w1 : (Cond.methodLink y.cls i y').before a0 Z = true) (w1' : (Cond.declares y').before a0 Z = true) (w1s : (Cond.selects C y' y').before a0 Z = true) (w2 : (Cond.instanceMethod y').before a0 Z = true) (w3 : (Cond.initialized y'.cls).before a0 Z = true) (w4 : (Cond.code y' code' ml' ret').before a0 Z = true) (E : Exa Z h a C)
    (hpl : plainFor y' = true) (hy : y'.cls ≠ "java/lang/invoke/MethodHandle" ∧ y'.cls ≠ "java/lang/invoke/VarHandle") (hlen : ∀ sig, parseMethodDescriptor y'.desc = some sig → argsL.length = sig.parameters.length) (hst : st = argsL.reverse ++ .ref a :: rest) (hent : ∀ m, entryFrame m (.ref a :: argsL).toArray ml' = mkF m 0 Ls' [])
    (P' : Value → Heap → Prop) (G : Go l Z y' code' ml' ret' R' (QR P') 0 0 h 0 Ls' []) (W : Nat) (hsz : Ls.size = ml) (hW : (rest.map fun v => v.category).sum ≤ W) (hf : R'.frames + 1 ≤ R.frames) (hl : W + (ml' + 11) + R'.locals ≤ R.locals) (hk : k + R'.cells ≤ R.cells) (hN : n + R'.slots ≤ R.slots) (hq : pc + 3 = q)
    (g : ∀ (z : Value) h', P' z h' → GoB wf l Z y code ml ret R Q (k + R'.cells) (n + R'.slots) h' q Ls ( z :: rest)) : GoB wf l Z y code ml ret R Q k n h pc Ls st := by
  exact Go.callV argsL rest q hd w1 w1' w1s w2 w3 w4 E hpl hy hlen hst hent G W hsz hW hf hl hk hN hq (fun v h' hq' => by obtain ⟨z, e, hp⟩ := hq'; subst e; exact g z h' hp)
end
section
variable {y' : MethodName} {code' : ByteArray} {ml' : Nat} {ret' : Option FieldType} {R' : Room} {Ls' : Array Slot} {i : Nat}
theorem Go.callVRp {a : Addr} {C : String} (argsL : List Value) (rest : List Value) (q : Nat) (hd : decode code pc = .ok (.invokevirtual i, 3)) (w1 : (Cond.methodLink y.cls i y').before a0 Z = true) (w1' : (Cond.declares y').before a0 Z = true) (w1s : (Cond.selects C y' y').before a0 Z = true) (w2 : (Cond.instanceMethod y').before a0 Z = true) (w3 : (Cond.initialized y'.cls).before a0 Z = true) (w4 : (Cond.code y' code' ml' ret').before a0 Z = true) (E : Exa Z h a C)
    (hpl : plainFor y' = true) (hy : y'.cls ≠ "java/lang/invoke/MethodHandle" ∧ y'.cls ≠ "java/lang/invoke/VarHandle") (hlen : ∀ sig, parseMethodDescriptor y'.desc = some sig → argsL.length = sig.parameters.length) (hst : st = argsL.reverse ++ .ref a :: rest) (hent : ∀ m, entryFrame m (.ref a :: argsL).toArray ml' = mkF m 0 Ls' [])
    (F : Value) (G : Go l Z y' code' ml' ret' R' (QR fun z h' => z = F ∧ h' = h) 0 0 h 0 Ls' []) (W : Nat) (hsz : Ls.size = ml) (hW : (rest.map fun v => v.category).sum ≤ W) (hf : R'.frames + 1 ≤ R.frames) (hl : W + (ml' + 11) + R'.locals ≤ R.locals) (hk : k + R'.cells ≤ R.cells) (hN : n + R'.slots ≤ R.slots) (hq : pc + 3 = q)
    (g : GoB wf l Z y code ml ret R Q (k + R'.cells) (n + R'.slots) h q Ls ( F :: rest)) : GoB wf l Z y code ml ret R Q k n h pc Ls st := by
  exact Go.callV argsL rest q hd w1 w1' w1s w2 w3 w4 E hpl hy hlen hst hent G W hsz hW hf hl hk hN hq (fun v h' hq' => by obtain ⟨z, e, hp, hh⟩ := hq'; subst e; subst hh; rw [hp]; exact g)
end
section
variable {y' : MethodName} {code' : ByteArray} {ml' : Nat} {ret' : Option FieldType} {R' : Room} {Ls' : Array Slot} {i : Nat}
theorem Go.callVRe {a : Addr} {C : String} (argsL : List Value) (rest : List Value) (q : Nat) (hd : decode code pc = .ok (.invokevirtual i, 3)) (w1 : (Cond.methodLink y.cls i y').before a0 Z = true) (w1' : (Cond.declares y').before a0 Z = true) (w1s : (Cond.selects C y' y').before a0 Z = true) (w2 : (Cond.instanceMethod y').before a0 Z = true) (w3 : (Cond.initialized y'.cls).before a0 Z = true) (w4 : (Cond.code y' code' ml' ret').before a0 Z = true) (E : Exa Z h a C)
    (hpl : plainFor y' = true) (hy : y'.cls ≠ "java/lang/invoke/MethodHandle" ∧ y'.cls ≠ "java/lang/invoke/VarHandle") (hlen : ∀ sig, parseMethodDescriptor y'.desc = some sig → argsL.length = sig.parameters.length) (hst : st = argsL.reverse ++ .ref a :: rest) (hent : ∀ m, entryFrame m (.ref a :: argsL).toArray ml' = mkF m 0 Ls' [])
    (F : Value) (P' : Heap → Prop) (G : Go l Z y' code' ml' ret' R' (QR fun z h' => z = F ∧ P' h') 0 0 h 0 Ls' []) (W : Nat) (hsz : Ls.size = ml) (hW : (rest.map fun v => v.category).sum ≤ W) (hf : R'.frames + 1 ≤ R.frames) (hl : W + (ml' + 11) + R'.locals ≤ R.locals) (hk : k + R'.cells ≤ R.cells) (hN : n + R'.slots ≤ R.slots) (hq : pc + 3 = q)
    (g : ∀ h', P' h' → GoB wf l Z y code ml ret R Q (k + R'.cells) (n + R'.slots) h' q Ls ( F :: rest)) : GoB wf l Z y code ml ret R Q k n h pc Ls st := by
  exact Go.callV argsL rest q hd w1 w1' w1s w2 w3 w4 E hpl hy hlen hst hent G W hsz hW hf hl hk hN hq (fun v h' hq' => by obtain ⟨z, e, hp, hh⟩ := hq'; subst e; rw [hp]; exact g h' hh)
end
section
variable {y' : MethodName} {code' : ByteArray} {ml' : Nat} {ret' : Option FieldType} {R' : Room} {Ls' : Array Slot} {i : Nat}
theorem Go.callVV {a : Addr} {C : String} (argsL : List Value) (rest : List Value) (q : Nat) (hd : decode code pc = .ok (.invokevirtual i, 3)) (w1 : (Cond.methodLink y.cls i y').before a0 Z = true) (w1' : (Cond.declares y').before a0 Z = true) (w1s : (Cond.selects C y' y').before a0 Z = true) (w2 : (Cond.instanceMethod y').before a0 Z = true) (w3 : (Cond.initialized y'.cls).before a0 Z = true) (w4 : (Cond.code y' code' ml' ret').before a0 Z = true) (E : Exa Z h a C)
    (hpl : plainFor y' = true) (hy : y'.cls ≠ "java/lang/invoke/MethodHandle" ∧ y'.cls ≠ "java/lang/invoke/VarHandle") (hlen : ∀ sig, parseMethodDescriptor y'.desc = some sig → argsL.length = sig.parameters.length) (hst : st = argsL.reverse ++ .ref a :: rest) (hent : ∀ m, entryFrame m (.ref a :: argsL).toArray ml' = mkF m 0 Ls' [])
    (P' : Heap → Prop) (G : Go l Z y' code' ml' ret' R' (QV P') 0 0 h 0 Ls' []) (W : Nat) (hsz : Ls.size = ml) (hW : (rest.map fun v => v.category).sum ≤ W) (hf : R'.frames + 1 ≤ R.frames) (hl : W + (ml' + 11) + R'.locals ≤ R.locals) (hk : k + R'.cells ≤ R.cells) (hN : n + R'.slots ≤ R.slots) (hq : pc + 3 = q)
    (g : ∀ h', P' h' → GoB wf l Z y code ml ret R Q (k + R'.cells) (n + R'.slots) h' q Ls rest) : GoB wf l Z y code ml ret R Q k n h pc Ls st := by
  exact Go.callV argsL rest q hd w1 w1' w1s w2 w3 w4 E hpl hy hlen hst hent G W hsz hW hf hl hk hN hq (fun v h' hq' => by obtain ⟨e, hp⟩ := hq'; subst e; exact g h' hp)
end
section
variable {y' : MethodName} {code' : ByteArray} {ml' : Nat} {ret' : Option FieldType} {R' : Room} {Ls' : Array Slot} {i : Nat}
theorem Go.callVVp {a : Addr} {C : String} (argsL : List Value) (rest : List Value) (q : Nat) (hd : decode code pc = .ok (.invokevirtual i, 3)) (w1 : (Cond.methodLink y.cls i y').before a0 Z = true) (w1' : (Cond.declares y').before a0 Z = true) (w1s : (Cond.selects C y' y').before a0 Z = true) (w2 : (Cond.instanceMethod y').before a0 Z = true) (w3 : (Cond.initialized y'.cls).before a0 Z = true) (w4 : (Cond.code y' code' ml' ret').before a0 Z = true) (E : Exa Z h a C)
    (hpl : plainFor y' = true) (hy : y'.cls ≠ "java/lang/invoke/MethodHandle" ∧ y'.cls ≠ "java/lang/invoke/VarHandle") (hlen : ∀ sig, parseMethodDescriptor y'.desc = some sig → argsL.length = sig.parameters.length) (hst : st = argsL.reverse ++ .ref a :: rest) (hent : ∀ m, entryFrame m (.ref a :: argsL).toArray ml' = mkF m 0 Ls' [])
    (G : Go l Z y' code' ml' ret' R' (QV fun h' => h' = h) 0 0 h 0 Ls' []) (W : Nat) (hsz : Ls.size = ml) (hW : (rest.map fun v => v.category).sum ≤ W) (hf : R'.frames + 1 ≤ R.frames) (hl : W + (ml' + 11) + R'.locals ≤ R.locals) (hk : k + R'.cells ≤ R.cells) (hN : n + R'.slots ≤ R.slots) (hq : pc + 3 = q)
    (g : GoB wf l Z y code ml ret R Q (k + R'.cells) (n + R'.slots) h q Ls rest) : GoB wf l Z y code ml ret R Q k n h pc Ls st := by
  exact Go.callV argsL rest q hd w1 w1' w1s w2 w3 w4 E hpl hy hlen hst hent G W hsz hW hf hl hk hN hq (fun v h' hq' => by obtain ⟨e, hp⟩ := hq'; subst e; subst hp; exact g)
end



theorem own_eqf {args : Array Value} {s : State} {t : Term} {O n d : String} {v : Int32} {x : Addr} (ht : t.eval args s none [] s = some (.ref x)) (h : (Jvm.Cond.eq (Term.field t O n d) (Term.int v)).value args s none s [] = some true) : Fld s s.heap x O n d (.int v) := by
  apply Fld.start
  have e := fld_at (C := O) (n := n) (dd := d) ht
  have i : (Term.int v).eval args s none [] s = some (.int v) := Term.int_eval v
  simp only [Jvm.Cond.value, e, i] at h
  cases q : s.fieldOf? x O n d with
  | none => rw [q] at h; simp at h
  | some w =>
    rw [q] at h
    cases w <;> simp at h
    rw [h]
/-- an array of ints, shorts, chars, bytes or booleans, with its elements -/
def Ari (Z : State) (h : Heap) (a : Addr) (ty : FieldType) (xs : List Int32) : Prop := ∃ c : Cell, Arr Z h a c ty ∧ c.slots.toList = xs.map Value.int ∧ xs.length < 2147483648
def Arj (Z : State) (h : Heap) (a : Addr) (xs : List Int64) : Prop := ∃ c : Cell, Arr Z h a c .long ∧ c.slots.toList = xs.map Value.long ∧ xs.length < 2147483648
theorem Ari.lt {a : Addr} {ty : FieldType} {xs : List Int32} (F : Ari Z h a ty xs) : a < h.size := by obtain ⟨c, A, -⟩ := F; exact A.lt
theorem Arj.lt {a : Addr} {xs : List Int64} (F : Arj Z h a xs) : a < h.size := by obtain ⟨c, A, -⟩ := F; exact A.lt
theorem Ari.ext {h' : Heap} {a : Addr} {ty : FieldType} {xs : List Int32} (F : Ari Z h a ty xs) (E : Ext h h') : Ari Z h' a ty xs := by obtain ⟨c, A, r⟩ := F; exact ⟨c, A.ext E, r⟩
theorem Arj.ext {h' : Heap} {a : Addr} {xs : List Int64} (F : Arj Z h a xs) (E : Ext h h') : Arj Z h' a xs := by obtain ⟨c, A, r⟩ := F; exact ⟨c, A.ext E, r⟩
theorem Ari.other {h' : Heap} {a b : Addr} {sl : Nat} {v : Value} {ty : FieldType} {xs : List Int32} (F : Ari Z h b ty xs) (W : Wr h h' a sl v) (q : b ≠ a) : Ari Z h' b ty xs := by obtain ⟨c, A, r⟩ := F; exact ⟨c, A.other W q, r⟩
theorem Arj.other {h' : Heap} {a b : Addr} {sl : Nat} {v : Value} {xs : List Int64} (F : Arj Z h b xs) (W : Wr h h' a sl v) (q : b ≠ a) : Arj Z h' b xs := by obtain ⟨c, A, r⟩ := F; exact ⟨c, A.other W q, r⟩
theorem Ari.keep {h' : Heap} {a : Addr} {ws : List Addr} {ty : FieldType} {xs : List Int32} (F : Ari Z h a ty xs) (K : Keep h h' ws) (q : a ∉ ws) : Ari Z h' a ty xs := by obtain ⟨c, A, r⟩ := F; exact ⟨c, ⟨K.2.1 _ _ A.1 q, A.2⟩, r⟩
theorem Arj.keep {h' : Heap} {a : Addr} {ws : List Addr} {xs : List Int64} (F : Arj Z h a xs) (K : Keep h h' ws) (q : a ∉ ws) : Arj Z h' a xs := by obtain ⟨c, A, r⟩ := F; exact ⟨c, ⟨K.2.1 _ _ A.1 q, A.2⟩, r⟩
theorem own_size {c : Cell} {α : Type} {f : α → Value} {xs : List α} (e : c.slots.toList = xs.map f) : c.slots.size = xs.length := by
  have q := congrArg List.length e
  simpa using q
theorem own_at {c : Cell} {α : Type} {f : α → Value} {xs : List α} (e : c.slots.toList = xs.map f) {i : Nat} {x : α} (hx : xs[i]? = some x) : c.slots[i]? = some (f x) := by
  have q : c.slots.toList[i]? = some (f x) := by rw [e, List.getElem?_map, hx]; rfl
  simpa using q
theorem own_in {c : Cell} {α : Type} {f : α → Value} {xs : List α} (e : c.slots.toList = xs.map f) {i : Nat} {j : Int32} (hj : ¬ j < 0) (hi : j.toNatClampNeg = i) (hx : i < xs.length) : ¬ (j < 0 ∨ c.slots.size ≤ j.toNatClampNeg) := by
  rw [own_size e, hi]; intro q; rcases q with q | q
  · exact hj q
  · exact absurd hx (Nat.not_lt.mpr q)
theorem own_set {c : Cell} {α : Type} {f : α → Value} {xs : List α} (e : c.slots.toList = xs.map f) (i : Nat) (x : α) : (c.setSlot i (f x)).slots.toList = (xs.set i x).map f := by
  show (c.slots.setIfInBounds i (f x)).toList = _
  rw [Array.toList_setIfInBounds, e, List.map_set]
theorem Ari.set {h' : Heap} {a : Addr} {ty : FieldType} {xs xs' : List Int32} {i : Nat} {x : Int32} (F : Ari Z h a ty xs) (W : Wr h h' a i (.int x)) (e : xs.set i x = xs') : Ari Z h' a ty xs' := by
  subst e
  obtain ⟨c, A, r, r2⟩ := F
  exact ⟨_, A.same W, own_set r i x, by rw [List.length_set]; exact r2⟩
theorem Arj.set {h' : Heap} {a : Addr} {xs xs' : List Int64} {i : Nat} {x : Int64} (F : Arj Z h a xs) (W : Wr h h' a i (.long x)) (e : xs.set i x = xs') : Arj Z h' a xs' := by
  subst e
  obtain ⟨c, A, r, r2⟩ := F
  exact ⟨_, A.same W, own_set r i x, by rw [List.length_set]; exact r2⟩

theorem Go.iaload {a : Addr} {j x : Int32} {xs : List Int32} (i : Nat) (q : Nat) (hd : decode code pc = .ok (.iaload, 1)) (A : Ari Z h a .int xs) (hj : ¬ j < 0) (hi : j.toNatClampNeg = i) (hx : xs[i]? = some x) (hq : pc + 1 = q) (g : GoB wf l Z y code ml ret R Q k n h q Ls (.int x :: st)) : GoB wf l Z y code ml ret R Q k n h pc Ls (.int j :: .ref a :: st) := by
  subst hq hi
  obtain ⟨cl, A, r, r2⟩ := A
  have hv := own_at r hx
  have hin := own_in r hj rfl (List.getElem?_eq_some_iff.mp hx).1
  exact g.pure fun p e s m args below meth c K T L k' n' X hT t rr => X.iaload K.1 (cell := cl) (v := .int x) (by rw [hT]; exact A.1) (State.isArrayOf_alike K.2.2.1.alike A.2.1) A.2.2 hin hv (g := mkF m pc Ls (.int j :: .ref a :: st)) rfl rfl (hb K.2.1 hd) t rr
theorem Go.baload {a : Addr} {j x : Int32} {xs : List Int32} (i : Nat) (q : Nat) (hd : decode code pc = .ok (.baload, 1)) (A : Ari Z h a .byte xs) (hj : ¬ j < 0) (hi : j.toNatClampNeg = i) (hx : xs[i]? = some x) (hq : pc + 1 = q) (g : GoB wf l Z y code ml ret R Q k n h q Ls (.int x :: st)) : GoB wf l Z y code ml ret R Q k n h pc Ls (.int j :: .ref a :: st) := by
  subst hq hi
  obtain ⟨cl, A, r, r2⟩ := A
  have hv := own_at r hx
  have hin := own_in r hj rfl (List.getElem?_eq_some_iff.mp hx).1
  exact g.pure fun p e s m args below meth c K T L k' n' X hT t rr => X.baloadBytes K.1 (cell := cl) (v := .int x) (by rw [hT]; exact A.1) (State.isArrayOf_alike K.2.2.1.alike A.2.1) A.2.2 hin hv (g := mkF m pc Ls (.int j :: .ref a :: st)) rfl rfl (hb K.2.1 hd) t rr
theorem Go.zaload {a : Addr} {j x : Int32} {xs : List Int32} (i : Nat) (q : Nat) (hd : decode code pc = .ok (.baload, 1)) (A : Ari Z h a .boolean xs) (hj : ¬ j < 0) (hi : j.toNatClampNeg = i) (hx : xs[i]? = some x) (hq : pc + 1 = q) (g : GoB wf l Z y code ml ret R Q k n h q Ls (.int x :: st)) : GoB wf l Z y code ml ret R Q k n h pc Ls (.int j :: .ref a :: st) := by
  subst hq hi
  obtain ⟨cl, A, r, r2⟩ := A
  have hv := own_at r hx
  have hin := own_in r hj rfl (List.getElem?_eq_some_iff.mp hx).1
  exact g.pure fun p e s m args below meth c K T L k' n' X hT t rr => X.baloadBooleans K.1 (cell := cl) (v := .int x) (by rw [hT]; exact A.1) (State.isArrayOf_alike K.2.2.1.alike A.2.1) A.2.2 hin hv (g := mkF m pc Ls (.int j :: .ref a :: st)) rfl rfl (hb K.2.1 hd) t rr
theorem Go.caload {a : Addr} {j x : Int32} {xs : List Int32} (i : Nat) (q : Nat) (hd : decode code pc = .ok (.caload, 1)) (A : Ari Z h a .char xs) (hj : ¬ j < 0) (hi : j.toNatClampNeg = i) (hx : xs[i]? = some x) (hq : pc + 1 = q) (g : GoB wf l Z y code ml ret R Q k n h q Ls (.int x :: st)) : GoB wf l Z y code ml ret R Q k n h pc Ls (.int j :: .ref a :: st) := by
  subst hq hi
  obtain ⟨cl, A, r, r2⟩ := A
  have hv := own_at r hx
  have hin := own_in r hj rfl (List.getElem?_eq_some_iff.mp hx).1
  exact g.pure fun p e s m args below meth c K T L k' n' X hT t rr => X.caload K.1 (cell := cl) (v := .int x) (by rw [hT]; exact A.1) (State.isArrayOf_alike K.2.2.1.alike A.2.1) A.2.2 hin hv (g := mkF m pc Ls (.int j :: .ref a :: st)) rfl rfl (hb K.2.1 hd) t rr
theorem Go.laload {a : Addr} {j : Int32} {x : Int64} {xs : List Int64} (i : Nat) (q : Nat) (hd : decode code pc = .ok (.laload, 1)) (A : Arj Z h a xs) (hj : ¬ j < 0) (hi : j.toNatClampNeg = i) (hx : xs[i]? = some x) (hq : pc + 1 = q) (g : GoB wf l Z y code ml ret R Q k n h q Ls (.long x :: st)) : GoB wf l Z y code ml ret R Q k n h pc Ls (.int j :: .ref a :: st) := by
  subst hq hi
  obtain ⟨cl, A, r, r2⟩ := A
  have hv := own_at r hx
  have hin := own_in r hj rfl (List.getElem?_eq_some_iff.mp hx).1
  exact g.pure fun p e s m args below meth c K T L k' n' X hT t rr => X.laload K.1 (cell := cl) (v := .long x) (by rw [hT]; exact A.1) (State.isArrayOf_alike K.2.2.1.alike A.2.1) A.2.2 hin hv (g := mkF m pc Ls (.int j :: .ref a :: st)) rfl rfl (hb K.2.1 hd) t rr
theorem Go.arraylength {a : Addr} {ty : FieldType} {xs : List Int32} {z : Int32} (q : Nat) (hd : decode code pc = .ok (.arraylength, 1)) (A : Ari Z h a ty xs) (hz : xs.length.toInt32 = z) (hq : pc + 1 = q) (g : GoB wf l Z y code ml ret R Q k n h q Ls (.int z :: st)) : GoB wf l Z y code ml ret R Q k n h pc Ls (.ref a :: st) := by
  subst hq
  obtain ⟨cl, A, r, r2⟩ := A
  subst hz
  exact g.pure fun p e s m args below meth c K T L k' n' X hT t rr => X.arraylength K.1 (cell := cl) (by rw [hT]; exact A.1) (State.isArrayOf_alike K.2.2.1.alike A.2.1) (g := mkF m pc Ls (.ref a :: st)) rfl rfl (hb K.2.1 hd) t (by rw [own_size r]; exact rr)
theorem Go.arraylengthJ {a : Addr} {xs : List Int64} {z : Int32} (q : Nat) (hd : decode code pc = .ok (.arraylength, 1)) (A : Arj Z h a xs) (hz : xs.length.toInt32 = z) (hq : pc + 1 = q) (g : GoB wf l Z y code ml ret R Q k n h q Ls (.int z :: st)) : GoB wf l Z y code ml ret R Q k n h pc Ls (.ref a :: st) := by
  subst hq
  obtain ⟨cl, A, r, r2⟩ := A
  subst hz
  exact g.pure fun p e s m args below meth c K T L k' n' X hT t rr => X.arraylength K.1 (cell := cl) (by rw [hT]; exact A.1) (State.isArrayOf_alike K.2.2.1.alike A.2.1) (g := mkF m pc Ls (.ref a :: st)) rfl rfl (hb K.2.1 hd) t (by rw [own_size r]; exact rr)
theorem Go.iastore {a : Addr} {j x : Int32} {xs : List Int32} (i : Nat) (xs' : List Int32) (q : Nat) (hd : decode code pc = .ok (.iastore, 1)) (A : Ari Z h a .int xs) (hj : ¬ j < 0) (hi : j.toNatClampNeg = i) (hx : i < xs.length) (he : xs.set i (x) = xs') (hge : Z.heap.size ≤ a) (hq : pc + 1 = q)
    (g : ∀ h', Wr h h' a i (.int (x)) → Ari Z h' a .int xs' → GoB wf l Z y code ml ret R Q k n h' q Ls st) : GoB wf l Z y code ml ret R Q k n h pc Ls (.int x :: .int j :: .ref a :: st) := by
  subst hq hi
  refine GoB.move (P := fun h' => Wr h h' a j.toNatClampNeg (.int (x))) (kk := k) (nn := n) (fun h' W => g h' W (A.set W he)) ?_
  obtain ⟨cl, A, r, r2⟩ := A
  intro p e s m args below meth c K T L k' n' X h1 h2 N hT
  obtain ⟨T', h', X', e', W', s'⟩ := stI X K.1 K.2.2.1 hT A (own_in r hj rfl hx) (g := mkF m pc Ls (.int x :: .int j :: .ref a :: st)) rfl rfl (hb K.2.1 hd)
  exact ⟨T', _, k', n', X', h1, h2, Fr.snoc X' N hge, e' ▸ W', s'⟩
theorem Go.bastore {a : Addr} {j x : Int32} {xs : List Int32} (i : Nat) (xs' : List Int32) (q : Nat) (hd : decode code pc = .ok (.bastore, 1)) (A : Ari Z h a .byte xs) (hj : ¬ j < 0) (hi : j.toNatClampNeg = i) (hx : i < xs.length) (he : xs.set i (nar .byte x) = xs') (hge : Z.heap.size ≤ a) (hq : pc + 1 = q)
    (g : ∀ h', Wr h h' a i (.int (nar .byte x)) → Ari Z h' a .byte xs' → GoB wf l Z y code ml ret R Q k n h' q Ls st) : GoB wf l Z y code ml ret R Q k n h pc Ls (.int x :: .int j :: .ref a :: st) := by
  subst hq hi
  refine GoB.move (P := fun h' => Wr h h' a j.toNatClampNeg (.int (nar .byte x))) (kk := k) (nn := n) (fun h' W => g h' W (A.set W he)) ?_
  obtain ⟨cl, A, r, r2⟩ := A
  intro p e s m args below meth c K T L k' n' X h1 h2 N hT
  obtain ⟨T', h', X', e', W', s'⟩ := stB X K.1 K.2.2.1 hT A (own_in r hj rfl hx) (g := mkF m pc Ls (.int x :: .int j :: .ref a :: st)) rfl rfl (hb K.2.1 hd)
  exact ⟨T', _, k', n', X', h1, h2, Fr.snoc X' N hge, e' ▸ W', s'⟩
theorem Go.zastore {a : Addr} {j x : Int32} {xs : List Int32} (i : Nat) (xs' : List Int32) (q : Nat) (hd : decode code pc = .ok (.bastore, 1)) (A : Ari Z h a .boolean xs) (hj : ¬ j < 0) (hi : j.toNatClampNeg = i) (hx : i < xs.length) (he : xs.set i (nar .boolean x) = xs') (hge : Z.heap.size ≤ a) (hq : pc + 1 = q)
    (g : ∀ h', Wr h h' a i (.int (nar .boolean x)) → Ari Z h' a .boolean xs' → GoB wf l Z y code ml ret R Q k n h' q Ls st) : GoB wf l Z y code ml ret R Q k n h pc Ls (.int x :: .int j :: .ref a :: st) := by
  subst hq hi
  refine GoB.move (P := fun h' => Wr h h' a j.toNatClampNeg (.int (nar .boolean x))) (kk := k) (nn := n) (fun h' W => g h' W (A.set W he)) ?_
  obtain ⟨cl, A, r, r2⟩ := A
  intro p e s m args below meth c K T L k' n' X h1 h2 N hT
  obtain ⟨T', h', X', e', W', s'⟩ := stZ X K.1 K.2.2.1 hT A (own_in r hj rfl hx) (g := mkF m pc Ls (.int x :: .int j :: .ref a :: st)) rfl rfl (hb K.2.1 hd)
  exact ⟨T', _, k', n', X', h1, h2, Fr.snoc X' N hge, e' ▸ W', s'⟩
theorem Go.castore {a : Addr} {j x : Int32} {xs : List Int32} (i : Nat) (xs' : List Int32) (q : Nat) (hd : decode code pc = .ok (.castore, 1)) (A : Ari Z h a .char xs) (hj : ¬ j < 0) (hi : j.toNatClampNeg = i) (hx : i < xs.length) (he : xs.set i (nar .char x) = xs') (hge : Z.heap.size ≤ a) (hq : pc + 1 = q)
    (g : ∀ h', Wr h h' a i (.int (nar .char x)) → Ari Z h' a .char xs' → GoB wf l Z y code ml ret R Q k n h' q Ls st) : GoB wf l Z y code ml ret R Q k n h pc Ls (.int x :: .int j :: .ref a :: st) := by
  subst hq hi
  refine GoB.move (P := fun h' => Wr h h' a j.toNatClampNeg (.int (nar .char x))) (kk := k) (nn := n) (fun h' W => g h' W (A.set W he)) ?_
  obtain ⟨cl, A, r, r2⟩ := A
  intro p e s m args below meth c K T L k' n' X h1 h2 N hT
  obtain ⟨T', h', X', e', W', s'⟩ := stC X K.1 K.2.2.1 hT A (own_in r hj rfl hx) (g := mkF m pc Ls (.int x :: .int j :: .ref a :: st)) rfl rfl (hb K.2.1 hd)
  exact ⟨T', _, k', n', X', h1, h2, Fr.snoc X' N hge, e' ▸ W', s'⟩
theorem Go.lastore {a : Addr} {j : Int32} {x : Int64} {xs : List Int64} (i : Nat) (xs' : List Int64) (q : Nat) (hd : decode code pc = .ok (.lastore, 1)) (A : Arj Z h a xs) (hj : ¬ j < 0) (hi : j.toNatClampNeg = i) (hx : i < xs.length) (he : xs.set i x = xs') (hge : Z.heap.size ≤ a) (hq : pc + 1 = q)
    (g : ∀ h', Wr h h' a i (.long x) → Arj Z h' a xs' → GoB wf l Z y code ml ret R Q k n h' q Ls st) : GoB wf l Z y code ml ret R Q k n h pc Ls (.long x :: .int j :: .ref a :: st) := by
  subst hq hi
  refine GoB.move (P := fun h' => Wr h h' a j.toNatClampNeg (.long x)) (kk := k) (nn := n) (fun h' W => g h' W (A.set W he)) ?_
  obtain ⟨cl, A, r, r2⟩ := A
  intro p e s m args below meth c K T L k' n' X h1 h2 N hT
  obtain ⟨T', h', X', e', W', s'⟩ := stJ X K.1 K.2.2.1 hT A (own_in r hj rfl hx) (g := mkF m pc Ls (.long x :: .int j :: .ref a :: st)) rfl rfl (hb K.2.1 hd)
  exact ⟨T', _, k', n', X', h1, h2, Fr.snoc X' N hge, e' ▸ W', s'⟩
theorem Go.newI {aty : ArrayType} {z : Int32} (cap : Nat) (xs : List Int32) (q : Nat) (hd : decode code pc = .ok (.newarray aty, 2)) (w : (Cond.arrayClass (newarray.typeOf aty)).before a0 Z = true) (hdv : defaultValue (newarray.typeOf aty) = .int 0) (hz : ¬ z < 0) (hcap : z.toNatClampNeg ≤ cap) (hbig : cap * 8 ≤ 536870912) (hxs : List.replicate z.toNatClampNeg 0 = xs) (hk : k + 1 ≤ R.cells) (hN : n + cap ≤ R.slots) (hq : pc + 2 = q)
    (g : ∀ (a : Addr) h', a = h.size → Ext h h' → Ari Z h' a (newarray.typeOf aty) xs → GoB wf l Z y code ml ret R Q (k + 1) (n + cap) h' q Ls (.ref a :: st)) : GoB wf l Z y code ml ret R Q k n h pc Ls (.int z :: st) := by
  subst hq hxs
  refine GoB.move (P := fun h' => Ext h h' ∧ Ari Z h' h.size (newarray.typeOf aty) (List.replicate z.toNatClampNeg 0)) (kk := k + 1) (nn := n + cap) (fun h' p => g h.size h' rfl p.1 p.2) ?_
  intro p e s m args below meth c K T L k' n' X h1 h2 N hT
  obtain ⟨T', h', cA, X', e', E', A', s'⟩ := newP X K.1 K.2.2.1 w hT (g := mkF m pc Ls (.int z :: st)) rfl (hb K.2.1 hd) rfl hz hcap hbig (Nat.le_trans (Nat.add_le_add_right h1 1) hk) (Nat.le_trans (Nat.add_le_add_right h2 cap) hN)
  subst e'
  refine ⟨T', L, k' + 1, n' + cap, X', Nat.add_le_add_right h1 1, Nat.add_le_add_right h2 cap, N, ⟨E', _, A', ?_, ?_⟩, s'⟩
  · show (Array.replicate z.toNatClampNeg (defaultValue (newarray.typeOf aty))).toList = _
    rw [hdv]; simp [List.map_replicate]
  · rw [List.length_replicate]; omega
theorem Go.newJ {aty : ArrayType} {z : Int32} (cap : Nat) (xs : List Int64) (q : Nat) (hd : decode code pc = .ok (.newarray aty, 2)) (w : (Cond.arrayClass (newarray.typeOf aty)).before a0 Z = true) (hdv : newarray.typeOf aty = .long) (hz : ¬ z < 0) (hcap : z.toNatClampNeg ≤ cap) (hbig : cap * 8 ≤ 536870912) (hxs : List.replicate z.toNatClampNeg 0 = xs) (hk : k + 1 ≤ R.cells) (hN : n + cap ≤ R.slots) (hq : pc + 2 = q)
    (g : ∀ (a : Addr) h', a = h.size → Ext h h' → Arj Z h' a xs → GoB wf l Z y code ml ret R Q (k + 1) (n + cap) h' q Ls (.ref a :: st)) : GoB wf l Z y code ml ret R Q k n h pc Ls (.int z :: st) := by
  subst hq hxs
  refine GoB.move (P := fun h' => Ext h h' ∧ Arj Z h' h.size (List.replicate z.toNatClampNeg 0)) (kk := k + 1) (nn := n + cap) (fun h' p => g h.size h' rfl p.1 p.2) ?_
  intro p e s m args below meth c K T L k' n' X h1 h2 N hT
  obtain ⟨T', h', cA, X', e', E', A', s'⟩ := newP X K.1 K.2.2.1 w hT (g := mkF m pc Ls (.int z :: st)) rfl (hb K.2.1 hd) rfl hz hcap hbig (Nat.le_trans (Nat.add_le_add_right h1 1) hk) (Nat.le_trans (Nat.add_le_add_right h2 cap) hN)
  subst e'
  refine ⟨T', L, k' + 1, n' + cap, X', Nat.add_le_add_right h1 1, Nat.add_le_add_right h2 cap, N, ⟨E', _, hdv ▸ A', ?_, ?_⟩, s'⟩
  · show (Array.replicate z.toNatClampNeg (defaultValue .long)).toList = _
    simp [List.map_replicate, defaultValue]
  · rw [List.length_replicate]; omega

theorem own_arv {a : Addr} {ty : FieldType} {xs : List Int32} (F : Ari Z h a ty xs) (hf : ∀ x ∈ xs, fits ty (.int x) = true) : ∃ k : ClassId, Arv Z h a k ty xs.length.toInt32 (xs.map Value.int) (.int 0) := by
  obtain ⟨c, A, r, r2⟩ := F
  have sz := own_size r
  have hz : ¬ xs.length.toInt32 < 0 := by
    have e := len_toInt (n := xs.length) (by omega)
    rw [Int32.lt_iff_toInt_lt, e]
    show ¬ (xs.length : Int) < 0
    omega
  have hn : xs.length.toInt32.toNatClampNeg = xs.length := by
    have e := nat_of hz
    have e2 := len_toInt (n := xs.length) (by omega)
    omega
  have hat : ∀ i, i < c.slots.size → ∃ x, xs[i]? = some x := fun i hi => ⟨xs[i]'(by omega), List.getElem?_eq_getElem (by omega)⟩
  refine ⟨c.cls, c, A, rfl, by rw [sz, hn], hz, fun i hi => ?_, fun i hi => ?_⟩
  · obtain ⟨x, hx⟩ := hat i hi
    rw [own_at r hx, List.getD_eq_getElem?_getD, List.getElem?_map, hx]; rfl
  · obtain ⟨x, hx⟩ := hat i hi
    rw [List.getD_eq_getElem?_getD, List.getElem?_map, hx]
    exact hf x (List.mem_of_getElem? hx)
theorem own_ari {a : Addr} {ty : FieldType} {k : ClassId} {z : Int32} {ys : List Int32} (F : Arv Z h a k ty z (ys.map Value.int) (.int 0)) (hl : z.toNatClampNeg = ys.length) (hb : ys.length < 2147483648) : Ari Z h a ty ys := by
  obtain ⟨c, A, -, sz, -, H, -⟩ := F
  refine ⟨c, A, ?_, hb⟩
  apply List.ext_getElem?
  intro i
  rw [List.getElem?_map]
  by_cases hi : i < c.slots.size
  · have q := H i hi
    rw [Array.getElem?_toList, q, List.getD_eq_getElem?_getD, List.getElem?_map, List.getElem?_eq_getElem (show i < ys.length by omega)]
    rfl
  · rw [List.getElem?_eq_none (by simpa using hi), List.getElem?_eq_none (show ys.length ≤ i by omega)]
    rfl
theorem Go.arraycopy {a b : Addr} {ty : FieldType} {xs ys ys' : List Int32} {sp dp nn : Int32} {i W : Nat} (sN dN n' : Nat) (q : Nat) (hd : decode code pc = .ok (.invokestatic i, 3)) (w1 : (Cond.methodLink y.cls i Jvm.Stand.acN).before a0 Z = true) (w2 : (Cond.native Jvm.Stand.acN).before a0 Z = true) (w3 : (Cond.static Jvm.Stand.acN).before a0 Z = true) (w4 : (Cond.initialized "java/lang/System").before a0 Z = true)
    (A : Ari Z h a ty xs) (B : Ari Z h b ty ys) (hfa : ∀ x ∈ xs, fits ty (.int x) = true) (hfb : ∀ x ∈ ys, fits ty (.int x) = true) (hty : refKind ty = false) (h1 : ¬ sp < 0) (h2 : ¬ dp < 0) (h3 : ¬ nn < 0) (e1 : sp.toNatClampNeg = sN) (e2 : dp.toNatClampNeg = dN) (e3 : nn.toNatClampNeg = n') (l1 : sN + n' ≤ xs.length) (l2 : dN + n' ≤ ys.length) (he : ys.take dN ++ (xs.drop sN).take n' ++ ys.drop (dN + n') = ys')
    (hge : Z.heap.size ≤ b) (hsz : Ls.size = ml) (hfr : 1 ≤ R.frames) (hW : (st.map fun v => v.category).sum ≤ W) (hlo : W + (nativeFrameWords "java/lang/System" "arraycopy" 5 + 11) ≤ R.locals) (hq : pc + 3 = q)
    (g : ∀ h', Keep h h' [b] → Ari Z h' b ty ys' → GoB wf l Z y code ml ret R Q k n h' q Ls st) : GoB wf l Z y code ml ret R Q k n h pc Ls (.int nn :: .int dp :: .ref b :: .int sp :: .ref a :: st) := by
  subst hq e1 e2 e3 he
  refine GoB.move (P := fun h' => Keep h h' [b] ∧ Ari Z h' b ty (ys.take dp.toNatClampNeg ++ (xs.drop sp.toNatClampNeg).take nn.toNatClampNeg ++ ys.drop (dp.toNatClampNeg + nn.toNatClampNeg))) (kk := k) (nn := n) (fun h' p => g h' p.1 p.2) ?_
  obtain ⟨ka, A'⟩ := own_arv A hfa
  obtain ⟨kb, B'⟩ := own_arv B hfb
  obtain ⟨_, _, _, bb⟩ := B
  obtain ⟨_, _, _, ba⟩ := A
  have na : xs.length.toInt32.toNatClampNeg = xs.length := by
    have hz : ¬ xs.length.toInt32 < 0 := A'.choose_spec.2.2.2.1
    have e := nat_of hz
    have e2 := len_toInt (n := xs.length) (by omega)
    omega
  have nb : ys.length.toInt32.toNatClampNeg = ys.length := by
    have hz : ¬ ys.length.toInt32 < 0 := B'.choose_spec.2.2.2.1
    have e := nat_of hz
    have e2 := len_toInt (n := ys.length) (by omega)
    omega
  have hus : ((xs.drop sp.toNatClampNeg).take nn.toNatClampNeg).map Value.int = (List.range nn.toNatClampNeg).map fun i => (xs.map Value.int).getD (sp.toNatClampNeg + i) (.int 0) := by
    apply List.ext_getElem?
    intro i
    simp only [List.getElem?_map, List.getElem?_take, List.getElem?_drop, List.getElem?_range']
    by_cases hi : i < nn.toNatClampNeg
    · rw [if_pos hi, List.getElem?_range hi, Option.map_some, List.getD_eq_getElem?_getD, List.getElem?_map, List.getElem?_eq_getElem (show sp.toNatClampNeg + i < xs.length by omega)]
      rfl
    · rw [if_neg hi, List.getElem?_eq_none (by simpa using hi)]
      rfl
  intro p e s m args below meth c K T L k' n' X h1' h2' N hT
  obtain ⟨T', h', L', X', e', N', K', B2, s'⟩ := cpA X K.1 K.2.2.1 K.2.2.2.1 w1 w2 w3 w4 hT A' B' (Or.inl ⟨rfl, hty⟩) h1 h2 h3 (by rw [na]; exact l1) (by rw [nb]; exact l2) hus (by rw [List.length_map]; exact l2) N hge (g := mkF m pc Ls (.int nn :: .int dp :: .ref b :: .int sp :: .ref a :: st)) rfl (hsz.trans K.2.2.2.2.1.symm) rfl (hb K.2.1 hd) hfr (W := W) (by show 2 * 0 + _ ≤ _; rw [Nat.mul_zero, Nat.zero_add]; exact hW) hlo
  subst e'
  refine ⟨T', L', k', n', X', h1', h2', N', ⟨K', own_ari (z := ys.length.toInt32) (k := kb) ?_ ?_ ?_⟩, s'⟩
  · rw [List.map_append, List.map_append, List.map_take, List.map_drop]; exact B2
  · rw [nb]; simp only [List.length_append, List.length_take, List.length_drop]; omega
  · simp only [List.length_append, List.length_take, List.length_drop]; omega


/-- a String constant: it may intern; the walk goes on over the re-based start -/
theorem Go.ldcS {i : Nat} {text : String} {P : Int32 → Heap → Prop} (nn : Nat) (q : Nat) (hd : decode code pc = .ok (.ldc i, 2)) (w1 : (Cond.stringLink y.cls i text).before a0 Z = true) (wS : ∀ a ∈ Bundle.stringAtoms, a.before a0 Z = true) (hn : 4 * text.toList.length ≤ nn) (hbig : nn ≤ 536870912) (hk : k + 2 ≤ R.cells) (hN : n + (nn + 4) ≤ R.slots) (hq : pc + 2 = q)
    (g : ∀ (a : Addr) h', Ext h h' → Go l Z y code ml ret R (QI fun z hf => P z hf ∧ h'.size ≤ hf.size) (k + 2) (n + (nn + 4)) h' q Ls (.ref a :: st)) : GoB true l Z y code ml ret R (QI P) k n h pc Ls st := by
  subst hq
  intro p e s m args below meth c K T L k' n' X h1 h2 N hT
  have hs0 : s.Since s.vm T.heap.size := State.WarmedH.since (State.WarmedH.refl s) _
  obtain ⟨a, T1, h', k1, X1, e1, E1, S1, l1, Z1, o1, st1⟩ := Jvm.RoadKit.ldcS (s := s) (vm0 := s.vm) X K.1 K.2.2.1 K.2.2.2.1 w1 wS hT hs0 (by rw [hT]; exact Nat.le_refl _) (g := mkF m pc Ls st) rfl (hb K.2.1 hd) hn hbig (Nat.le_trans (Nat.add_le_add_right h1 2) hk) (Nat.le_trans (Nat.add_le_add_right h2 _) hN)
  obtain ⟨s', v, T', L', k'', n'', ok', X', b1, b2, N', ⟨z, ez, q1, q2⟩, hv, stp⟩ := g a h' E1 p e (s.setVm T1.vm) m args below meth c ⟨K.1, K.2.1, Z1, o1, K.2.2.2.2⟩ T1 L (k' + 2) (n' + (nn + 4)) X1 (Nat.add_le_add_right h1 2) (Nat.add_le_add_right h2 _) N e1
  obtain rfl : s' = s.setVm T1.vm := ok'.elim id (fun q => absurd q.1 (by decide))
  exact ⟨_, v, T', L', k'', n'', Or.inr ⟨rfl, T1.vm, k1, rfl, S1, Nat.le_trans l1 q2⟩, X', b1, b2, N', ⟨z, ez, q1⟩, hv, fun fs hl => st1 _ (stp fs hl)⟩
/-- the whole body of a method that may intern -/
theorem Go.metW {as' : Array Value} (hx : plainFor y = true) (hent : ∀ m, entryFrame m as' ml = mkF m 0 Ls []) (G : GoB true l Z y code ml ret R Q 0 0 h 0 Ls []) (ws : List Jvm.Cond) :
    MetFree l y (head1 (Jvm.Cond.code y code ml ret :: ws) R) (fun a U => a = as' ∧ Z.Warmed39 U.vm ∧ U.heap = h) (fun _ _ _ _ _ => True) (fun _ U o U' => ∃ v L, o = .returned v ∧ (Q v U'.heap ∧ Fr Z.heap.size L) ∧ ((∃ v : Option Value, o = Outcome.returned v) ∧ U.Warmed39 U'.vm ∧ U.Booked U'.vm U'.heap.size ∧ U.sameButNew ({ U' with vm := U.vm } : State) L R.cells R.slots)) := by
  refine MetFree.of_bodySF hx hisR ?_
  intro p e s m args below meth c s₁ Bd hml hP hK
  obtain ⟨rfl, hZ, hh⟩ := hP
  have X0 : Stand p l e R s m args below meth c s₁ [] 0 0 := Stand.of_body Bd
  have e0 : s₁.heap = h := by rw [← hh, Bd.state]; rfl
  have hnm := (name_of_methodNamed Bd.named Bd.method).1
  have hlk := Bd.notSynchronized
  obtain ⟨s', v, T', L', k'', n'', ok', X', b1, b2, N', q, hv, stp⟩ := G p e s m args below meth c ⟨Bd.exec, Bd.bytes, hZ, findClass_of_methodNamed Bd.named, hml, Bd.returns, hlk, hnm⟩ s₁ [] 0 0 X0 (Nat.le_refl _) (Nat.le_refl _) (Fr.nil _) e0
  have hv' : meth.sig.returnType = none → v = none := fun hh => hv (by rw [← Bd.returns]; exact hh)
  rcases ok' with rfl | ⟨-, vm, k1, rfl, S1, l1⟩
  · obtain ⟨fs, hr, hrun, hended, hW, hsame⟩ := X'.leave (v := v) hv'
    obtain ⟨a1, a2, a3, a4⟩ := Jvm.RoadKit.wide (s := s') (o := .returned v) (L := L') (k := k'') (n := n'') ⟨⟨v, rfl⟩, hW, hsame⟩
    exact ⟨_, _, castTop (hent m) (stp fs hr), hrun, hended, v, L', rfl, ⟨q, N'⟩, ⟨_, rfl⟩, a2, a3, a4.mono b1 b2⟩
  · obtain ⟨fs, hr, hrun, hended, hW, hsame⟩ := X'.leave (v := v) hv' hlk
    obtain ⟨a1, a2, a3⟩ := S1.ended (U := T'.setFrames fs) hW l1 hsame
    exact ⟨_, _, castTop (hent m) (stp fs hr), hrun, hended, v, L', rfl, ⟨q, N'⟩, ⟨_, rfl⟩, a1, a2, a3.mono b1 b2⟩

theorem Go.istoreS {i : Nat} {v : Int32} {o : Slot} (q : Nat) (Ls' : Array Slot) (hd : decode code pc = .ok (.istore i, 2)) (hold : Ls[i]? = some o) (ho : o = .unset ∨ ∃ w, o = .val w ∧ w.category = 1) (he : Ls.setIfInBounds i (.val (.int v)) = Ls') (hq : pc + 2 = q) (g : GoB wf l Z y code ml ret R Q k n h q Ls' st) : GoB wf l Z y code ml ret R Q k n h pc Ls (.int v :: st) := by
  subst hq he; exact g.pure fun p e s m args below meth c K T L k' n' X hT t r => XS.istoreS X.here K.1 rfl (hb K.2.1 hd) rfl hold ho r
end Laws
end Jvm.OwnGo

namespace Jvm.Pilot.@@N@@
open Jvm Jvm.ClassFile Sem Op Lib Jvm.Free Jvm.Stand Jvm.LawKit Jvm.RoadKit Bundle Jvm.OwnGo Jvm.Pilot.@@N@@.Jvm.D
theorem pnx : plainName x.cls = true := by first | (simp [x, plainName, overriddenIn]; done) | decide +kernel
theorem tw0 {a0 : Array Value} {Z : State} (hw : ∀ d ∈ tables_1, d.before a0 Z = true) : ((Jvm.Cond.arrayClass Jvm.ClassFile.FieldType.byte)).before a0 Z = true := hw _ (List.mem_of_getElem? (i := 0) rfl)
theorem tw1 {a0 : Array Value} {Z : State} (hw : ∀ d ∈ tables_1, d.before a0 Z = true) : ((Jvm.Cond.methodLink "io/mereline/CsvFirstNotUtf8PinLaw" (7 : Nat) ({ cls := "io/mereline/CsvFirstNotUtf8PinLaw", name := "mk", desc := "(JII)B" } : Jvm.MethodName))).before a0 Z = true := hw _ (List.mem_of_getElem? (i := 1) rfl)
theorem tw2 {a0 : Array Value} {Z : State} (hw : ∀ d ∈ tables_1, d.before a0 Z = true) : ((Jvm.Cond.static ({ cls := "io/mereline/CsvFirstNotUtf8PinLaw", name := "mk", desc := "(JII)B" } : Jvm.MethodName))).before a0 Z = true := hw _ (List.mem_of_getElem? (i := 2) rfl)
theorem tw3 {a0 : Array Value} {Z : State} (hw : ∀ d ∈ tables_1, d.before a0 Z = true) : ((Jvm.Cond.initialized "io/mereline/CsvFirstNotUtf8PinLaw")).before a0 Z = true := hw _ (List.mem_of_getElem? (i := 3) rfl)
theorem tw4 {a0 : Array Value} {Z : State} (hw : ∀ d ∈ tables_1, d.before a0 Z = true) : ((Jvm.Cond.code ({ cls := "io/mereline/CsvFirstNotUtf8PinLaw", name := "mk", desc := "(JII)B" } : Jvm.MethodName) method_3_code (5 : Nat) (Option.some Jvm.ClassFile.FieldType.byte))).before a0 Z = true := hw _ (List.mem_of_getElem? (i := 4) rfl)
theorem tw5 {a0 : Array Value} {Z : State} (hw : ∀ d ∈ tables_1, d.before a0 Z = true) : ((Jvm.Cond.constant "io/mereline/CsvFirstNotUtf8PinLaw" (13 : Nat) (2147483647 : Int32))).before a0 Z = true := hw _ (List.mem_of_getElem? (i := 5) rfl)
theorem tw6 {a0 : Array Value} {Z : State} (hw : ∀ d ∈ tables_1, d.before a0 Z = true) : ((Jvm.Cond.methodLink "io/mereline/CsvFirstNotUtf8PinLaw" (14 : Nat) ({ cls := "io/mereline/Csv", name := "firstNotUtf8", desc := "([BII)I" } : Jvm.MethodName))).before a0 Z = true := hw _ (List.mem_of_getElem? (i := 6) rfl)
theorem tw7 {a0 : Array Value} {Z : State} (hw : ∀ d ∈ tables_1, d.before a0 Z = true) : ((Jvm.Cond.static ({ cls := "io/mereline/Csv", name := "firstNotUtf8", desc := "([BII)I" } : Jvm.MethodName))).before a0 Z = true := hw _ (List.mem_of_getElem? (i := 7) rfl)
theorem tw8 {a0 : Array Value} {Z : State} (hw : ∀ d ∈ tables_1, d.before a0 Z = true) : ((Jvm.Cond.initialized "io/mereline/Csv")).before a0 Z = true := hw _ (List.mem_of_getElem? (i := 8) rfl)
theorem tw9 {a0 : Array Value} {Z : State} (hw : ∀ d ∈ tables_1, d.before a0 Z = true) : ((Jvm.Cond.code ({ cls := "io/mereline/Csv", name := "firstNotUtf8", desc := "([BII)I" } : Jvm.MethodName) prog_70_method_9_code (10 : Nat) (Option.some Jvm.ClassFile.FieldType.int))).before a0 Z = true := hw _ (List.mem_of_getElem? (i := 9) rfl)
theorem tw10 {a0 : Array Value} {Z : State} (hw : ∀ d ∈ tables_1, d.before a0 Z = true) : ((Jvm.Cond.methodLink "io/mereline/CsvFirstNotUtf8PinLaw" (20 : Nat) ({ cls := "io/mereline/CsvFirstNotUtf8PinLaw", name := "ref", desc := "([BII)I" } : Jvm.MethodName))).before a0 Z = true := hw _ (List.mem_of_getElem? (i := 10) rfl)
theorem tw11 {a0 : Array Value} {Z : State} (hw : ∀ d ∈ tables_1, d.before a0 Z = true) : ((Jvm.Cond.static ({ cls := "io/mereline/CsvFirstNotUtf8PinLaw", name := "ref", desc := "([BII)I" } : Jvm.MethodName))).before a0 Z = true := hw _ (List.mem_of_getElem? (i := 11) rfl)
theorem tw12 {a0 : Array Value} {Z : State} (hw : ∀ d ∈ tables_1, d.before a0 Z = true) : ((Jvm.Cond.code ({ cls := "io/mereline/CsvFirstNotUtf8PinLaw", name := "ref", desc := "([BII)I" } : Jvm.MethodName) method_4_code (4 : Nat) (Option.some Jvm.ClassFile.FieldType.int))).before a0 Z = true := hw _ (List.mem_of_getElem? (i := 12) rfl)
theorem tw13 {a0 : Array Value} {Z : State} (hw : ∀ d ∈ tables_1, d.before a0 Z = true) : ((Jvm.Cond.methodLink "io/mereline/CsvFirstNotUtf8PinLaw" (23 : Nat) ({ cls := "io/mereline/CsvFirstNotUtf8PinLaw", name := "adv", desc := "([BII)I" } : Jvm.MethodName))).before a0 Z = true := hw _ (List.mem_of_getElem? (i := 13) rfl)
theorem tw14 {a0 : Array Value} {Z : State} (hw : ∀ d ∈ tables_1, d.before a0 Z = true) : ((Jvm.Cond.static ({ cls := "io/mereline/CsvFirstNotUtf8PinLaw", name := "adv", desc := "([BII)I" } : Jvm.MethodName))).before a0 Z = true := hw _ (List.mem_of_getElem? (i := 14) rfl)
theorem tw15 {a0 : Array Value} {Z : State} (hw : ∀ d ∈ tables_1, d.before a0 Z = true) : ((Jvm.Cond.code ({ cls := "io/mereline/CsvFirstNotUtf8PinLaw", name := "adv", desc := "([BII)I" } : Jvm.MethodName) method_5_code (3 : Nat) (Option.some Jvm.ClassFile.FieldType.int))).before a0 Z = true := hw _ (List.mem_of_getElem? (i := 15) rfl)
theorem tw16 {a0 : Array Value} {Z : State} (hw : ∀ d ∈ tables_1, d.before a0 Z = true) : ((Jvm.Cond.methodLink "io/mereline/CsvFirstNotUtf8PinLaw" (26 : Nat) ({ cls := "io/mereline/CsvFirstNotUtf8PinLaw", name := "next", desc := "([BII)I" } : Jvm.MethodName))).before a0 Z = true := hw _ (List.mem_of_getElem? (i := 16) rfl)
theorem tw17 {a0 : Array Value} {Z : State} (hw : ∀ d ∈ tables_1, d.before a0 Z = true) : ((Jvm.Cond.static ({ cls := "io/mereline/CsvFirstNotUtf8PinLaw", name := "next", desc := "([BII)I" } : Jvm.MethodName))).before a0 Z = true := hw _ (List.mem_of_getElem? (i := 17) rfl)
theorem tw18 {a0 : Array Value} {Z : State} (hw : ∀ d ∈ tables_1, d.before a0 Z = true) : ((Jvm.Cond.code ({ cls := "io/mereline/CsvFirstNotUtf8PinLaw", name := "next", desc := "([BII)I" } : Jvm.MethodName) method_6_code (8 : Nat) (Option.some Jvm.ClassFile.FieldType.int))).before a0 Z = true := hw _ (List.mem_of_getElem? (i := 18) rfl)
theorem tw19 {a0 : Array Value} {Z : State} (hw : ∀ d ∈ tables_1, d.before a0 Z = true) : ((Jvm.Cond.constant "io/mereline/CsvFirstNotUtf8PinLaw" (30 : Nat) (1114111 : Int32))).before a0 Z = true := hw _ (List.mem_of_getElem? (i := 19) rfl)
theorem tw20 {a0 : Array Value} {Z : State} (hw : ∀ d ∈ tables_1, d.before a0 Z = true) : ((Jvm.Cond.constant "io/mereline/CsvFirstNotUtf8PinLaw" (31 : Nat) (55296 : Int32))).before a0 Z = true := hw _ (List.mem_of_getElem? (i := 20) rfl)
theorem tw21 {a0 : Array Value} {Z : State} (hw : ∀ d ∈ tables_1, d.before a0 Z = true) : ((Jvm.Cond.constant "io/mereline/CsvFirstNotUtf8PinLaw" (29 : Nat) (65536 : Int32))).before a0 Z = true := hw _ (List.mem_of_getElem? (i := 21) rfl)
theorem tw22 {a0 : Array Value} {Z : State} (hw : ∀ d ∈ tables_1, d.before a0 Z = true) : ((Jvm.Cond.constant "io/mereline/CsvFirstNotUtf8PinLaw" (32 : Nat) (57343 : Int32))).before a0 Z = true := hw _ (List.mem_of_getElem? (i := 22) rfl)
theorem own_nn {x : Int32} (h : 0 ≤ x.toInt) : x.toInt = (x.toBitVec.toNat : Int) := by
  have q := BitVec.toInt_eq_toNat_cond x.toBitVec
  have e : x.toInt = x.toBitVec.toInt := rfl
  rw [e] at h ⊢
  rw [q] at h ⊢
  have := x.toBitVec.isLt
  split at h <;> rename_i c
  · rw [if_pos c]
  · omega
theorem own_nn' {x : Int32} (h : x.toBitVec.toNat < 2147483648) : x.toInt = (x.toBitVec.toNat : Int) := by
  have q := BitVec.toInt_eq_toNat_cond x.toBitVec
  have e : x.toInt = x.toBitVec.toInt := rfl
  rw [e, q, if_pos (by omega)]
theorem own_ofnat {x : Int32} (h : 0 ≤ x.toInt) : x = Int32.ofNat x.toBitVec.toNat := by
  apply Int32.toBitVec_inj.mp
  apply BitVec.eq_of_toNat_eq
  show _ = (BitVec.ofNat 32 x.toBitVec.toNat).toNat
  rw [BitVec.toNat_ofNat, Nat.mod_eq_of_lt x.toBitVec.isLt]
theorem own_b32 (x : Int32) : -2147483648 ≤ x.toInt ∧ x.toInt < 2147483648 := ⟨Int32.le_toInt x, Int32.toInt_lt x⟩
theorem own_b64 (x : Int64) : -9223372036854775808 ≤ x.toInt ∧ x.toInt < 9223372036854775808 := ⟨Int64.le_toInt x, Int64.toInt_lt x⟩
theorem own_add64 {x y : Int64} (h1 : -9223372036854775808 ≤ x.toInt + y.toInt) (h2 : x.toInt + y.toInt < 9223372036854775808) : (x + y).toInt = x.toInt + y.toInt := XT.add64 ⟨h1, h2⟩
theorem own_sub64 {x y : Int64} (h1 : -9223372036854775808 ≤ x.toInt - y.toInt) (h2 : x.toInt - y.toInt < 9223372036854775808) : (x - y).toInt = x.toInt - y.toInt := XT.sub64 ⟨h1, h2⟩
theorem own_mul64 {x y : Int64} (h1 : -9223372036854775808 ≤ x.toInt * y.toInt) (h2 : x.toInt * y.toInt < 9223372036854775808) : (x * y).toInt = x.toInt * y.toInt := XT.mul64 ⟨h1, h2⟩
theorem own_add32 {x y : Int32} (h1 : -2147483648 ≤ x.toInt + y.toInt) (h2 : x.toInt + y.toInt < 2147483648) : (x + y).toInt = x.toInt + y.toInt := XT.add32 ⟨h1, h2⟩
theorem own_sub32 {x y : Int32} (h1 : -2147483648 ≤ x.toInt - y.toInt) (h2 : x.toInt - y.toInt < 2147483648) : (x - y).toInt = x.toInt - y.toInt := XT.sub32 ⟨h1, h2⟩
theorem own_w (x : Int32) : x.toInt64.toInt = x.toInt := Int32.toInt_toInt64 x
theorem own_div64 {x y : Int64} (hx : 0 ≤ x.toInt) (hy : 0 < y.toInt) : (x / y).toInt = x.toInt / y.toInt := by
  rw [Int64.toInt_div, Int.tdiv_eq_ediv_of_nonneg hx]
  have b := own_b64 x
  have h1 : 0 ≤ x.toInt / y.toInt := Int.ediv_nonneg hx (Int.le_of_lt hy)
  have h2 : x.toInt / y.toInt ≤ x.toInt := Int.ediv_le_self _ hx
  exact Int.bmod_eq_of_le (by omega) (by omega)
theorem own_div32 {x y : Int32} (hx : 0 ≤ x.toInt) (hy : 0 < y.toInt) : (x / y).toInt = x.toInt / y.toInt := by
  rw [Int32.toInt_div, Int.tdiv_eq_ediv_of_nonneg hx]
  have b := own_b32 x
  have h1 : 0 ≤ x.toInt / y.toInt := Int.ediv_nonneg hx (Int.le_of_lt hy)
  have h2 : x.toInt / y.toInt ≤ x.toInt := Int.ediv_le_self _ hx
  exact Int.bmod_eq_of_le (by omega) (by omega)
theorem own_rem32 {x y : Int32} (hx : 0 ≤ x.toInt) : (x % y).toInt = x.toInt % y.toInt := by
  rw [Int32.toInt_mod, Int.tmod_eq_emod_of_nonneg hx]
theorem own_pos32 (x : Int32) : 0 ≤ (x &&& 2147483647).toInt := by
  have q := (XT.and_neg32 x 2147483647)
  rw [XT.negI32] at q
  have r : ¬ (x &&& 2147483647).toInt < 0 := fun h => absurd (q.mp h).2 (by decide)
  omega
theorem own_pos64 (x : Int64) : 0 ≤ (x &&& 9223372036854775807).toInt := by
  have q := (XT.and_neg64 x 9223372036854775807)
  rw [XT.negI64] at q
  have r : ¬ (x &&& 9223372036854775807).toInt < 0 := fun h => absurd (q.mp h).2 (by decide)
  omega
theorem own_lt32 {x y : Int32} : x < y ↔ x.toInt < y.toInt := Int32.lt_iff_toInt_lt
theorem own_lt64 {x y : Int64} : x < y ↔ x.toInt < y.toInt := Int64.lt_iff_toInt_lt
theorem own_eq32 {x y : Int32} : x = y ↔ x.toInt = y.toInt := ⟨fun h => h ▸ rfl, Int32.toInt_inj.mp⟩
theorem own_eq64 {x y : Int64} : x = y ↔ x.toInt = y.toInt := ⟨fun h => h ▸ rfl, Int64.toInt_inj.mp⟩
theorem own_255 (i : Nat) : (255#32).getLsbD i = decide (i < 8) := by
  show (BitVec.ofNat 32 (2 ^ 8 - 1)).getLsbD i = _
  rw [BitVec.getLsbD_ofNat, Nat.testBit_two_pow_sub_one]
  by_cases h : i < 8
  · simp [h, show i < 32 by omega]
  · simp [h]
theorem own_sx (x : BitVec 32) (i : Nat) (h : i < 8) : ((x.signExtend 8).signExtend 32).getLsbD i = x.getLsbD i := by
  rw [BitVec.getLsbD_signExtend, if_pos h, BitVec.getLsbD_signExtend, if_pos (show i < 32 by omega)]
  rw [decide_eq_true h, decide_eq_true (show i < 32 by omega), Bool.true_and, Bool.true_and]
theorem own_byte (x : Int32) : (nar .byte x) &&& 255 = x &&& 255 := by
  apply Int32.toBitVec_inj.mp
  rw [Int32.toBitVec_and, Int32.toBitVec_and]
  show ((x.toBitVec.signExtend 8).signExtend 32) &&& 255#32 = x.toBitVec &&& 255#32
  apply BitVec.eq_of_getLsbD_eq
  intro i hi
  rw [BitVec.getLsbD_and, BitVec.getLsbD_and, own_255]
  by_cases h : i < 8
  · rw [own_sx _ _ h]
  · simp [h]
theorem own_byte2 (x : Int32) : (nar .byte (x.toInt8.toInt32)) &&& 255 = x &&& 255 := by
  rw [own_byte]; exact own_byte x
theorem own_cat4 (w : BitVec 32) : (((w >>> 24 &&& 255#32) <<< 24 ||| (w >>> 16 &&& 255#32) <<< 16) ||| (w >>> 8 &&& 255#32) <<< 8) ||| (w &&& 255#32) = w := by
  apply BitVec.eq_of_getLsbD_eq
  intro i hi
  simp only [BitVec.getLsbD_or, BitVec.getLsbD_and, BitVec.getLsbD_shiftLeft, BitVec.getLsbD_ushiftRight, own_255]
  have q : i < 8 ∨ (8 ≤ i ∧ i < 16) ∨ (16 ≤ i ∧ i < 24) ∨ (24 ≤ i ∧ i < 32) := by omega
  rcases q with q | q | q | q
  · simp [q, show i < 16 by omega, show i < 24 by omega]
  · simp [show i < 32 by omega, show i < 16 by omega, show i < 24 by omega, show ¬ i < 8 by omega, show 8 + (i - 8) = i by omega, show i - 8 < 8 by omega]
  · simp [show i < 32 by omega, show ¬ i < 16 by omega, show i < 24 by omega, show ¬ i < 8 by omega, show 16 + (i - 16) = i by omega, show i - 16 < 8 by omega, show ¬ i - 8 < 8 by omega]
  · simp [show i < 32 by omega, show ¬ i < 16 by omega, show ¬ i < 24 by omega, show ¬ i < 8 by omega, show 24 + (i - 24) = i by omega, show i - 24 < 8 by omega, show ¬ i - 8 < 8 by omega, show ¬ i - 16 < 8 by omega]
theorem own_ushr32 (z k : Int32) (n : Nat) (hk : (k &&& 31).toUInt32.toBitVec.toNat = n) (hn : n < 32) : (XT.ushr z k).toBitVec = z.toBitVec >>> n := by
  unfold XT.ushr
  show (z.toUInt32 >>> (k &&& 31).toUInt32).toBitVec = _
  rw [UInt32.toBitVec_shiftRight]
  show z.toBitVec >>> ((k &&& 31).toUInt32.toBitVec % 32) = _
  rw [BitVec.ushiftRight_eq']
  congr 1
  rw [BitVec.toNat_umod, hk]
  exact Nat.mod_eq_of_lt hn
theorem own_shl32 (z k : Int32) (n : Nat) (hk : (k &&& 31).toBitVec.toNat = n) (hn : n < 32) : (z <<< (k &&& 31)).toBitVec = z.toBitVec <<< n := by
  rw [Int32.toBitVec_shiftLeft]
  show z.toBitVec <<< ((k &&& 31).toBitVec.smod 32) = _
  have e : (k &&& 31).toBitVec.smod 32#32 = (k &&& 31).toBitVec := by
    rw [show (k &&& 31).toBitVec = BitVec.ofNat 32 n from BitVec.eq_of_toNat_eq (by rw [hk, BitVec.toNat_ofNat, Nat.mod_eq_of_lt (by omega)])]
    have : ∀ m : Fin 32, (BitVec.ofNat 32 m.val).smod 32#32 = BitVec.ofNat 32 m.val := by decide +kernel
    exact this ⟨n, hn⟩
  show z.toBitVec <<< ((k &&& 31).toBitVec.smod 32#32) = _
  rw [e, BitVec.shiftLeft_eq', hk]
def own_w4 (b3 b2 b1 b0 : Int32) : Int32 := (((b3 &&& 255) <<< ((24 : Int32) &&& 31) ||| (b2 &&& 255) <<< ((16 : Int32) &&& 31)) ||| (b1 &&& 255) <<< ((8 : Int32) &&& 31)) ||| (b0 &&& 255)
theorem own_word (w : Int32) : own_w4 (nar .byte (XT.ushr w 24).toInt8.toInt32) (nar .byte (XT.ushr w 16).toInt8.toInt32) (nar .byte (XT.ushr w 8).toInt8.toInt32) (nar .byte w.toInt8.toInt32) = w := by
  unfold own_w4
  rw [own_byte2, own_byte2, own_byte2, own_byte2]
  apply Int32.toBitVec_inj.mp
  rw [Int32.toBitVec_or, Int32.toBitVec_or, Int32.toBitVec_or, own_shl32 _ 24 24 (by decide) (by decide), own_shl32 _ 16 16 (by decide) (by decide), own_shl32 _ 8 8 (by decide) (by decide),
    Int32.toBitVec_and, Int32.toBitVec_and, Int32.toBitVec_and, Int32.toBitVec_and, own_ushr32 _ 24 24 (by decide) (by decide), own_ushr32 _ 16 16 (by decide) (by decide), own_ushr32 _ 8 8 (by decide) (by decide)]
  exact own_cat4 w.toBitVec
theorem own_k0 : (0 : Int32).toInt = 0 := by decide
theorem own_k1 : (1 : Int32).toInt = 1 := by decide
theorem own_k2 : (2 : Int32).toInt = 2 := by decide
theorem own_k3 : (3 : Int32).toInt = 3 := by decide
theorem own_k4 : (4 : Int32).toInt = 4 := by decide
theorem own_k7 : (7 : Int32).toInt = 7 := by decide
theorem own_k8 : (8 : Int32).toInt = 8 := by decide
theorem own_k63 : (63 : Int32).toInt = 63 := by decide
theorem own_k127 : (127 : Int32).toInt = 127 := by decide
theorem own_k128 : (128 : Int32).toInt = 128 := by decide
theorem own_k143 : (143 : Int32).toInt = 143 := by decide
theorem own_k144 : (144 : Int32).toInt = 144 := by decide
theorem own_k159 : (159 : Int32).toInt = 159 := by decide
theorem own_k160 : (160 : Int32).toInt = 160 := by decide
theorem own_k191 : (191 : Int32).toInt = 191 := by decide
theorem own_k192 : (192 : Int32).toInt = 192 := by decide
theorem own_k194 : (194 : Int32).toInt = 194 := by decide
theorem own_k223 : (223 : Int32).toInt = 223 := by decide
theorem own_k224 : (224 : Int32).toInt = 224 := by decide
theorem own_k237 : (237 : Int32).toInt = 237 := by decide
theorem own_k239 : (239 : Int32).toInt = 239 := by decide
theorem own_k240 : (240 : Int32).toInt = 240 := by decide
theorem own_k244 : (244 : Int32).toInt = 244 := by decide
theorem own_k248 : (248 : Int32).toInt = 248 := by decide
theorem own_k255 : (255 : Int32).toInt = 255 := by decide
theorem own_k2048 : (2048 : Int32).toInt = 2048 := by decide
theorem own_k55296 : (55296 : Int32).toInt = 55296 := by decide
theorem own_k57343 : (57343 : Int32).toInt = 57343 := by decide
theorem own_k65536 : (65536 : Int32).toInt = 65536 := by decide
theorem own_k1114111 : (1114111 : Int32).toInt = 1114111 := by decide

theorem own_getq {xs : List Int32} {i : Nat} (h : i < xs.length) : xs[i]? = some (xs.getD i 0) := by
  rw [List.getD_eq_getElem?_getD, List.getElem?_eq_getElem h]; rfl
def own_by (xs : List Int32) (j : Int32) : Int32 := xs.getD j.toNatClampNeg 0 &&& 255
def own_nx (xs : List Int32) (p t : Int32) : Int32 :=
  if (own_by xs p).toInt < 128 then p + 1
  else if 194 ≤ (own_by xs p).toInt ∧ (own_by xs p).toInt ≤ 223 ∧ p.toInt + 2 ≤ t.toInt ∧ 128 ≤ (own_by xs (p + 1)).toInt ∧ (own_by xs (p + 1)).toInt ≤ 191 then p + 2
  else if 224 ≤ (own_by xs p).toInt ∧ (own_by xs p).toInt ≤ 239 ∧ p.toInt + 3 ≤ t.toInt ∧ ((own_by xs p).toInt = 224 → 160 ≤ (own_by xs (p + 1)).toInt) ∧ ((own_by xs p).toInt = 237 → (own_by xs (p + 1)).toInt ≤ 159) ∧ 128 ≤ (own_by xs (p + 1)).toInt ∧ (own_by xs (p + 1)).toInt ≤ 191 ∧ 128 ≤ (own_by xs (p + 2)).toInt ∧ (own_by xs (p + 2)).toInt ≤ 191 then p + 3
  else if 240 ≤ (own_by xs p).toInt ∧ (own_by xs p).toInt ≤ 244 ∧ p.toInt + 4 ≤ t.toInt ∧ ((own_by xs p).toInt = 240 → 144 ≤ (own_by xs (p + 1)).toInt) ∧ ((own_by xs p).toInt = 244 → (own_by xs (p + 1)).toInt ≤ 143) ∧ 128 ≤ (own_by xs (p + 1)).toInt ∧ (own_by xs (p + 1)).toInt ≤ 191 ∧ 128 ≤ (own_by xs (p + 2)).toInt ∧ (own_by xs (p + 2)).toInt ≤ 191 ∧ 128 ≤ (own_by xs (p + 3)).toInt ∧ (own_by xs (p + 3)).toInt ≤ 191 then p + 4
  else p ^^^ -1
def own_adv (xs : List Int32) (t s : Int32) : Int32 := if s < 0 then s else if s < t then own_nx xs s t else s
def own_it (xs : List Int32) (t : Int32) : Nat → Int32 → Int32
  | 0, s => s
  | n + 1, s => own_it xs t n (own_adv xs t s)
def own_res (s : Int32) : Int32 := if s < 0 then s ^^^ -1 else -1
theorem own_it_neg (xs : List Int32) (t : Int32) : ∀ (n : Nat) (s : Int32), s < 0 → own_it xs t n s = s
  | 0, _, _ => rfl
  | n + 1, s, h => by
    show own_it xs t n (own_adv xs t s) = s
    have e : own_adv xs t s = s := if_pos h
    rw [e]; exact own_it_neg xs t n s h
theorem own_it_end (xs : List Int32) (t : Int32) : ∀ (n : Nat) (s : Int32), ¬ s < 0 → ¬ s < t → own_it xs t n s = s
  | 0, _, _, _ => rfl
  | n + 1, s, h, h2 => by
    show own_it xs t n (own_adv xs t s) = s
    have e : own_adv xs t s = s := by unfold own_adv; rw [if_neg h, if_neg h2]
    rw [e]; exact own_it_end xs t n s h h2
theorem own_it_step {xs : List Int32} {t : Int32} {n : Nat} {s : Int32} (h : ¬ s < 0) (h2 : s < t) : own_it xs t (n + 1) s = own_it xs t n (own_nx xs s t) := by
  show own_it xs t n (own_adv xs t s) = _
  unfold own_adv; rw [if_neg h, if_pos h2]
theorem own_not (s : Int32) : s ^^^ -1 ^^^ -1 = s := by rw [Int32.xor_assoc]; show s ^^^ 0 = s; exact Int32.xor_zero
theorem own_notneg {s : Int32} (h : ¬ s < 0) : s ^^^ -1 < 0 := by rw [XT.xor_neg32]; simp [h]
theorem own_addk {p k : Int32} {c : Int} (h1 : 0 ≤ p.toInt) (h2 : p.toInt ≤ 8) (hk : k.toInt = c) (h3 : 0 ≤ c) (h4 : c ≤ 16) : (p + k).toInt = p.toInt + c := by
  rw [own_add32 (by rw [hk]; omega) (by rw [hk]; omega), hk]
theorem own_ixn {j : Int32} (h : 0 ≤ j.toInt) : ¬ j < 0 := by
  have c0 : (0 : Int32).toInt = 0 := by decide
  rw [own_lt32, c0]; omega
theorem own_ixl {j : Int32} {xs : List Int32} (hl : xs.length = 8) (h : 0 ≤ j.toInt) (h2 : j.toInt < 8) : j.toNatClampNeg < xs.length := by
  have q := nat_of (own_ixn h)
  omega
theorem own_byr (xs : List Int32) (j : Int32) : 0 ≤ (own_by xs j).toInt ∧ (own_by xs j).toInt ≤ 255 := by
  have e : (own_by xs j).toBitVec.toNat < 256 := by
    unfold own_by
    rw [Int32.toBitVec_and, BitVec.toNat_and]
    exact Nat.lt_of_le_of_lt Nat.and_le_right (by decide)
  have k := own_nn' (x := own_by xs j) (by omega)
  omega
theorem own_orI (x y : Int32) : (x ||| y).toBitVec.toNat = x.toBitVec.toNat ||| y.toBitVec.toNat := by rw [Int32.toBitVec_or, BitVec.toNat_or]
theorem own_andm (x m : Int32) (k : Nat) (hm : m.toBitVec.toNat = 2 ^ k - 1) : (x &&& m).toBitVec.toNat = x.toBitVec.toNat % 2 ^ k := by
  rw [Int32.toBitVec_and, BitVec.toNat_and, hm]; exact Nat.and_two_pow_sub_one_eq_mod _ k
theorem own_maskI {x m : Int32} {k : Nat} (hm : m.toBitVec.toNat = 2 ^ k - 1) (hk : k ≤ 8) (hx : 0 ≤ x.toInt) : (x &&& m).toInt = x.toInt % ((2 ^ k : Nat) : Int) ∧ 0 ≤ (x &&& m).toInt := by
  have e := own_andm x m k hm
  have e1 := own_nn hx
  have b : x.toBitVec.toNat % 2 ^ k < 2 ^ k := Nat.mod_lt _ (Nat.two_pow_pos k)
  have b2 : 2 ^ k ≤ 2 ^ 8 := Nat.pow_le_pow_right (by decide) hk
  have e2 := own_nn' (x := x &&& m) (by omega)
  rw [e2, e, e1]
  exact ⟨by simp, by omega⟩
theorem own_cpS {x y : Int32} (hx : 0 ≤ x.toInt) (hx2 : x.toInt < 1048576) (hy : 0 ≤ y.toInt) : ((x <<< ((6 : Int32) &&& 31)) ||| (y &&& 63)).toInt = x.toInt * 64 + y.toInt % 64 ∧ 0 ≤ ((x <<< ((6 : Int32) &&& 31)) ||| (y &&& 63)).toInt := by
  have ex := own_nn hx
  have ey := own_nn hy
  have e1 : (x <<< ((6 : Int32) &&& 31)).toBitVec.toNat = x.toBitVec.toNat * 64 := by
    rw [own_shl32 x 6 6 (by decide) (by decide), BitVec.toNat_shiftLeft, Nat.shiftLeft_eq, Nat.mod_eq_of_lt (by omega)]
  have e2 := own_andm y 63 6 (by decide)
  have e3 : ((x <<< ((6 : Int32) &&& 31)) ||| (y &&& 63)).toBitVec.toNat = x.toBitVec.toNat * 64 + y.toBitVec.toNat % 64 := by
    rw [own_orI, e1, e2]
    have q := Nat.shiftLeft_add_eq_or_of_lt (b := y.toBitVec.toNat % 2 ^ 6) (i := 6) (by omega) x.toBitVec.toNat
    rw [Nat.shiftLeft_eq] at q
    rw [show x.toBitVec.toNat * 64 = x.toBitVec.toNat * 2 ^ 6 from rfl, ← q]
  have e4 := own_nn' (x := (x <<< ((6 : Int32) &&& 31)) ||| (y &&& 63)) (by omega)
  rw [e4, e3]
  omega
set_option maxRecDepth 65536 in
theorem own_c192 : ∀ k : Fin 256, decide ((Int32.ofNat k.val &&& 192) = 128) = decide (128 ≤ k.val ∧ k.val < 192) := by decide +kernel
theorem own_c192v {c : Int32} (h1 : 0 ≤ c.toInt) (h2 : c.toInt ≤ 255) : ((c &&& 192) = 128) ↔ (128 ≤ c.toInt ∧ c.toInt ≤ 191) := by
  have e := own_nn h1
  have q := own_c192 ⟨c.toBitVec.toNat, by omega⟩
  rw [← own_ofnat (x := c) h1] at q
  have q2 : ((c &&& 192) = 128) ↔ (128 ≤ c.toBitVec.toNat ∧ c.toBitVec.toNat < 192) := decide_eq_decide.mp q
  rw [q2]
  omega
theorem own_byE (xs : List Int32) (j : Int32) : xs.getD j.toNatClampNeg 0 &&& 255 = own_by xs j := rfl
theorem own_m31 {x : Int32} (h : 0 ≤ x.toInt) : (x &&& 31).toInt = x.toInt % 32 ∧ 0 ≤ (x &&& 31).toInt := by
  have q := own_maskI (x := x) (m := 31) (k := 5) (by decide) (by decide) h
  exact ⟨by simpa using q.1, q.2⟩
theorem own_m15 {x : Int32} (h : 0 ≤ x.toInt) : (x &&& 15).toInt = x.toInt % 16 ∧ 0 ≤ (x &&& 15).toInt := by
  have q := own_maskI (x := x) (m := 15) (k := 4) (by decide) (by decide) h
  exact ⟨by simpa using q.1, q.2⟩
theorem own_m7 {x : Int32} (h : 0 ≤ x.toInt) : (x &&& 7).toInt = x.toInt % 8 ∧ 0 ≤ (x &&& 7).toInt := by
  have q := own_maskI (x := x) (m := 7) (k := 3) (by decide) (by decide) h
  exact ⟨by simpa using q.1, q.2⟩
theorem own_badr {xs : List Int32} {t i : Int32} {n : Nat} (hnx : own_nx xs i t = i ^^^ -1) (hi : ¬ i < 0) (hlt : i < t) : i = own_res (own_it xs t (n + 1) i) := by
  rw [own_it_step hi hlt, hnx, own_it_neg _ _ _ _ (own_notneg hi)]
  unfold own_res
  rw [if_pos (own_notneg hi), own_not]
theorem own_endr {xs : List Int32} {t i : Int32} {n : Nat} (hi : ¬ i < 0) (hlt : ¬ i < t) : (-1 : Int32) = own_res (own_it xs t n i) := by
  rw [own_it_end _ _ _ _ hi hlt]
  unfold own_res
  rw [if_neg hi]
theorem own_it8 (xs : List Int32) (t p : Int32) : own_it xs t 8 p = own_adv xs t (own_adv xs t (own_adv xs t (own_adv xs t (own_adv xs t (own_adv xs t (own_adv xs t (own_adv xs t p))))))) := by simp only [own_it]
theorem own_res_neg {s : Int32} (h : s < 0) : own_res s = s ^^^ -1 := if_pos h
theorem own_res_pos {s : Int32} (h : ¬ s < 0) : own_res s = -1 := if_neg h
theorem own_ft (f t : Int32) : (9 : Int32) - (f &&& 2147483647) % 9 ≠ 0 ∧ 0 ≤ ((f &&& 2147483647) % 9).toInt ∧ ((f &&& 2147483647) % 9).toInt ≤ ((f &&& 2147483647) % 9 + (t &&& 2147483647) % (9 - (f &&& 2147483647) % 9)).toInt ∧ ((f &&& 2147483647) % 9 + (t &&& 2147483647) % (9 - (f &&& 2147483647) % 9)).toInt ≤ 8 := by
  have p := own_pos32 f
  have p2 := own_pos32 t
  have c9 : (9 : Int32).toInt = 9 := by decide
  have c0 : (0 : Int32).toInt = 0 := by decide
  have e := own_rem32 (x := f &&& 2147483647) (y := 9) p
  rw [c9] at e
  generalize (f &&& 2147483647) % 9 = F at *
  have e2 : (9 - F).toInt = 9 - F.toInt := by rw [own_sub32 (by rw [c9]; omega) (by rw [c9]; omega), c9]
  have e3 := own_rem32 (x := t &&& 2147483647) (y := 9 - F) p2
  rw [e2] at e3
  have b1 : 0 ≤ (t &&& 2147483647).toInt % (9 - F.toInt) := Int.emod_nonneg _ (by omega)
  have b2 : (t &&& 2147483647).toInt % (9 - F.toInt) < 9 - F.toInt := Int.emod_lt_of_pos _ (by omega)
  have e4 : (F + (t &&& 2147483647) % (9 - F)).toInt = F.toInt + (t &&& 2147483647).toInt % (9 - F.toInt) := by rw [own_add32 (by rw [e3]; omega) (by rw [e3]; omega), e3]
  refine ⟨?_, by omega, by rw [e4]; omega, by rw [e4]; omega⟩
  intro h
  rw [own_eq32, e2, c0] at h
  omega

theorem d5_0 : decode method_6_code 0 = .ok (.aload_n 0, 1) := by decide +kernel
theorem d5_1 : decode method_6_code 1 = .ok (.iload_n 1, 1) := by decide +kernel
theorem d5_2 : decode method_6_code 2 = .ok (.baload, 1) := by decide +kernel
theorem d5_3 : decode method_6_code 3 = .ok (.sipush 255, 3) := by decide +kernel
theorem d5_6 : decode method_6_code 6 = .ok (.iand, 1) := by decide +kernel
theorem d5_7 : decode method_6_code 7 = .ok (.istore_n 3, 1) := by decide +kernel
theorem d5_8 : decode method_6_code 8 = .ok (.iload_n 3, 1) := by decide +kernel
theorem d5_9 : decode method_6_code 9 = .ok (.sipush 128, 3) := by decide +kernel
theorem d5_12 : decode method_6_code 12 = .ok (.if_icmp .ge 7, 3) := by decide +kernel
theorem d5_15 : decode method_6_code 15 = .ok (.iload_n 1, 1) := by decide +kernel
theorem d5_16 : decode method_6_code 16 = .ok (.iconst 1, 1) := by decide +kernel
theorem d5_17 : decode method_6_code 17 = .ok (.iadd, 1) := by decide +kernel
theorem d5_18 : decode method_6_code 18 = .ok (.ireturn, 1) := by decide +kernel
theorem d5_19 : decode method_6_code 19 = .ok (.iload_n 3, 1) := by decide +kernel
theorem d5_20 : decode method_6_code 20 = .ok (.sipush 192, 3) := by decide +kernel
theorem d5_23 : decode method_6_code 23 = .ok (.if_icmp .ge 7, 3) := by decide +kernel
theorem d5_26 : decode method_6_code 26 = .ok (.iload_n 1, 1) := by decide +kernel
theorem d5_27 : decode method_6_code 27 = .ok (.iconst (-1), 1) := by decide +kernel
theorem d5_28 : decode method_6_code 28 = .ok (.ixor, 1) := by decide +kernel
theorem d5_29 : decode method_6_code 29 = .ok (.ireturn, 1) := by decide +kernel
theorem d5_30 : decode method_6_code 30 = .ok (.iload_n 3, 1) := by decide +kernel
theorem d5_31 : decode method_6_code 31 = .ok (.sipush 224, 3) := by decide +kernel
theorem d5_34 : decode method_6_code 34 = .ok (.if_icmp .ge 15, 3) := by decide +kernel
theorem d5_37 : decode method_6_code 37 = .ok (.iconst 2, 1) := by decide +kernel
theorem d5_38 : decode method_6_code 38 = .ok (.istore 4, 2) := by decide +kernel
theorem d5_40 : decode method_6_code 40 = .ok (.iload_n 3, 1) := by decide +kernel
theorem d5_41 : decode method_6_code 41 = .ok (.bipush 31, 2) := by decide +kernel
theorem d5_43 : decode method_6_code 43 = .ok (.iand, 1) := by decide +kernel
theorem d5_44 : decode method_6_code 44 = .ok (.istore 5, 2) := by decide +kernel
theorem d5_46 : decode method_6_code 46 = .ok (.goto 45, 3) := by decide +kernel
theorem d5_49 : decode method_6_code 49 = .ok (.iload_n 3, 1) := by decide +kernel
theorem d5_50 : decode method_6_code 50 = .ok (.sipush 240, 3) := by decide +kernel
theorem d5_53 : decode method_6_code 53 = .ok (.if_icmp .ge 15, 3) := by decide +kernel
theorem d5_56 : decode method_6_code 56 = .ok (.iconst 3, 1) := by decide +kernel
theorem d5_57 : decode method_6_code 57 = .ok (.istore 4, 2) := by decide +kernel
theorem d5_59 : decode method_6_code 59 = .ok (.iload_n 3, 1) := by decide +kernel
theorem d5_60 : decode method_6_code 60 = .ok (.bipush 15, 2) := by decide +kernel
theorem d5_62 : decode method_6_code 62 = .ok (.iand, 1) := by decide +kernel
theorem d5_63 : decode method_6_code 63 = .ok (.istore 5, 2) := by decide +kernel
theorem d5_65 : decode method_6_code 65 = .ok (.goto 26, 3) := by decide +kernel
theorem d5_68 : decode method_6_code 68 = .ok (.iload_n 3, 1) := by decide +kernel
theorem d5_69 : decode method_6_code 69 = .ok (.sipush 248, 3) := by decide +kernel
theorem d5_72 : decode method_6_code 72 = .ok (.if_icmp .ge 15, 3) := by decide +kernel
theorem d5_75 : decode method_6_code 75 = .ok (.iconst 4, 1) := by decide +kernel
theorem d5_76 : decode method_6_code 76 = .ok (.istore 4, 2) := by decide +kernel
theorem d5_78 : decode method_6_code 78 = .ok (.iload_n 3, 1) := by decide +kernel
theorem d5_79 : decode method_6_code 79 = .ok (.bipush 7, 2) := by decide +kernel
theorem d5_81 : decode method_6_code 81 = .ok (.iand, 1) := by decide +kernel
theorem d5_82 : decode method_6_code 82 = .ok (.istore 5, 2) := by decide +kernel
theorem d5_84 : decode method_6_code 84 = .ok (.goto 7, 3) := by decide +kernel
theorem d5_87 : decode method_6_code 87 = .ok (.iload_n 1, 1) := by decide +kernel
theorem d5_88 : decode method_6_code 88 = .ok (.iconst (-1), 1) := by decide +kernel
theorem d5_89 : decode method_6_code 89 = .ok (.ixor, 1) := by decide +kernel
theorem d5_90 : decode method_6_code 90 = .ok (.ireturn, 1) := by decide +kernel
theorem d5_91 : decode method_6_code 91 = .ok (.iload_n 1, 1) := by decide +kernel
theorem d5_92 : decode method_6_code 92 = .ok (.iload 4, 2) := by decide +kernel
theorem d5_94 : decode method_6_code 94 = .ok (.iadd, 1) := by decide +kernel
theorem d5_95 : decode method_6_code 95 = .ok (.iload_n 2, 1) := by decide +kernel
theorem d5_96 : decode method_6_code 96 = .ok (.if_icmp .le 7, 3) := by decide +kernel
theorem d5_99 : decode method_6_code 99 = .ok (.iload_n 1, 1) := by decide +kernel
theorem d5_100 : decode method_6_code 100 = .ok (.iconst (-1), 1) := by decide +kernel
theorem d5_101 : decode method_6_code 101 = .ok (.ixor, 1) := by decide +kernel
theorem d5_102 : decode method_6_code 102 = .ok (.ireturn, 1) := by decide +kernel
theorem d5_103 : decode method_6_code 103 = .ok (.aload_n 0, 1) := by decide +kernel
theorem d5_104 : decode method_6_code 104 = .ok (.iload_n 1, 1) := by decide +kernel
theorem d5_105 : decode method_6_code 105 = .ok (.iconst 1, 1) := by decide +kernel
theorem d5_106 : decode method_6_code 106 = .ok (.iadd, 1) := by decide +kernel
theorem d5_107 : decode method_6_code 107 = .ok (.baload, 1) := by decide +kernel
theorem d5_108 : decode method_6_code 108 = .ok (.sipush 255, 3) := by decide +kernel
theorem d5_111 : decode method_6_code 111 = .ok (.iand, 1) := by decide +kernel
theorem d5_112 : decode method_6_code 112 = .ok (.istore 6, 2) := by decide +kernel
theorem d5_114 : decode method_6_code 114 = .ok (.iload 6, 2) := by decide +kernel
theorem d5_116 : decode method_6_code 116 = .ok (.sipush 192, 3) := by decide +kernel
theorem d5_119 : decode method_6_code 119 = .ok (.iand, 1) := by decide +kernel
theorem d5_120 : decode method_6_code 120 = .ok (.sipush 128, 3) := by decide +kernel
theorem d5_123 : decode method_6_code 123 = .ok (.if_icmp .eq 7, 3) := by decide +kernel
theorem d5_126 : decode method_6_code 126 = .ok (.iload_n 1, 1) := by decide +kernel
theorem d5_127 : decode method_6_code 127 = .ok (.iconst (-1), 1) := by decide +kernel
theorem d5_128 : decode method_6_code 128 = .ok (.ixor, 1) := by decide +kernel
theorem d5_129 : decode method_6_code 129 = .ok (.ireturn, 1) := by decide +kernel
theorem d5_130 : decode method_6_code 130 = .ok (.iload 5, 2) := by decide +kernel
theorem d5_132 : decode method_6_code 132 = .ok (.bipush 6, 2) := by decide +kernel
theorem d5_134 : decode method_6_code 134 = .ok (.ishl, 1) := by decide +kernel
theorem d5_135 : decode method_6_code 135 = .ok (.iload 6, 2) := by decide +kernel
theorem d5_137 : decode method_6_code 137 = .ok (.bipush 63, 2) := by decide +kernel
theorem d5_139 : decode method_6_code 139 = .ok (.iand, 1) := by decide +kernel
theorem d5_140 : decode method_6_code 140 = .ok (.ior, 1) := by decide +kernel
theorem d5_141 : decode method_6_code 141 = .ok (.istore 5, 2) := by decide +kernel
theorem d5_143 : decode method_6_code 143 = .ok (.iload 4, 2) := by decide +kernel
theorem d5_145 : decode method_6_code 145 = .ok (.iconst 3, 1) := by decide +kernel
theorem d5_146 : decode method_6_code 146 = .ok (.if_icmp .lt 43, 3) := by decide +kernel
theorem d5_149 : decode method_6_code 149 = .ok (.aload_n 0, 1) := by decide +kernel
theorem d5_150 : decode method_6_code 150 = .ok (.iload_n 1, 1) := by decide +kernel
theorem d5_151 : decode method_6_code 151 = .ok (.iconst 2, 1) := by decide +kernel
theorem d5_152 : decode method_6_code 152 = .ok (.iadd, 1) := by decide +kernel
theorem d5_153 : decode method_6_code 153 = .ok (.baload, 1) := by decide +kernel
theorem d5_154 : decode method_6_code 154 = .ok (.sipush 255, 3) := by decide +kernel
theorem d5_157 : decode method_6_code 157 = .ok (.iand, 1) := by decide +kernel
theorem d5_158 : decode method_6_code 158 = .ok (.istore 7, 2) := by decide +kernel
theorem d5_160 : decode method_6_code 160 = .ok (.iload 7, 2) := by decide +kernel
theorem d5_162 : decode method_6_code 162 = .ok (.sipush 192, 3) := by decide +kernel
theorem d5_165 : decode method_6_code 165 = .ok (.iand, 1) := by decide +kernel
theorem d5_166 : decode method_6_code 166 = .ok (.sipush 128, 3) := by decide +kernel
theorem d5_169 : decode method_6_code 169 = .ok (.if_icmp .eq 7, 3) := by decide +kernel
theorem d5_172 : decode method_6_code 172 = .ok (.iload_n 1, 1) := by decide +kernel
theorem d5_173 : decode method_6_code 173 = .ok (.iconst (-1), 1) := by decide +kernel
theorem d5_174 : decode method_6_code 174 = .ok (.ixor, 1) := by decide +kernel
theorem d5_175 : decode method_6_code 175 = .ok (.ireturn, 1) := by decide +kernel
theorem d5_176 : decode method_6_code 176 = .ok (.iload 5, 2) := by decide +kernel
theorem d5_178 : decode method_6_code 178 = .ok (.bipush 6, 2) := by decide +kernel
theorem d5_180 : decode method_6_code 180 = .ok (.ishl, 1) := by decide +kernel
theorem d5_181 : decode method_6_code 181 = .ok (.iload 7, 2) := by decide +kernel
theorem d5_183 : decode method_6_code 183 = .ok (.bipush 63, 2) := by decide +kernel
theorem d5_185 : decode method_6_code 185 = .ok (.iand, 1) := by decide +kernel
theorem d5_186 : decode method_6_code 186 = .ok (.ior, 1) := by decide +kernel
theorem d5_187 : decode method_6_code 187 = .ok (.istore 5, 2) := by decide +kernel
theorem d5_189 : decode method_6_code 189 = .ok (.iload 4, 2) := by decide +kernel
theorem d5_191 : decode method_6_code 191 = .ok (.iconst 4, 1) := by decide +kernel
theorem d5_192 : decode method_6_code 192 = .ok (.if_icmp .ne 43, 3) := by decide +kernel
theorem d5_195 : decode method_6_code 195 = .ok (.aload_n 0, 1) := by decide +kernel
theorem d5_196 : decode method_6_code 196 = .ok (.iload_n 1, 1) := by decide +kernel
theorem d5_197 : decode method_6_code 197 = .ok (.iconst 3, 1) := by decide +kernel
theorem d5_198 : decode method_6_code 198 = .ok (.iadd, 1) := by decide +kernel
theorem d5_199 : decode method_6_code 199 = .ok (.baload, 1) := by decide +kernel
theorem d5_200 : decode method_6_code 200 = .ok (.sipush 255, 3) := by decide +kernel
theorem d5_203 : decode method_6_code 203 = .ok (.iand, 1) := by decide +kernel
theorem d5_204 : decode method_6_code 204 = .ok (.istore 7, 2) := by decide +kernel
theorem d5_206 : decode method_6_code 206 = .ok (.iload 7, 2) := by decide +kernel
theorem d5_208 : decode method_6_code 208 = .ok (.sipush 192, 3) := by decide +kernel
theorem d5_211 : decode method_6_code 211 = .ok (.iand, 1) := by decide +kernel
theorem d5_212 : decode method_6_code 212 = .ok (.sipush 128, 3) := by decide +kernel
theorem d5_215 : decode method_6_code 215 = .ok (.if_icmp .eq 7, 3) := by decide +kernel
theorem d5_218 : decode method_6_code 218 = .ok (.iload_n 1, 1) := by decide +kernel
theorem d5_219 : decode method_6_code 219 = .ok (.iconst (-1), 1) := by decide +kernel
theorem d5_220 : decode method_6_code 220 = .ok (.ixor, 1) := by decide +kernel
theorem d5_221 : decode method_6_code 221 = .ok (.ireturn, 1) := by decide +kernel
theorem d5_222 : decode method_6_code 222 = .ok (.iload 5, 2) := by decide +kernel
theorem d5_224 : decode method_6_code 224 = .ok (.bipush 6, 2) := by decide +kernel
theorem d5_226 : decode method_6_code 226 = .ok (.ishl, 1) := by decide +kernel
theorem d5_227 : decode method_6_code 227 = .ok (.iload 7, 2) := by decide +kernel
theorem d5_229 : decode method_6_code 229 = .ok (.bipush 63, 2) := by decide +kernel
theorem d5_231 : decode method_6_code 231 = .ok (.iand, 1) := by decide +kernel
theorem d5_232 : decode method_6_code 232 = .ok (.ior, 1) := by decide +kernel
theorem d5_233 : decode method_6_code 233 = .ok (.istore 5, 2) := by decide +kernel
theorem d5_235 : decode method_6_code 235 = .ok (.iload 4, 2) := by decide +kernel
theorem d5_237 : decode method_6_code 237 = .ok (.iconst 2, 1) := by decide +kernel
theorem d5_238 : decode method_6_code 238 = .ok (.if_icmp .ne 9, 3) := by decide +kernel
theorem d5_241 : decode method_6_code 241 = .ok (.sipush 128, 3) := by decide +kernel
theorem d5_244 : decode method_6_code 244 = .ok (.goto 17, 3) := by decide +kernel
theorem d5_247 : decode method_6_code 247 = .ok (.iload 4, 2) := by decide +kernel
theorem d5_249 : decode method_6_code 249 = .ok (.iconst 3, 1) := by decide +kernel
theorem d5_250 : decode method_6_code 250 = .ok (.if_icmp .ne 9, 3) := by decide +kernel
theorem d5_253 : decode method_6_code 253 = .ok (.sipush 2048, 3) := by decide +kernel
theorem d5_256 : decode method_6_code 256 = .ok (.goto 5, 3) := by decide +kernel
theorem d5_259 : decode method_6_code 259 = .ok (.ldc 29, 2) := by decide +kernel
theorem d5_261 : decode method_6_code 261 = .ok (.istore 7, 2) := by decide +kernel
theorem d5_263 : decode method_6_code 263 = .ok (.iload 5, 2) := by decide +kernel
theorem d5_265 : decode method_6_code 265 = .ok (.iload 7, 2) := by decide +kernel
theorem d5_267 : decode method_6_code 267 = .ok (.if_icmp .lt 24, 3) := by decide +kernel
theorem d5_270 : decode method_6_code 270 = .ok (.iload 5, 2) := by decide +kernel
theorem d5_272 : decode method_6_code 272 = .ok (.ldc 30, 2) := by decide +kernel
theorem d5_274 : decode method_6_code 274 = .ok (.if_icmp .gt 17, 3) := by decide +kernel
theorem d5_277 : decode method_6_code 277 = .ok (.iload 5, 2) := by decide +kernel
theorem d5_279 : decode method_6_code 279 = .ok (.ldc 31, 2) := by decide +kernel
theorem d5_281 : decode method_6_code 281 = .ok (.if_icmp .lt 14, 3) := by decide +kernel
theorem d5_284 : decode method_6_code 284 = .ok (.iload 5, 2) := by decide +kernel
theorem d5_286 : decode method_6_code 286 = .ok (.ldc 32, 2) := by decide +kernel
theorem d5_288 : decode method_6_code 288 = .ok (.if_icmp .gt 7, 3) := by decide +kernel
theorem d5_291 : decode method_6_code 291 = .ok (.iload_n 1, 1) := by decide +kernel
theorem d5_292 : decode method_6_code 292 = .ok (.iconst (-1), 1) := by decide +kernel
theorem d5_293 : decode method_6_code 293 = .ok (.ixor, 1) := by decide +kernel
theorem d5_294 : decode method_6_code 294 = .ok (.ireturn, 1) := by decide +kernel
theorem d5_295 : decode method_6_code 295 = .ok (.iload_n 1, 1) := by decide +kernel
theorem d5_296 : decode method_6_code 296 = .ok (.iload 4, 2) := by decide +kernel
theorem d5_298 : decode method_6_code 298 = .ok (.iadd, 1) := by decide +kernel
theorem d5_299 : decode method_6_code 299 = .ok (.ireturn, 1) := by decide +kernel

theorem pd5 : parseMethodDescriptor "([BII)I" = some ⟨[(.array .byte), .int, .int], some .int⟩ := by decide +kernel
theorem pl5 : plainFor (⟨"io/mereline/CsvFirstNotUtf8PinLaw", "next", "([BII)I"⟩ : MethodName) = true := by first | exact plainFor_of_name (by first | (simp [plainName, overriddenIn]; done) | decide +kernel) | decide +kernel

theorem ef_k_next (m : MethodId) (x0 : Addr) (x1 : Int32) (x2 : Int32) : entryFrame m #[(.ref x0), (.int x1), (.int x2)] 8 = mkF m 0 #[.val (.ref x0), .val (.int x1), .val (.int x2), .unset, .unset, .unset, .unset, .unset] [] := by first | (simp [entryFrame, mkF, argsToLocals, Value.category]; done) | rfl

set_option maxRecDepth 65536 in
set_option maxHeartbeats 40000000 in
theorem k_next {l : Launch} {Z : State} {a0 : Array Value} (hw : ∀ d ∈ tables_1, d.before a0 Z = true) {xs : List Int32} (h : Heap) (hz : Z.heap.size ≤ h.size) (a : Addr) (p : Int32) (t : Int32) (fa0 : Ari Z h a .byte xs) (hl : xs.length = 8) (hp0 : 0 ≤ p.toInt) (hpt : p < t) (ht : t.toInt ≤ 8)   : Go l Z (⟨"io/mereline/CsvFirstNotUtf8PinLaw", "next", "([BII)I"⟩ : MethodName) method_6_code 8 (Option.some Jvm.ClassFile.FieldType.int) ({ frames := 0, cells := 0, slots := 0, locals := 0 } : Room) (QI fun rz h' => rz = (own_nx xs p t) ∧ h' = h) 0 0 h 0 #[.val (.ref a), .val (.int p), .val (.int t), .unset, .unset, .unset, .unset, .unset] [] := by
  have hpt' := own_lt32.mp hpt
  have a1 : (p + (1 : Int32)).toInt = p.toInt + 1 := own_addk hp0 (by omega) (by decide) (by decide) (by decide)
  have a2 : (p + (2 : Int32)).toInt = p.toInt + 2 := own_addk hp0 (by omega) (by decide) (by decide) (by decide)
  have a3 : (p + (3 : Int32)).toInt = p.toInt + 3 := own_addk hp0 (by omega) (by decide) (by decide) (by decide)
  have a4 : (p + (4 : Int32)).toInt = p.toInt + 4 := own_addk hp0 (by omega) (by decide) (by decide) (by decide)
  have r0 := own_byr xs p
  have r1 := own_byr xs (p + (1 : Int32))
  have r2 := own_byr xs (p + (2 : Int32))
  have r3 := own_byr xs (p + (3 : Int32))
  have q1 := own_c192v r1.1 r1.2
  have q2 := own_c192v r2.1 r2.2
  have q3 := own_c192v r3.1 r3.2
  refine Go.aload_n 1 d5_0 rfl rfl rfl ?_
  refine Go.iload_n 2 d5_1 rfl rfl ?_
  refine Go.baload (x := (xs.getD (Int32.toNatClampNeg p) 0)) ((Int32.toNatClampNeg p)) 3 d5_2 fa0 (own_ixn (by omega)) rfl (own_getq (own_ixl hl (by omega) (by omega))) rfl ?_
  refine Go.sipush 6 (255) d5_3 (by decide) rfl ?_
  refine Go.iand 7 d5_6 rfl ?_
  refine Go.istore_n 8 #[.val (.ref a), .val (.int p), .val (.int t), .val (.int ((xs.getD (Int32.toNatClampNeg p) 0) &&& (255 : Int32))), .unset, .unset, .unset, .unset] d5_7 rfl rfl ?_
  refine Go.iload_n 9 d5_8 rfl rfl ?_
  refine Go.sipush 12 (128) d5_9 (by decide) rfl ?_
  refine Go.icmp_ge 19 15 d5_12 (by decide) (by decide) rfl (fun c1 => ?_) (fun c1 => ?_)
  ·
    refine Go.iload_n 20 d5_19 rfl rfl ?_
    refine Go.sipush 23 (192) d5_20 (by decide) rfl ?_
    refine Go.icmp_ge 30 26 d5_23 (by decide) (by decide) rfl (fun c2 => ?_) (fun c2 => ?_)
    ·
      refine Go.iload_n 31 d5_30 rfl rfl ?_
      refine Go.sipush 34 (224) d5_31 (by decide) rfl ?_
      refine Go.icmp_ge 49 37 d5_34 (by decide) (by decide) rfl (fun c3 => ?_) (fun c3 => ?_)
      ·
        refine Go.iload_n 50 d5_49 rfl rfl ?_
        refine Go.sipush 53 (240) d5_50 (by decide) rfl ?_
        refine Go.icmp_ge 68 56 d5_53 (by decide) (by decide) rfl (fun c4 => ?_) (fun c4 => ?_)
        ·
          refine Go.iload_n 69 d5_68 rfl rfl ?_
          refine Go.sipush 72 (248) d5_69 (by decide) rfl ?_
          refine Go.icmp_ge 87 75 d5_72 (by decide) (by decide) rfl (fun c5 => ?_) (fun c5 => ?_)
          ·
            refine Go.iload_n 88 d5_87 rfl rfl ?_
            refine Go.iconst 89 (-1) d5_88 (by decide) rfl ?_
            refine Go.ixor 90 d5_89 rfl ?_
            refine Go.ireturn d5_90 rfl (by decide) (by decide) ?_
            simp only [own_byE] at c1 c2 c3 c4 c5
            simp only [own_lt32, own_eq32, own_k0, own_k1, own_k2, own_k3, own_k4, own_k7, own_k8, own_k63, own_k127, own_k128, own_k143, own_k144, own_k159, own_k160, own_k191, own_k192, own_k194, own_k223, own_k224, own_k237, own_k239, own_k240, own_k244, own_k248, own_k255, own_k2048, own_k55296, own_k57343, own_k65536, own_k1114111, a1, a2, a3, a4] at c1 c2 c3 c4 c5
            clear q1 q2 q3
            have hnx : own_nx xs p t = (p ^^^ -1) := by
              unfold own_nx
              rw [if_neg (by omega), if_neg (by omega), if_neg (by omega), if_neg (by omega)]
            exact ⟨hnx.symm, rfl⟩
          ·
            refine Go.iconst 76 (4) d5_75 (by decide) rfl ?_
            refine Go.istore 78 #[.val (.ref a), .val (.int p), .val (.int t), .val (.int ((xs.getD (Int32.toNatClampNeg p) 0) &&& (255 : Int32))), .val (.int (4 : Int32)), .unset, .unset, .unset] d5_76 rfl rfl ?_
            refine Go.iload_n 79 d5_78 rfl rfl ?_
            refine Go.bipush 81 (7) d5_79 (by decide) rfl ?_
            refine Go.iand 82 d5_81 rfl ?_
            refine Go.istore 84 #[.val (.ref a), .val (.int p), .val (.int t), .val (.int ((xs.getD (Int32.toNatClampNeg p) 0) &&& (255 : Int32))), .val (.int (4 : Int32)), .val (.int (((xs.getD (Int32.toNatClampNeg p) 0) &&& (255 : Int32)) &&& (7 : Int32))), .unset, .unset] d5_82 rfl rfl ?_
            refine Go.goto 91 d5_84 (by decide) (by decide) ?_
            refine Go.iload_n 92 d5_91 rfl rfl ?_
            refine Go.iload 94 d5_92 rfl rfl ?_
            refine Go.iadd 95 d5_94 rfl ?_
            refine Go.iload_n 96 d5_95 rfl rfl ?_
            refine Go.icmp_le 103 99 d5_96 (by decide) (by decide) rfl (fun c6 => ?_) (fun c6 => ?_)
            ·
              refine Go.aload_n 104 d5_103 rfl rfl rfl ?_
              refine Go.iload_n 105 d5_104 rfl rfl ?_
              refine Go.iconst 106 (1) d5_105 (by decide) rfl ?_
              refine Go.iadd 107 d5_106 rfl ?_
              refine Go.baload (x := (xs.getD (Int32.toNatClampNeg (p + (1 : Int32))) 0)) ((Int32.toNatClampNeg (p + (1 : Int32)))) 108 d5_107 fa0 (own_ixn (by simp only [own_lt32, own_k0, own_k1, own_k2, own_k3, own_k4, own_k7, own_k8, own_k63, own_k127, own_k128, own_k143, own_k144, own_k159, own_k160, own_k191, own_k192, own_k194, own_k223, own_k224, own_k237, own_k239, own_k240, own_k244, own_k248, own_k255, own_k2048, own_k55296, own_k57343, own_k65536, own_k1114111, a1, a2, a3, a4] at c6; simp only [a1, a2, a3, a4]; omega)) rfl (own_getq (own_ixl hl (by simp only [own_lt32, own_k0, own_k1, own_k2, own_k3, own_k4, own_k7, own_k8, own_k63, own_k127, own_k128, own_k143, own_k144, own_k159, own_k160, own_k191, own_k192, own_k194, own_k223, own_k224, own_k237, own_k239, own_k240, own_k244, own_k248, own_k255, own_k2048, own_k55296, own_k57343, own_k65536, own_k1114111, a1, a2, a3, a4] at c6; simp only [a1, a2, a3, a4]; omega) (by simp only [own_lt32, own_k0, own_k1, own_k2, own_k3, own_k4, own_k7, own_k8, own_k63, own_k127, own_k128, own_k143, own_k144, own_k159, own_k160, own_k191, own_k192, own_k194, own_k223, own_k224, own_k237, own_k239, own_k240, own_k244, own_k248, own_k255, own_k2048, own_k55296, own_k57343, own_k65536, own_k1114111, a1, a2, a3, a4] at c6; simp only [a1, a2, a3, a4]; omega))) rfl ?_
              refine Go.sipush 111 (255) d5_108 (by decide) rfl ?_
              refine Go.iand 112 d5_111 rfl ?_
              refine Go.istore 114 #[.val (.ref a), .val (.int p), .val (.int t), .val (.int ((xs.getD (Int32.toNatClampNeg p) 0) &&& (255 : Int32))), .val (.int (4 : Int32)), .val (.int (((xs.getD (Int32.toNatClampNeg p) 0) &&& (255 : Int32)) &&& (7 : Int32))), .val (.int ((xs.getD (Int32.toNatClampNeg (p + (1 : Int32))) 0) &&& (255 : Int32))), .unset] d5_112 rfl rfl ?_
              refine Go.iload 116 d5_114 rfl rfl ?_
              refine Go.sipush 119 (192) d5_116 (by decide) rfl ?_
              refine Go.iand 120 d5_119 rfl ?_
              refine Go.sipush 123 (128) d5_120 (by decide) rfl ?_
              refine Go.icmp_eq 130 126 d5_123 (by decide) (by decide) rfl (fun c7 => ?_) (fun c7 => ?_)
              ·
                refine Go.iload 132 d5_130 rfl rfl ?_
                refine Go.bipush 134 (6) d5_132 (by decide) rfl ?_
                refine Go.ishl 135 d5_134 rfl ?_
                refine Go.iload 137 d5_135 rfl rfl ?_
                refine Go.bipush 139 (63) d5_137 (by decide) rfl ?_
                refine Go.iand 140 d5_139 rfl ?_
                refine Go.ior 141 d5_140 rfl ?_
                refine Go.istore 143 #[.val (.ref a), .val (.int p), .val (.int t), .val (.int ((xs.getD (Int32.toNatClampNeg p) 0) &&& (255 : Int32))), .val (.int (4 : Int32)), .val (.int (((((xs.getD (Int32.toNatClampNeg p) 0) &&& (255 : Int32)) &&& (7 : Int32)) <<< ((6 : Int32) &&& 31)) ||| (((xs.getD (Int32.toNatClampNeg (p + (1 : Int32))) 0) &&& (255 : Int32)) &&& (63 : Int32)))), .val (.int ((xs.getD (Int32.toNatClampNeg (p + (1 : Int32))) 0) &&& (255 : Int32))), .unset] d5_141 rfl rfl ?_
                refine Go.iload 145 d5_143 rfl rfl ?_
                refine Go.iconst 146 (3) d5_145 (by decide) rfl ?_
                refine Go.icmp_lt 189 149 d5_146 (by decide) (by decide) rfl (fun c => absurd c (by decide)) (fun _ => ?_)
                refine Go.aload_n 150 d5_149 rfl rfl rfl ?_
                refine Go.iload_n 151 d5_150 rfl rfl ?_
                refine Go.iconst 152 (2) d5_151 (by decide) rfl ?_
                refine Go.iadd 153 d5_152 rfl ?_
                refine Go.baload (x := (xs.getD (Int32.toNatClampNeg (p + (2 : Int32))) 0)) ((Int32.toNatClampNeg (p + (2 : Int32)))) 154 d5_153 fa0 (own_ixn (by simp only [own_lt32, own_k0, own_k1, own_k2, own_k3, own_k4, own_k7, own_k8, own_k63, own_k127, own_k128, own_k143, own_k144, own_k159, own_k160, own_k191, own_k192, own_k194, own_k223, own_k224, own_k237, own_k239, own_k240, own_k244, own_k248, own_k255, own_k2048, own_k55296, own_k57343, own_k65536, own_k1114111, a1, a2, a3, a4] at c6; simp only [a1, a2, a3, a4]; omega)) rfl (own_getq (own_ixl hl (by simp only [own_lt32, own_k0, own_k1, own_k2, own_k3, own_k4, own_k7, own_k8, own_k63, own_k127, own_k128, own_k143, own_k144, own_k159, own_k160, own_k191, own_k192, own_k194, own_k223, own_k224, own_k237, own_k239, own_k240, own_k244, own_k248, own_k255, own_k2048, own_k55296, own_k57343, own_k65536, own_k1114111, a1, a2, a3, a4] at c6; simp only [a1, a2, a3, a4]; omega) (by simp only [own_lt32, own_k0, own_k1, own_k2, own_k3, own_k4, own_k7, own_k8, own_k63, own_k127, own_k128, own_k143, own_k144, own_k159, own_k160, own_k191, own_k192, own_k194, own_k223, own_k224, own_k237, own_k239, own_k240, own_k244, own_k248, own_k255, own_k2048, own_k55296, own_k57343, own_k65536, own_k1114111, a1, a2, a3, a4] at c6; simp only [a1, a2, a3, a4]; omega))) rfl ?_
                refine Go.sipush 157 (255) d5_154 (by decide) rfl ?_
                refine Go.iand 158 d5_157 rfl ?_
                refine Go.istore 160 #[.val (.ref a), .val (.int p), .val (.int t), .val (.int ((xs.getD (Int32.toNatClampNeg p) 0) &&& (255 : Int32))), .val (.int (4 : Int32)), .val (.int (((((xs.getD (Int32.toNatClampNeg p) 0) &&& (255 : Int32)) &&& (7 : Int32)) <<< ((6 : Int32) &&& 31)) ||| (((xs.getD (Int32.toNatClampNeg (p + (1 : Int32))) 0) &&& (255 : Int32)) &&& (63 : Int32)))), .val (.int ((xs.getD (Int32.toNatClampNeg (p + (1 : Int32))) 0) &&& (255 : Int32))), .val (.int ((xs.getD (Int32.toNatClampNeg (p + (2 : Int32))) 0) &&& (255 : Int32)))] d5_158 rfl rfl ?_
                refine Go.iload 162 d5_160 rfl rfl ?_
                refine Go.sipush 165 (192) d5_162 (by decide) rfl ?_
                refine Go.iand 166 d5_165 rfl ?_
                refine Go.sipush 169 (128) d5_166 (by decide) rfl ?_
                refine Go.icmp_eq 176 172 d5_169 (by decide) (by decide) rfl (fun c9 => ?_) (fun c9 => ?_)
                ·
                  refine Go.iload 178 d5_176 rfl rfl ?_
                  refine Go.bipush 180 (6) d5_178 (by decide) rfl ?_
                  refine Go.ishl 181 d5_180 rfl ?_
                  refine Go.iload 183 d5_181 rfl rfl ?_
                  refine Go.bipush 185 (63) d5_183 (by decide) rfl ?_
                  refine Go.iand 186 d5_185 rfl ?_
                  refine Go.ior 187 d5_186 rfl ?_
                  refine Go.istore 189 #[.val (.ref a), .val (.int p), .val (.int t), .val (.int ((xs.getD (Int32.toNatClampNeg p) 0) &&& (255 : Int32))), .val (.int (4 : Int32)), .val (.int (((((((xs.getD (Int32.toNatClampNeg p) 0) &&& (255 : Int32)) &&& (7 : Int32)) <<< ((6 : Int32) &&& 31)) ||| (((xs.getD (Int32.toNatClampNeg (p + (1 : Int32))) 0) &&& (255 : Int32)) &&& (63 : Int32))) <<< ((6 : Int32) &&& 31)) ||| (((xs.getD (Int32.toNatClampNeg (p + (2 : Int32))) 0) &&& (255 : Int32)) &&& (63 : Int32)))), .val (.int ((xs.getD (Int32.toNatClampNeg (p + (1 : Int32))) 0) &&& (255 : Int32))), .val (.int ((xs.getD (Int32.toNatClampNeg (p + (2 : Int32))) 0) &&& (255 : Int32)))] d5_187 rfl rfl ?_
                  refine Go.iload 191 d5_189 rfl rfl ?_
                  refine Go.iconst 192 (4) d5_191 (by decide) rfl ?_
                  refine Go.icmp_ne 235 195 d5_192 (by decide) (by decide) rfl (fun c => absurd c (by decide)) (fun _ => ?_)
                  refine Go.aload_n 196 d5_195 rfl rfl rfl ?_
                  refine Go.iload_n 197 d5_196 rfl rfl ?_
                  refine Go.iconst 198 (3) d5_197 (by decide) rfl ?_
                  refine Go.iadd 199 d5_198 rfl ?_
                  refine Go.baload (x := (xs.getD (Int32.toNatClampNeg (p + (3 : Int32))) 0)) ((Int32.toNatClampNeg (p + (3 : Int32)))) 200 d5_199 fa0 (own_ixn (by simp only [own_lt32, own_k0, own_k1, own_k2, own_k3, own_k4, own_k7, own_k8, own_k63, own_k127, own_k128, own_k143, own_k144, own_k159, own_k160, own_k191, own_k192, own_k194, own_k223, own_k224, own_k237, own_k239, own_k240, own_k244, own_k248, own_k255, own_k2048, own_k55296, own_k57343, own_k65536, own_k1114111, a1, a2, a3, a4] at c6; simp only [a1, a2, a3, a4]; omega)) rfl (own_getq (own_ixl hl (by simp only [own_lt32, own_k0, own_k1, own_k2, own_k3, own_k4, own_k7, own_k8, own_k63, own_k127, own_k128, own_k143, own_k144, own_k159, own_k160, own_k191, own_k192, own_k194, own_k223, own_k224, own_k237, own_k239, own_k240, own_k244, own_k248, own_k255, own_k2048, own_k55296, own_k57343, own_k65536, own_k1114111, a1, a2, a3, a4] at c6; simp only [a1, a2, a3, a4]; omega) (by simp only [own_lt32, own_k0, own_k1, own_k2, own_k3, own_k4, own_k7, own_k8, own_k63, own_k127, own_k128, own_k143, own_k144, own_k159, own_k160, own_k191, own_k192, own_k194, own_k223, own_k224, own_k237, own_k239, own_k240, own_k244, own_k248, own_k255, own_k2048, own_k55296, own_k57343, own_k65536, own_k1114111, a1, a2, a3, a4] at c6; simp only [a1, a2, a3, a4]; omega))) rfl ?_
                  refine Go.sipush 203 (255) d5_200 (by decide) rfl ?_
                  refine Go.iand 204 d5_203 rfl ?_
                  refine Go.istore 206 #[.val (.ref a), .val (.int p), .val (.int t), .val (.int ((xs.getD (Int32.toNatClampNeg p) 0) &&& (255 : Int32))), .val (.int (4 : Int32)), .val (.int (((((((xs.getD (Int32.toNatClampNeg p) 0) &&& (255 : Int32)) &&& (7 : Int32)) <<< ((6 : Int32) &&& 31)) ||| (((xs.getD (Int32.toNatClampNeg (p + (1 : Int32))) 0) &&& (255 : Int32)) &&& (63 : Int32))) <<< ((6 : Int32) &&& 31)) ||| (((xs.getD (Int32.toNatClampNeg (p + (2 : Int32))) 0) &&& (255 : Int32)) &&& (63 : Int32)))), .val (.int ((xs.getD (Int32.toNatClampNeg (p + (1 : Int32))) 0) &&& (255 : Int32))), .val (.int ((xs.getD (Int32.toNatClampNeg (p + (3 : Int32))) 0) &&& (255 : Int32)))] d5_204 rfl rfl ?_
                  refine Go.iload 208 d5_206 rfl rfl ?_
                  refine Go.sipush 211 (192) d5_208 (by decide) rfl ?_
                  refine Go.iand 212 d5_211 rfl ?_
                  refine Go.sipush 215 (128) d5_212 (by decide) rfl ?_
                  refine Go.icmp_eq 222 218 d5_215 (by decide) (by decide) rfl (fun c11 => ?_) (fun c11 => ?_)
                  ·
                    refine Go.iload 224 d5_222 rfl rfl ?_
                    refine Go.bipush 226 (6) d5_224 (by decide) rfl ?_
                    refine Go.ishl 227 d5_226 rfl ?_
                    refine Go.iload 229 d5_227 rfl rfl ?_
                    refine Go.bipush 231 (63) d5_229 (by decide) rfl ?_
                    refine Go.iand 232 d5_231 rfl ?_
                    refine Go.ior 233 d5_232 rfl ?_
                    refine Go.istore 235 #[.val (.ref a), .val (.int p), .val (.int t), .val (.int ((xs.getD (Int32.toNatClampNeg p) 0) &&& (255 : Int32))), .val (.int (4 : Int32)), .val (.int (((((((((xs.getD (Int32.toNatClampNeg p) 0) &&& (255 : Int32)) &&& (7 : Int32)) <<< ((6 : Int32) &&& 31)) ||| (((xs.getD (Int32.toNatClampNeg (p + (1 : Int32))) 0) &&& (255 : Int32)) &&& (63 : Int32))) <<< ((6 : Int32) &&& 31)) ||| (((xs.getD (Int32.toNatClampNeg (p + (2 : Int32))) 0) &&& (255 : Int32)) &&& (63 : Int32))) <<< ((6 : Int32) &&& 31)) ||| (((xs.getD (Int32.toNatClampNeg (p + (3 : Int32))) 0) &&& (255 : Int32)) &&& (63 : Int32)))), .val (.int ((xs.getD (Int32.toNatClampNeg (p + (1 : Int32))) 0) &&& (255 : Int32))), .val (.int ((xs.getD (Int32.toNatClampNeg (p + (3 : Int32))) 0) &&& (255 : Int32)))] d5_233 rfl rfl ?_
                    refine Go.iload 237 d5_235 rfl rfl ?_
                    refine Go.iconst 238 (2) d5_237 (by decide) rfl ?_
                    refine Go.icmp_ne 247 241 d5_238 (by decide) (by decide) rfl (fun _ => ?_) (fun c => absurd c (by decide))
                    refine Go.iload 249 d5_247 rfl rfl ?_
                    refine Go.iconst 250 (3) d5_249 (by decide) rfl ?_
                    refine Go.icmp_ne 259 253 d5_250 (by decide) (by decide) rfl (fun _ => ?_) (fun c => absurd c (by decide))
                    refine Go.ldc 261 d5_259 (tw21 hw) rfl ?_
                    refine Go.istore 263 #[.val (.ref a), .val (.int p), .val (.int t), .val (.int ((xs.getD (Int32.toNatClampNeg p) 0) &&& (255 : Int32))), .val (.int (4 : Int32)), .val (.int (((((((((xs.getD (Int32.toNatClampNeg p) 0) &&& (255 : Int32)) &&& (7 : Int32)) <<< ((6 : Int32) &&& 31)) ||| (((xs.getD (Int32.toNatClampNeg (p + (1 : Int32))) 0) &&& (255 : Int32)) &&& (63 : Int32))) <<< ((6 : Int32) &&& 31)) ||| (((xs.getD (Int32.toNatClampNeg (p + (2 : Int32))) 0) &&& (255 : Int32)) &&& (63 : Int32))) <<< ((6 : Int32) &&& 31)) ||| (((xs.getD (Int32.toNatClampNeg (p + (3 : Int32))) 0) &&& (255 : Int32)) &&& (63 : Int32)))), .val (.int ((xs.getD (Int32.toNatClampNeg (p + (1 : Int32))) 0) &&& (255 : Int32))), .val (.int (65536 : Int32))] d5_261 rfl rfl ?_
                    refine Go.iload 265 d5_263 rfl rfl ?_
                    refine Go.iload 267 d5_265 rfl rfl ?_
                    refine Go.icmp_lt 291 270 d5_267 (by decide) (by decide) rfl (fun c14 => ?_) (fun c14 => ?_)
                    ·
                      refine Go.iload_n 292 d5_291 rfl rfl ?_
                      refine Go.iconst 293 (-1) d5_292 (by decide) rfl ?_
                      refine Go.ixor 294 d5_293 rfl ?_
                      refine Go.ireturn d5_294 rfl (by decide) (by decide) ?_
                      simp only [own_byE] at c1 c2 c3 c4 c5 c7 c9 c11 c14
                      simp only [q1, q2, q3] at c7 c9 c11
                      simp only [own_lt32, own_eq32, own_k0, own_k1, own_k2, own_k3, own_k4, own_k7, own_k8, own_k63, own_k127, own_k128, own_k143, own_k144, own_k159, own_k160, own_k191, own_k192, own_k194, own_k223, own_k224, own_k237, own_k239, own_k240, own_k244, own_k248, own_k255, own_k2048, own_k55296, own_k57343, own_k65536, own_k1114111, a1, a2, a3, a4] at c1 c2 c3 c4 c5 c6 c14
                      clear q1 q2 q3
                      have m7 := own_m7 r0.1
                      have g4a := own_cpS (x := own_by xs p &&& 7) (y := own_by xs (p + 1)) m7.2 (by omega) r1.1
                      have g4b := own_cpS (x := _) (y := own_by xs (p + 2)) g4a.2 (by omega) r2.1
                      have g4 := own_cpS (x := _) (y := own_by xs (p + 3)) g4b.2 (by omega) r3.1
                      have hnx : own_nx xs p t = (p ^^^ -1) := by
                        unfold own_nx
                        rw [if_neg (by omega), if_neg (by omega), if_neg (by omega), if_neg (by omega)]
                      exact ⟨hnx.symm, rfl⟩
                    ·
                      refine Go.iload 272 d5_270 rfl rfl ?_
                      refine Go.ldc 274 d5_272 (tw19 hw) rfl ?_
                      refine Go.icmp_gt 291 277 d5_274 (by decide) (by decide) rfl (fun c15 => ?_) (fun c15 => ?_)
                      ·
                        refine Go.iload_n 292 d5_291 rfl rfl ?_
                        refine Go.iconst 293 (-1) d5_292 (by decide) rfl ?_
                        refine Go.ixor 294 d5_293 rfl ?_
                        refine Go.ireturn d5_294 rfl (by decide) (by decide) ?_
                        simp only [own_byE] at c1 c2 c3 c4 c5 c7 c9 c11 c14 c15
                        simp only [q1, q2, q3] at c7 c9 c11
                        simp only [own_lt32, own_eq32, own_k0, own_k1, own_k2, own_k3, own_k4, own_k7, own_k8, own_k63, own_k127, own_k128, own_k143, own_k144, own_k159, own_k160, own_k191, own_k192, own_k194, own_k223, own_k224, own_k237, own_k239, own_k240, own_k244, own_k248, own_k255, own_k2048, own_k55296, own_k57343, own_k65536, own_k1114111, a1, a2, a3, a4] at c1 c2 c3 c4 c5 c6 c14 c15
                        clear q1 q2 q3
                        have m7 := own_m7 r0.1
                        have g4a := own_cpS (x := own_by xs p &&& 7) (y := own_by xs (p + 1)) m7.2 (by omega) r1.1
                        have g4b := own_cpS (x := _) (y := own_by xs (p + 2)) g4a.2 (by omega) r2.1
                        have g4 := own_cpS (x := _) (y := own_by xs (p + 3)) g4b.2 (by omega) r3.1
                        have hnx : own_nx xs p t = (p ^^^ -1) := by
                          unfold own_nx
                          rw [if_neg (by omega), if_neg (by omega), if_neg (by omega), if_neg (by omega)]
                        exact ⟨hnx.symm, rfl⟩
                      ·
                        refine Go.iload 279 d5_277 rfl rfl ?_
                        refine Go.ldc 281 d5_279 (tw20 hw) rfl ?_
                        refine Go.icmp_lt 295 284 d5_281 (by decide) (by decide) rfl (fun c => by exfalso; simp only [own_lt32, own_eq32, own_k0, own_k1, own_k2, own_k3, own_k4, own_k7, own_k8, own_k63, own_k127, own_k128, own_k143, own_k144, own_k159, own_k160, own_k191, own_k192, own_k194, own_k223, own_k224, own_k237, own_k239, own_k240, own_k244, own_k248, own_k255, own_k2048, own_k55296, own_k57343, own_k65536, own_k1114111] at c c14 c15; omega) (fun _ => ?_)
                        refine Go.iload 286 d5_284 rfl rfl ?_
                        refine Go.ldc 288 d5_286 (tw22 hw) rfl ?_
                        refine Go.icmp_gt 295 291 d5_288 (by decide) (by decide) rfl (fun _ => ?_) (fun c => by exfalso; simp only [own_lt32, own_eq32, own_k0, own_k1, own_k2, own_k3, own_k4, own_k7, own_k8, own_k63, own_k127, own_k128, own_k143, own_k144, own_k159, own_k160, own_k191, own_k192, own_k194, own_k223, own_k224, own_k237, own_k239, own_k240, own_k244, own_k248, own_k255, own_k2048, own_k55296, own_k57343, own_k65536, own_k1114111] at c c14 c15; omega)
                        refine Go.iload_n 296 d5_295 rfl rfl ?_
                        refine Go.iload 298 d5_296 rfl rfl ?_
                        refine Go.iadd 299 d5_298 rfl ?_
                        refine Go.ireturn d5_299 rfl (by decide) (by decide) ?_
                        simp only [own_byE] at c1 c2 c3 c4 c5 c7 c9 c11 c14 c15
                        simp only [q1, q2, q3] at c7 c9 c11
                        simp only [own_lt32, own_eq32, own_k0, own_k1, own_k2, own_k3, own_k4, own_k7, own_k8, own_k63, own_k127, own_k128, own_k143, own_k144, own_k159, own_k160, own_k191, own_k192, own_k194, own_k223, own_k224, own_k237, own_k239, own_k240, own_k244, own_k248, own_k255, own_k2048, own_k55296, own_k57343, own_k65536, own_k1114111, a1, a2, a3, a4] at c1 c2 c3 c4 c5 c6 c14 c15
                        clear q1 q2 q3
                        have m7 := own_m7 r0.1
                        have g4a := own_cpS (x := own_by xs p &&& 7) (y := own_by xs (p + 1)) m7.2 (by omega) r1.1
                        have g4b := own_cpS (x := _) (y := own_by xs (p + 2)) g4a.2 (by omega) r2.1
                        have g4 := own_cpS (x := _) (y := own_by xs (p + 3)) g4b.2 (by omega) r3.1
                        have hnx : own_nx xs p t = p + 4 := by
                          unfold own_nx
                          rw [if_neg (by omega), if_neg (by omega), if_neg (by omega), if_pos (by omega)]
                        exact ⟨hnx.symm, rfl⟩
                  ·
                    refine Go.iload_n 219 d5_218 rfl rfl ?_
                    refine Go.iconst 220 (-1) d5_219 (by decide) rfl ?_
                    refine Go.ixor 221 d5_220 rfl ?_
                    refine Go.ireturn d5_221 rfl (by decide) (by decide) ?_
                    simp only [own_byE] at c1 c2 c3 c4 c5 c7 c9 c11
                    simp only [q1, q2, q3] at c7 c9 c11
                    simp only [own_lt32, own_eq32, own_k0, own_k1, own_k2, own_k3, own_k4, own_k7, own_k8, own_k63, own_k127, own_k128, own_k143, own_k144, own_k159, own_k160, own_k191, own_k192, own_k194, own_k223, own_k224, own_k237, own_k239, own_k240, own_k244, own_k248, own_k255, own_k2048, own_k55296, own_k57343, own_k65536, own_k1114111, a1, a2, a3, a4] at c1 c2 c3 c4 c5 c6
                    clear q1 q2 q3
                    have m7 := own_m7 r0.1
                    have g4a := own_cpS (x := own_by xs p &&& 7) (y := own_by xs (p + 1)) m7.2 (by omega) r1.1
                    have g4b := own_cpS (x := _) (y := own_by xs (p + 2)) g4a.2 (by omega) r2.1
                    have g4 := own_cpS (x := _) (y := own_by xs (p + 3)) g4b.2 (by omega) r3.1
                    have hnx : own_nx xs p t = (p ^^^ -1) := by
                      unfold own_nx
                      rw [if_neg (by omega), if_neg (by omega), if_neg (by omega), if_neg (by omega)]
                    exact ⟨hnx.symm, rfl⟩
                ·
                  refine Go.iload_n 173 d5_172 rfl rfl ?_
                  refine Go.iconst 174 (-1) d5_173 (by decide) rfl ?_
                  refine Go.ixor 175 d5_174 rfl ?_
                  refine Go.ireturn d5_175 rfl (by decide) (by decide) ?_
                  simp only [own_byE] at c1 c2 c3 c4 c5 c7 c9
                  simp only [q1, q2, q3] at c7 c9
                  simp only [own_lt32, own_eq32, own_k0, own_k1, own_k2, own_k3, own_k4, own_k7, own_k8, own_k63, own_k127, own_k128, own_k143, own_k144, own_k159, own_k160, own_k191, own_k192, own_k194, own_k223, own_k224, own_k237, own_k239, own_k240, own_k244, own_k248, own_k255, own_k2048, own_k55296, own_k57343, own_k65536, own_k1114111, a1, a2, a3, a4] at c1 c2 c3 c4 c5 c6
                  clear q1 q2 q3
                  have m7 := own_m7 r0.1
                  have g4a := own_cpS (x := own_by xs p &&& 7) (y := own_by xs (p + 1)) m7.2 (by omega) r1.1
                  have g4b := own_cpS (x := _) (y := own_by xs (p + 2)) g4a.2 (by omega) r2.1
                  have g4 := own_cpS (x := _) (y := own_by xs (p + 3)) g4b.2 (by omega) r3.1
                  have hnx : own_nx xs p t = (p ^^^ -1) := by
                    unfold own_nx
                    rw [if_neg (by omega), if_neg (by omega), if_neg (by omega), if_neg (by omega)]
                  exact ⟨hnx.symm, rfl⟩
              ·
                refine Go.iload_n 127 d5_126 rfl rfl ?_
                refine Go.iconst 128 (-1) d5_127 (by decide) rfl ?_
                refine Go.ixor 129 d5_128 rfl ?_
                refine Go.ireturn d5_129 rfl (by decide) (by decide) ?_
                simp only [own_byE] at c1 c2 c3 c4 c5 c7
                simp only [q1, q2, q3] at c7
                simp only [own_lt32, own_eq32, own_k0, own_k1, own_k2, own_k3, own_k4, own_k7, own_k8, own_k63, own_k127, own_k128, own_k143, own_k144, own_k159, own_k160, own_k191, own_k192, own_k194, own_k223, own_k224, own_k237, own_k239, own_k240, own_k244, own_k248, own_k255, own_k2048, own_k55296, own_k57343, own_k65536, own_k1114111, a1, a2, a3, a4] at c1 c2 c3 c4 c5 c6
                clear q1 q2 q3
                have m7 := own_m7 r0.1
                have g4a := own_cpS (x := own_by xs p &&& 7) (y := own_by xs (p + 1)) m7.2 (by omega) r1.1
                have g4b := own_cpS (x := _) (y := own_by xs (p + 2)) g4a.2 (by omega) r2.1
                have g4 := own_cpS (x := _) (y := own_by xs (p + 3)) g4b.2 (by omega) r3.1
                have hnx : own_nx xs p t = (p ^^^ -1) := by
                  unfold own_nx
                  rw [if_neg (by omega), if_neg (by omega), if_neg (by omega), if_neg (by omega)]
                exact ⟨hnx.symm, rfl⟩
            ·
              refine Go.iload_n 100 d5_99 rfl rfl ?_
              refine Go.iconst 101 (-1) d5_100 (by decide) rfl ?_
              refine Go.ixor 102 d5_101 rfl ?_
              refine Go.ireturn d5_102 rfl (by decide) (by decide) ?_
              simp only [own_byE] at c1 c2 c3 c4 c5
              simp only [own_lt32, own_eq32, own_k0, own_k1, own_k2, own_k3, own_k4, own_k7, own_k8, own_k63, own_k127, own_k128, own_k143, own_k144, own_k159, own_k160, own_k191, own_k192, own_k194, own_k223, own_k224, own_k237, own_k239, own_k240, own_k244, own_k248, own_k255, own_k2048, own_k55296, own_k57343, own_k65536, own_k1114111, a1, a2, a3, a4] at c1 c2 c3 c4 c5 c6
              clear q1 q2 q3
              have m7 := own_m7 r0.1
              have g4a := own_cpS (x := own_by xs p &&& 7) (y := own_by xs (p + 1)) m7.2 (by omega) r1.1
              have g4b := own_cpS (x := _) (y := own_by xs (p + 2)) g4a.2 (by omega) r2.1
              have g4 := own_cpS (x := _) (y := own_by xs (p + 3)) g4b.2 (by omega) r3.1
              have hnx : own_nx xs p t = (p ^^^ -1) := by
                unfold own_nx
                rw [if_neg (by omega), if_neg (by omega), if_neg (by omega), if_neg (by omega)]
              exact ⟨hnx.symm, rfl⟩
        ·
          refine Go.iconst 57 (3) d5_56 (by decide) rfl ?_
          refine Go.istore 59 #[.val (.ref a), .val (.int p), .val (.int t), .val (.int ((xs.getD (Int32.toNatClampNeg p) 0) &&& (255 : Int32))), .val (.int (3 : Int32)), .unset, .unset, .unset] d5_57 rfl rfl ?_
          refine Go.iload_n 60 d5_59 rfl rfl ?_
          refine Go.bipush 62 (15) d5_60 (by decide) rfl ?_
          refine Go.iand 63 d5_62 rfl ?_
          refine Go.istore 65 #[.val (.ref a), .val (.int p), .val (.int t), .val (.int ((xs.getD (Int32.toNatClampNeg p) 0) &&& (255 : Int32))), .val (.int (3 : Int32)), .val (.int (((xs.getD (Int32.toNatClampNeg p) 0) &&& (255 : Int32)) &&& (15 : Int32))), .unset, .unset] d5_63 rfl rfl ?_
          refine Go.goto 91 d5_65 (by decide) (by decide) ?_
          refine Go.iload_n 92 d5_91 rfl rfl ?_
          refine Go.iload 94 d5_92 rfl rfl ?_
          refine Go.iadd 95 d5_94 rfl ?_
          refine Go.iload_n 96 d5_95 rfl rfl ?_
          refine Go.icmp_le 103 99 d5_96 (by decide) (by decide) rfl (fun c18 => ?_) (fun c18 => ?_)
          ·
            refine Go.aload_n 104 d5_103 rfl rfl rfl ?_
            refine Go.iload_n 105 d5_104 rfl rfl ?_
            refine Go.iconst 106 (1) d5_105 (by decide) rfl ?_
            refine Go.iadd 107 d5_106 rfl ?_
            refine Go.baload (x := (xs.getD (Int32.toNatClampNeg (p + (1 : Int32))) 0)) ((Int32.toNatClampNeg (p + (1 : Int32)))) 108 d5_107 fa0 (own_ixn (by simp only [own_lt32, own_k0, own_k1, own_k2, own_k3, own_k4, own_k7, own_k8, own_k63, own_k127, own_k128, own_k143, own_k144, own_k159, own_k160, own_k191, own_k192, own_k194, own_k223, own_k224, own_k237, own_k239, own_k240, own_k244, own_k248, own_k255, own_k2048, own_k55296, own_k57343, own_k65536, own_k1114111, a1, a2, a3, a4] at c18; simp only [a1, a2, a3, a4]; omega)) rfl (own_getq (own_ixl hl (by simp only [own_lt32, own_k0, own_k1, own_k2, own_k3, own_k4, own_k7, own_k8, own_k63, own_k127, own_k128, own_k143, own_k144, own_k159, own_k160, own_k191, own_k192, own_k194, own_k223, own_k224, own_k237, own_k239, own_k240, own_k244, own_k248, own_k255, own_k2048, own_k55296, own_k57343, own_k65536, own_k1114111, a1, a2, a3, a4] at c18; simp only [a1, a2, a3, a4]; omega) (by simp only [own_lt32, own_k0, own_k1, own_k2, own_k3, own_k4, own_k7, own_k8, own_k63, own_k127, own_k128, own_k143, own_k144, own_k159, own_k160, own_k191, own_k192, own_k194, own_k223, own_k224, own_k237, own_k239, own_k240, own_k244, own_k248, own_k255, own_k2048, own_k55296, own_k57343, own_k65536, own_k1114111, a1, a2, a3, a4] at c18; simp only [a1, a2, a3, a4]; omega))) rfl ?_
            refine Go.sipush 111 (255) d5_108 (by decide) rfl ?_
            refine Go.iand 112 d5_111 rfl ?_
            refine Go.istore 114 #[.val (.ref a), .val (.int p), .val (.int t), .val (.int ((xs.getD (Int32.toNatClampNeg p) 0) &&& (255 : Int32))), .val (.int (3 : Int32)), .val (.int (((xs.getD (Int32.toNatClampNeg p) 0) &&& (255 : Int32)) &&& (15 : Int32))), .val (.int ((xs.getD (Int32.toNatClampNeg (p + (1 : Int32))) 0) &&& (255 : Int32))), .unset] d5_112 rfl rfl ?_
            refine Go.iload 116 d5_114 rfl rfl ?_
            refine Go.sipush 119 (192) d5_116 (by decide) rfl ?_
            refine Go.iand 120 d5_119 rfl ?_
            refine Go.sipush 123 (128) d5_120 (by decide) rfl ?_
            refine Go.icmp_eq 130 126 d5_123 (by decide) (by decide) rfl (fun c19 => ?_) (fun c19 => ?_)
            ·
              refine Go.iload 132 d5_130 rfl rfl ?_
              refine Go.bipush 134 (6) d5_132 (by decide) rfl ?_
              refine Go.ishl 135 d5_134 rfl ?_
              refine Go.iload 137 d5_135 rfl rfl ?_
              refine Go.bipush 139 (63) d5_137 (by decide) rfl ?_
              refine Go.iand 140 d5_139 rfl ?_
              refine Go.ior 141 d5_140 rfl ?_
              refine Go.istore 143 #[.val (.ref a), .val (.int p), .val (.int t), .val (.int ((xs.getD (Int32.toNatClampNeg p) 0) &&& (255 : Int32))), .val (.int (3 : Int32)), .val (.int (((((xs.getD (Int32.toNatClampNeg p) 0) &&& (255 : Int32)) &&& (15 : Int32)) <<< ((6 : Int32) &&& 31)) ||| (((xs.getD (Int32.toNatClampNeg (p + (1 : Int32))) 0) &&& (255 : Int32)) &&& (63 : Int32)))), .val (.int ((xs.getD (Int32.toNatClampNeg (p + (1 : Int32))) 0) &&& (255 : Int32))), .unset] d5_141 rfl rfl ?_
              refine Go.iload 145 d5_143 rfl rfl ?_
              refine Go.iconst 146 (3) d5_145 (by decide) rfl ?_
              refine Go.icmp_lt 189 149 d5_146 (by decide) (by decide) rfl (fun c => absurd c (by decide)) (fun _ => ?_)
              refine Go.aload_n 150 d5_149 rfl rfl rfl ?_
              refine Go.iload_n 151 d5_150 rfl rfl ?_
              refine Go.iconst 152 (2) d5_151 (by decide) rfl ?_
              refine Go.iadd 153 d5_152 rfl ?_
              refine Go.baload (x := (xs.getD (Int32.toNatClampNeg (p + (2 : Int32))) 0)) ((Int32.toNatClampNeg (p + (2 : Int32)))) 154 d5_153 fa0 (own_ixn (by simp only [own_lt32, own_k0, own_k1, own_k2, own_k3, own_k4, own_k7, own_k8, own_k63, own_k127, own_k128, own_k143, own_k144, own_k159, own_k160, own_k191, own_k192, own_k194, own_k223, own_k224, own_k237, own_k239, own_k240, own_k244, own_k248, own_k255, own_k2048, own_k55296, own_k57343, own_k65536, own_k1114111, a1, a2, a3, a4] at c18; simp only [a1, a2, a3, a4]; omega)) rfl (own_getq (own_ixl hl (by simp only [own_lt32, own_k0, own_k1, own_k2, own_k3, own_k4, own_k7, own_k8, own_k63, own_k127, own_k128, own_k143, own_k144, own_k159, own_k160, own_k191, own_k192, own_k194, own_k223, own_k224, own_k237, own_k239, own_k240, own_k244, own_k248, own_k255, own_k2048, own_k55296, own_k57343, own_k65536, own_k1114111, a1, a2, a3, a4] at c18; simp only [a1, a2, a3, a4]; omega) (by simp only [own_lt32, own_k0, own_k1, own_k2, own_k3, own_k4, own_k7, own_k8, own_k63, own_k127, own_k128, own_k143, own_k144, own_k159, own_k160, own_k191, own_k192, own_k194, own_k223, own_k224, own_k237, own_k239, own_k240, own_k244, own_k248, own_k255, own_k2048, own_k55296, own_k57343, own_k65536, own_k1114111, a1, a2, a3, a4] at c18; simp only [a1, a2, a3, a4]; omega))) rfl ?_
              refine Go.sipush 157 (255) d5_154 (by decide) rfl ?_
              refine Go.iand 158 d5_157 rfl ?_
              refine Go.istore 160 #[.val (.ref a), .val (.int p), .val (.int t), .val (.int ((xs.getD (Int32.toNatClampNeg p) 0) &&& (255 : Int32))), .val (.int (3 : Int32)), .val (.int (((((xs.getD (Int32.toNatClampNeg p) 0) &&& (255 : Int32)) &&& (15 : Int32)) <<< ((6 : Int32) &&& 31)) ||| (((xs.getD (Int32.toNatClampNeg (p + (1 : Int32))) 0) &&& (255 : Int32)) &&& (63 : Int32)))), .val (.int ((xs.getD (Int32.toNatClampNeg (p + (1 : Int32))) 0) &&& (255 : Int32))), .val (.int ((xs.getD (Int32.toNatClampNeg (p + (2 : Int32))) 0) &&& (255 : Int32)))] d5_158 rfl rfl ?_
              refine Go.iload 162 d5_160 rfl rfl ?_
              refine Go.sipush 165 (192) d5_162 (by decide) rfl ?_
              refine Go.iand 166 d5_165 rfl ?_
              refine Go.sipush 169 (128) d5_166 (by decide) rfl ?_
              refine Go.icmp_eq 176 172 d5_169 (by decide) (by decide) rfl (fun c21 => ?_) (fun c21 => ?_)
              ·
                refine Go.iload 178 d5_176 rfl rfl ?_
                refine Go.bipush 180 (6) d5_178 (by decide) rfl ?_
                refine Go.ishl 181 d5_180 rfl ?_
                refine Go.iload 183 d5_181 rfl rfl ?_
                refine Go.bipush 185 (63) d5_183 (by decide) rfl ?_
                refine Go.iand 186 d5_185 rfl ?_
                refine Go.ior 187 d5_186 rfl ?_
                refine Go.istore 189 #[.val (.ref a), .val (.int p), .val (.int t), .val (.int ((xs.getD (Int32.toNatClampNeg p) 0) &&& (255 : Int32))), .val (.int (3 : Int32)), .val (.int (((((((xs.getD (Int32.toNatClampNeg p) 0) &&& (255 : Int32)) &&& (15 : Int32)) <<< ((6 : Int32) &&& 31)) ||| (((xs.getD (Int32.toNatClampNeg (p + (1 : Int32))) 0) &&& (255 : Int32)) &&& (63 : Int32))) <<< ((6 : Int32) &&& 31)) ||| (((xs.getD (Int32.toNatClampNeg (p + (2 : Int32))) 0) &&& (255 : Int32)) &&& (63 : Int32)))), .val (.int ((xs.getD (Int32.toNatClampNeg (p + (1 : Int32))) 0) &&& (255 : Int32))), .val (.int ((xs.getD (Int32.toNatClampNeg (p + (2 : Int32))) 0) &&& (255 : Int32)))] d5_187 rfl rfl ?_
                refine Go.iload 191 d5_189 rfl rfl ?_
                refine Go.iconst 192 (4) d5_191 (by decide) rfl ?_
                refine Go.icmp_ne 235 195 d5_192 (by decide) (by decide) rfl (fun _ => ?_) (fun c => absurd c (by decide))
                refine Go.iload 237 d5_235 rfl rfl ?_
                refine Go.iconst 238 (2) d5_237 (by decide) rfl ?_
                refine Go.icmp_ne 247 241 d5_238 (by decide) (by decide) rfl (fun _ => ?_) (fun c => absurd c (by decide))
                refine Go.iload 249 d5_247 rfl rfl ?_
                refine Go.iconst 250 (3) d5_249 (by decide) rfl ?_
                refine Go.icmp_ne 259 253 d5_250 (by decide) (by decide) rfl (fun c => absurd c (by decide)) (fun _ => ?_)
                refine Go.sipush 256 (2048) d5_253 (by decide) rfl ?_
                refine Go.goto 261 d5_256 (by decide) (by decide) ?_
                refine Go.istore 263 #[.val (.ref a), .val (.int p), .val (.int t), .val (.int ((xs.getD (Int32.toNatClampNeg p) 0) &&& (255 : Int32))), .val (.int (3 : Int32)), .val (.int (((((((xs.getD (Int32.toNatClampNeg p) 0) &&& (255 : Int32)) &&& (15 : Int32)) <<< ((6 : Int32) &&& 31)) ||| (((xs.getD (Int32.toNatClampNeg (p + (1 : Int32))) 0) &&& (255 : Int32)) &&& (63 : Int32))) <<< ((6 : Int32) &&& 31)) ||| (((xs.getD (Int32.toNatClampNeg (p + (2 : Int32))) 0) &&& (255 : Int32)) &&& (63 : Int32)))), .val (.int ((xs.getD (Int32.toNatClampNeg (p + (1 : Int32))) 0) &&& (255 : Int32))), .val (.int (2048 : Int32))] d5_261 rfl rfl ?_
                refine Go.iload 265 d5_263 rfl rfl ?_
                refine Go.iload 267 d5_265 rfl rfl ?_
                refine Go.icmp_lt 291 270 d5_267 (by decide) (by decide) rfl (fun c25 => ?_) (fun c25 => ?_)
                ·
                  refine Go.iload_n 292 d5_291 rfl rfl ?_
                  refine Go.iconst 293 (-1) d5_292 (by decide) rfl ?_
                  refine Go.ixor 294 d5_293 rfl ?_
                  refine Go.ireturn d5_294 rfl (by decide) (by decide) ?_
                  simp only [own_byE] at c1 c2 c3 c4 c19 c21 c25
                  simp only [q1, q2, q3] at c19 c21
                  simp only [own_lt32, own_eq32, own_k0, own_k1, own_k2, own_k3, own_k4, own_k7, own_k8, own_k63, own_k127, own_k128, own_k143, own_k144, own_k159, own_k160, own_k191, own_k192, own_k194, own_k223, own_k224, own_k237, own_k239, own_k240, own_k244, own_k248, own_k255, own_k2048, own_k55296, own_k57343, own_k65536, own_k1114111, a1, a2, a3, a4] at c1 c2 c3 c4 c18 c25
                  clear q1 q2 q3
                  have m15 := own_m15 r0.1
                  have g3a := own_cpS (x := own_by xs p &&& 15) (y := own_by xs (p + 1)) m15.2 (by omega) r1.1
                  have g3 := own_cpS (x := _) (y := own_by xs (p + 2)) g3a.2 (by omega) r2.1
                  have hnx : own_nx xs p t = (p ^^^ -1) := by
                    unfold own_nx
                    rw [if_neg (by omega), if_neg (by omega), if_neg (by omega), if_neg (by omega)]
                  exact ⟨hnx.symm, rfl⟩
                ·
                  refine Go.iload 272 d5_270 rfl rfl ?_
                  refine Go.ldc 274 d5_272 (tw19 hw) rfl ?_
                  refine Go.icmp_gt 291 277 d5_274 (by decide) (by decide) rfl (fun c26 => ?_) (fun c26 => ?_)
                  ·
                    refine Go.iload_n 292 d5_291 rfl rfl ?_
                    refine Go.iconst 293 (-1) d5_292 (by decide) rfl ?_
                    refine Go.ixor 294 d5_293 rfl ?_
                    refine Go.ireturn d5_294 rfl (by decide) (by decide) ?_
                    simp only [own_byE] at c1 c2 c3 c4 c19 c21 c25 c26
                    simp only [q1, q2, q3] at c19 c21
                    simp only [own_lt32, own_eq32, own_k0, own_k1, own_k2, own_k3, own_k4, own_k7, own_k8, own_k63, own_k127, own_k128, own_k143, own_k144, own_k159, own_k160, own_k191, own_k192, own_k194, own_k223, own_k224, own_k237, own_k239, own_k240, own_k244, own_k248, own_k255, own_k2048, own_k55296, own_k57343, own_k65536, own_k1114111, a1, a2, a3, a4] at c1 c2 c3 c4 c18 c25 c26
                    clear q1 q2 q3
                    have m15 := own_m15 r0.1
                    have g3a := own_cpS (x := own_by xs p &&& 15) (y := own_by xs (p + 1)) m15.2 (by omega) r1.1
                    have g3 := own_cpS (x := _) (y := own_by xs (p + 2)) g3a.2 (by omega) r2.1
                    have hnx : own_nx xs p t = (p ^^^ -1) := by
                      unfold own_nx
                      rw [if_neg (by omega), if_neg (by omega), if_neg (by omega), if_neg (by omega)]
                    exact ⟨hnx.symm, rfl⟩
                  ·
                    refine Go.iload 279 d5_277 rfl rfl ?_
                    refine Go.ldc 281 d5_279 (tw20 hw) rfl ?_
                    refine Go.icmp_lt 295 284 d5_281 (by decide) (by decide) rfl (fun c27 => ?_) (fun c27 => ?_)
                    ·
                      refine Go.iload_n 296 d5_295 rfl rfl ?_
                      refine Go.iload 298 d5_296 rfl rfl ?_
                      refine Go.iadd 299 d5_298 rfl ?_
                      refine Go.ireturn d5_299 rfl (by decide) (by decide) ?_
                      simp only [own_byE] at c1 c2 c3 c4 c19 c21 c25 c26 c27
                      simp only [q1, q2, q3] at c19 c21
                      simp only [own_lt32, own_eq32, own_k0, own_k1, own_k2, own_k3, own_k4, own_k7, own_k8, own_k63, own_k127, own_k128, own_k143, own_k144, own_k159, own_k160, own_k191, own_k192, own_k194, own_k223, own_k224, own_k237, own_k239, own_k240, own_k244, own_k248, own_k255, own_k2048, own_k55296, own_k57343, own_k65536, own_k1114111, a1, a2, a3, a4] at c1 c2 c3 c4 c18 c25 c26 c27
                      clear q1 q2 q3
                      have m15 := own_m15 r0.1
                      have g3a := own_cpS (x := own_by xs p &&& 15) (y := own_by xs (p + 1)) m15.2 (by omega) r1.1
                      have g3 := own_cpS (x := _) (y := own_by xs (p + 2)) g3a.2 (by omega) r2.1
                      have hnx : own_nx xs p t = p + 3 := by
                        unfold own_nx
                        rw [if_neg (by omega), if_neg (by omega), if_pos (by omega)]
                      exact ⟨hnx.symm, rfl⟩
                    ·
                      refine Go.iload 286 d5_284 rfl rfl ?_
                      refine Go.ldc 288 d5_286 (tw22 hw) rfl ?_
                      refine Go.icmp_gt 295 291 d5_288 (by decide) (by decide) rfl (fun c28 => ?_) (fun c28 => ?_)
                      ·
                        refine Go.iload_n 296 d5_295 rfl rfl ?_
                        refine Go.iload 298 d5_296 rfl rfl ?_
                        refine Go.iadd 299 d5_298 rfl ?_
                        refine Go.ireturn d5_299 rfl (by decide) (by decide) ?_
                        simp only [own_byE] at c1 c2 c3 c4 c19 c21 c25 c26 c27 c28
                        simp only [q1, q2, q3] at c19 c21
                        simp only [own_lt32, own_eq32, own_k0, own_k1, own_k2, own_k3, own_k4, own_k7, own_k8, own_k63, own_k127, own_k128, own_k143, own_k144, own_k159, own_k160, own_k191, own_k192, own_k194, own_k223, own_k224, own_k237, own_k239, own_k240, own_k244, own_k248, own_k255, own_k2048, own_k55296, own_k57343, own_k65536, own_k1114111, a1, a2, a3, a4] at c1 c2 c3 c4 c18 c25 c26 c27 c28
                        clear q1 q2 q3
                        have m15 := own_m15 r0.1
                        have g3a := own_cpS (x := own_by xs p &&& 15) (y := own_by xs (p + 1)) m15.2 (by omega) r1.1
                        have g3 := own_cpS (x := _) (y := own_by xs (p + 2)) g3a.2 (by omega) r2.1
                        have hnx : own_nx xs p t = p + 3 := by
                          unfold own_nx
                          rw [if_neg (by omega), if_neg (by omega), if_pos (by omega)]
                        exact ⟨hnx.symm, rfl⟩
                      ·
                        refine Go.iload_n 292 d5_291 rfl rfl ?_
                        refine Go.iconst 293 (-1) d5_292 (by decide) rfl ?_
                        refine Go.ixor 294 d5_293 rfl ?_
                        refine Go.ireturn d5_294 rfl (by decide) (by decide) ?_
                        simp only [own_byE] at c1 c2 c3 c4 c19 c21 c25 c26 c27 c28
                        simp only [q1, q2, q3] at c19 c21
                        simp only [own_lt32, own_eq32, own_k0, own_k1, own_k2, own_k3, own_k4, own_k7, own_k8, own_k63, own_k127, own_k128, own_k143, own_k144, own_k159, own_k160, own_k191, own_k192, own_k194, own_k223, own_k224, own_k237, own_k239, own_k240, own_k244, own_k248, own_k255, own_k2048, own_k55296, own_k57343, own_k65536, own_k1114111, a1, a2, a3, a4] at c1 c2 c3 c4 c18 c25 c26 c27 c28
                        clear q1 q2 q3
                        have m15 := own_m15 r0.1
                        have g3a := own_cpS (x := own_by xs p &&& 15) (y := own_by xs (p + 1)) m15.2 (by omega) r1.1
                        have g3 := own_cpS (x := _) (y := own_by xs (p + 2)) g3a.2 (by omega) r2.1
                        have hnx : own_nx xs p t = (p ^^^ -1) := by
                          unfold own_nx
                          rw [if_neg (by omega), if_neg (by omega), if_neg (by omega), if_neg (by omega)]
                        exact ⟨hnx.symm, rfl⟩
              ·
                refine Go.iload_n 173 d5_172 rfl rfl ?_
                refine Go.iconst 174 (-1) d5_173 (by decide) rfl ?_
                refine Go.ixor 175 d5_174 rfl ?_
                refine Go.ireturn d5_175 rfl (by decide) (by decide) ?_
                simp only [own_byE] at c1 c2 c3 c4 c19 c21
                simp only [q1, q2, q3] at c19 c21
                simp only [own_lt32, own_eq32, own_k0, own_k1, own_k2, own_k3, own_k4, own_k7, own_k8, own_k63, own_k127, own_k128, own_k143, own_k144, own_k159, own_k160, own_k191, own_k192, own_k194, own_k223, own_k224, own_k237, own_k239, own_k240, own_k244, own_k248, own_k255, own_k2048, own_k55296, own_k57343, own_k65536, own_k1114111, a1, a2, a3, a4] at c1 c2 c3 c4 c18
                clear q1 q2 q3
                have m15 := own_m15 r0.1
                have g3a := own_cpS (x := own_by xs p &&& 15) (y := own_by xs (p + 1)) m15.2 (by omega) r1.1
                have g3 := own_cpS (x := _) (y := own_by xs (p + 2)) g3a.2 (by omega) r2.1
                have hnx : own_nx xs p t = (p ^^^ -1) := by
                  unfold own_nx
                  rw [if_neg (by omega), if_neg (by omega), if_neg (by omega), if_neg (by omega)]
                exact ⟨hnx.symm, rfl⟩
            ·
              refine Go.iload_n 127 d5_126 rfl rfl ?_
              refine Go.iconst 128 (-1) d5_127 (by decide) rfl ?_
              refine Go.ixor 129 d5_128 rfl ?_
              refine Go.ireturn d5_129 rfl (by decide) (by decide) ?_
              simp only [own_byE] at c1 c2 c3 c4 c19
              simp only [q1, q2, q3] at c19
              simp only [own_lt32, own_eq32, own_k0, own_k1, own_k2, own_k3, own_k4, own_k7, own_k8, own_k63, own_k127, own_k128, own_k143, own_k144, own_k159, own_k160, own_k191, own_k192, own_k194, own_k223, own_k224, own_k237, own_k239, own_k240, own_k244, own_k248, own_k255, own_k2048, own_k55296, own_k57343, own_k65536, own_k1114111, a1, a2, a3, a4] at c1 c2 c3 c4 c18
              clear q1 q2 q3
              have m15 := own_m15 r0.1
              have g3a := own_cpS (x := own_by xs p &&& 15) (y := own_by xs (p + 1)) m15.2 (by omega) r1.1
              have g3 := own_cpS (x := _) (y := own_by xs (p + 2)) g3a.2 (by omega) r2.1
              have hnx : own_nx xs p t = (p ^^^ -1) := by
                unfold own_nx
                rw [if_neg (by omega), if_neg (by omega), if_neg (by omega), if_neg (by omega)]
              exact ⟨hnx.symm, rfl⟩
          ·
            refine Go.iload_n 100 d5_99 rfl rfl ?_
            refine Go.iconst 101 (-1) d5_100 (by decide) rfl ?_
            refine Go.ixor 102 d5_101 rfl ?_
            refine Go.ireturn d5_102 rfl (by decide) (by decide) ?_
            simp only [own_byE] at c1 c2 c3 c4
            simp only [own_lt32, own_eq32, own_k0, own_k1, own_k2, own_k3, own_k4, own_k7, own_k8, own_k63, own_k127, own_k128, own_k143, own_k144, own_k159, own_k160, own_k191, own_k192, own_k194, own_k223, own_k224, own_k237, own_k239, own_k240, own_k244, own_k248, own_k255, own_k2048, own_k55296, own_k57343, own_k65536, own_k1114111, a1, a2, a3, a4] at c1 c2 c3 c4 c18
            clear q1 q2 q3
            have m15 := own_m15 r0.1
            have g3a := own_cpS (x := own_by xs p &&& 15) (y := own_by xs (p + 1)) m15.2 (by omega) r1.1
            have g3 := own_cpS (x := _) (y := own_by xs (p + 2)) g3a.2 (by omega) r2.1
            have hnx : own_nx xs p t = (p ^^^ -1) := by
              unfold own_nx
              rw [if_neg (by omega), if_neg (by omega), if_neg (by omega), if_neg (by omega)]
            exact ⟨hnx.symm, rfl⟩
      ·
        refine Go.iconst 38 (2) d5_37 (by decide) rfl ?_
        refine Go.istore 40 #[.val (.ref a), .val (.int p), .val (.int t), .val (.int ((xs.getD (Int32.toNatClampNeg p) 0) &&& (255 : Int32))), .val (.int (2 : Int32)), .unset, .unset, .unset] d5_38 rfl rfl ?_
        refine Go.iload_n 41 d5_40 rfl rfl ?_
        refine Go.bipush 43 (31) d5_41 (by decide) rfl ?_
        refine Go.iand 44 d5_43 rfl ?_
        refine Go.istore 46 #[.val (.ref a), .val (.int p), .val (.int t), .val (.int ((xs.getD (Int32.toNatClampNeg p) 0) &&& (255 : Int32))), .val (.int (2 : Int32)), .val (.int (((xs.getD (Int32.toNatClampNeg p) 0) &&& (255 : Int32)) &&& (31 : Int32))), .unset, .unset] d5_44 rfl rfl ?_
        refine Go.goto 91 d5_46 (by decide) (by decide) ?_
        refine Go.iload_n 92 d5_91 rfl rfl ?_
        refine Go.iload 94 d5_92 rfl rfl ?_
        refine Go.iadd 95 d5_94 rfl ?_
        refine Go.iload_n 96 d5_95 rfl rfl ?_
        refine Go.icmp_le 103 99 d5_96 (by decide) (by decide) rfl (fun c29 => ?_) (fun c29 => ?_)
        ·
          refine Go.aload_n 104 d5_103 rfl rfl rfl ?_
          refine Go.iload_n 105 d5_104 rfl rfl ?_
          refine Go.iconst 106 (1) d5_105 (by decide) rfl ?_
          refine Go.iadd 107 d5_106 rfl ?_
          refine Go.baload (x := (xs.getD (Int32.toNatClampNeg (p + (1 : Int32))) 0)) ((Int32.toNatClampNeg (p + (1 : Int32)))) 108 d5_107 fa0 (own_ixn (by simp only [own_lt32, own_k0, own_k1, own_k2, own_k3, own_k4, own_k7, own_k8, own_k63, own_k127, own_k128, own_k143, own_k144, own_k159, own_k160, own_k191, own_k192, own_k194, own_k223, own_k224, own_k237, own_k239, own_k240, own_k244, own_k248, own_k255, own_k2048, own_k55296, own_k57343, own_k65536, own_k1114111, a1, a2, a3, a4] at c29; simp only [a1, a2, a3, a4]; omega)) rfl (own_getq (own_ixl hl (by simp only [own_lt32, own_k0, own_k1, own_k2, own_k3, own_k4, own_k7, own_k8, own_k63, own_k127, own_k128, own_k143, own_k144, own_k159, own_k160, own_k191, own_k192, own_k194, own_k223, own_k224, own_k237, own_k239, own_k240, own_k244, own_k248, own_k255, own_k2048, own_k55296, own_k57343, own_k65536, own_k1114111, a1, a2, a3, a4] at c29; simp only [a1, a2, a3, a4]; omega) (by simp only [own_lt32, own_k0, own_k1, own_k2, own_k3, own_k4, own_k7, own_k8, own_k63, own_k127, own_k128, own_k143, own_k144, own_k159, own_k160, own_k191, own_k192, own_k194, own_k223, own_k224, own_k237, own_k239, own_k240, own_k244, own_k248, own_k255, own_k2048, own_k55296, own_k57343, own_k65536, own_k1114111, a1, a2, a3, a4] at c29; simp only [a1, a2, a3, a4]; omega))) rfl ?_
          refine Go.sipush 111 (255) d5_108 (by decide) rfl ?_
          refine Go.iand 112 d5_111 rfl ?_
          refine Go.istore 114 #[.val (.ref a), .val (.int p), .val (.int t), .val (.int ((xs.getD (Int32.toNatClampNeg p) 0) &&& (255 : Int32))), .val (.int (2 : Int32)), .val (.int (((xs.getD (Int32.toNatClampNeg p) 0) &&& (255 : Int32)) &&& (31 : Int32))), .val (.int ((xs.getD (Int32.toNatClampNeg (p + (1 : Int32))) 0) &&& (255 : Int32))), .unset] d5_112 rfl rfl ?_
          refine Go.iload 116 d5_114 rfl rfl ?_
          refine Go.sipush 119 (192) d5_116 (by decide) rfl ?_
          refine Go.iand 120 d5_119 rfl ?_
          refine Go.sipush 123 (128) d5_120 (by decide) rfl ?_
          refine Go.icmp_eq 130 126 d5_123 (by decide) (by decide) rfl (fun c30 => ?_) (fun c30 => ?_)
          ·
            refine Go.iload 132 d5_130 rfl rfl ?_
            refine Go.bipush 134 (6) d5_132 (by decide) rfl ?_
            refine Go.ishl 135 d5_134 rfl ?_
            refine Go.iload 137 d5_135 rfl rfl ?_
            refine Go.bipush 139 (63) d5_137 (by decide) rfl ?_
            refine Go.iand 140 d5_139 rfl ?_
            refine Go.ior 141 d5_140 rfl ?_
            refine Go.istore 143 #[.val (.ref a), .val (.int p), .val (.int t), .val (.int ((xs.getD (Int32.toNatClampNeg p) 0) &&& (255 : Int32))), .val (.int (2 : Int32)), .val (.int (((((xs.getD (Int32.toNatClampNeg p) 0) &&& (255 : Int32)) &&& (31 : Int32)) <<< ((6 : Int32) &&& 31)) ||| (((xs.getD (Int32.toNatClampNeg (p + (1 : Int32))) 0) &&& (255 : Int32)) &&& (63 : Int32)))), .val (.int ((xs.getD (Int32.toNatClampNeg (p + (1 : Int32))) 0) &&& (255 : Int32))), .unset] d5_141 rfl rfl ?_
            refine Go.iload 145 d5_143 rfl rfl ?_
            refine Go.iconst 146 (3) d5_145 (by decide) rfl ?_
            refine Go.icmp_lt 189 149 d5_146 (by decide) (by decide) rfl (fun _ => ?_) (fun c => absurd c (by decide))
            refine Go.iload 191 d5_189 rfl rfl ?_
            refine Go.iconst 192 (4) d5_191 (by decide) rfl ?_
            refine Go.icmp_ne 235 195 d5_192 (by decide) (by decide) rfl (fun _ => ?_) (fun c => absurd c (by decide))
            refine Go.iload 237 d5_235 rfl rfl ?_
            refine Go.iconst 238 (2) d5_237 (by decide) rfl ?_
            refine Go.icmp_ne 247 241 d5_238 (by decide) (by decide) rfl (fun c => absurd c (by decide)) (fun _ => ?_)
            refine Go.sipush 244 (128) d5_241 (by decide) rfl ?_
            refine Go.goto 261 d5_244 (by decide) (by decide) ?_
            refine Go.istore 263 #[.val (.ref a), .val (.int p), .val (.int t), .val (.int ((xs.getD (Int32.toNatClampNeg p) 0) &&& (255 : Int32))), .val (.int (2 : Int32)), .val (.int (((((xs.getD (Int32.toNatClampNeg p) 0) &&& (255 : Int32)) &&& (31 : Int32)) <<< ((6 : Int32) &&& 31)) ||| (((xs.getD (Int32.toNatClampNeg (p + (1 : Int32))) 0) &&& (255 : Int32)) &&& (63 : Int32)))), .val (.int ((xs.getD (Int32.toNatClampNeg (p + (1 : Int32))) 0) &&& (255 : Int32))), .val (.int (128 : Int32))] d5_261 rfl rfl ?_
            refine Go.iload 265 d5_263 rfl rfl ?_
            refine Go.iload 267 d5_265 rfl rfl ?_
            refine Go.icmp_lt 291 270 d5_267 (by decide) (by decide) rfl (fun c34 => ?_) (fun c34 => ?_)
            ·
              refine Go.iload_n 292 d5_291 rfl rfl ?_
              refine Go.iconst 293 (-1) d5_292 (by decide) rfl ?_
              refine Go.ixor 294 d5_293 rfl ?_
              refine Go.ireturn d5_294 rfl (by decide) (by decide) ?_
              simp only [own_byE] at c1 c2 c3 c30 c34
              simp only [q1, q2, q3] at c30
              simp only [own_lt32, own_eq32, own_k0, own_k1, own_k2, own_k3, own_k4, own_k7, own_k8, own_k63, own_k127, own_k128, own_k143, own_k144, own_k159, own_k160, own_k191, own_k192, own_k194, own_k223, own_k224, own_k237, own_k239, own_k240, own_k244, own_k248, own_k255, own_k2048, own_k55296, own_k57343, own_k65536, own_k1114111, a1, a2, a3, a4] at c1 c2 c3 c29 c34
              clear q1 q2 q3
              have m31 := own_m31 r0.1
              have g2 := own_cpS (x := own_by xs p &&& 31) (y := own_by xs (p + 1)) m31.2 (by omega) r1.1
              have hnx : own_nx xs p t = (p ^^^ -1) := by
                unfold own_nx
                rw [if_neg (by omega), if_neg (by omega), if_neg (by omega), if_neg (by omega)]
              exact ⟨hnx.symm, rfl⟩
            ·
              refine Go.iload 272 d5_270 rfl rfl ?_
              refine Go.ldc 274 d5_272 (tw19 hw) rfl ?_
              refine Go.icmp_gt 291 277 d5_274 (by decide) (by decide) rfl (fun c35 => ?_) (fun c35 => ?_)
              ·
                refine Go.iload_n 292 d5_291 rfl rfl ?_
                refine Go.iconst 293 (-1) d5_292 (by decide) rfl ?_
                refine Go.ixor 294 d5_293 rfl ?_
                refine Go.ireturn d5_294 rfl (by decide) (by decide) ?_
                simp only [own_byE] at c1 c2 c3 c30 c34 c35
                simp only [q1, q2, q3] at c30
                simp only [own_lt32, own_eq32, own_k0, own_k1, own_k2, own_k3, own_k4, own_k7, own_k8, own_k63, own_k127, own_k128, own_k143, own_k144, own_k159, own_k160, own_k191, own_k192, own_k194, own_k223, own_k224, own_k237, own_k239, own_k240, own_k244, own_k248, own_k255, own_k2048, own_k55296, own_k57343, own_k65536, own_k1114111, a1, a2, a3, a4] at c1 c2 c3 c29 c34 c35
                clear q1 q2 q3
                have m31 := own_m31 r0.1
                have g2 := own_cpS (x := own_by xs p &&& 31) (y := own_by xs (p + 1)) m31.2 (by omega) r1.1
                have hnx : own_nx xs p t = (p ^^^ -1) := by
                  unfold own_nx
                  rw [if_neg (by omega), if_neg (by omega), if_neg (by omega), if_neg (by omega)]
                exact ⟨hnx.symm, rfl⟩
              ·
                refine Go.iload 279 d5_277 rfl rfl ?_
                refine Go.ldc 281 d5_279 (tw20 hw) rfl ?_
                refine Go.icmp_lt 295 284 d5_281 (by decide) (by decide) rfl (fun c36 => ?_) (fun c36 => ?_)
                ·
                  refine Go.iload_n 296 d5_295 rfl rfl ?_
                  refine Go.iload 298 d5_296 rfl rfl ?_
                  refine Go.iadd 299 d5_298 rfl ?_
                  refine Go.ireturn d5_299 rfl (by decide) (by decide) ?_
                  simp only [own_byE] at c1 c2 c3 c30 c34 c35 c36
                  simp only [q1, q2, q3] at c30
                  simp only [own_lt32, own_eq32, own_k0, own_k1, own_k2, own_k3, own_k4, own_k7, own_k8, own_k63, own_k127, own_k128, own_k143, own_k144, own_k159, own_k160, own_k191, own_k192, own_k194, own_k223, own_k224, own_k237, own_k239, own_k240, own_k244, own_k248, own_k255, own_k2048, own_k55296, own_k57343, own_k65536, own_k1114111, a1, a2, a3, a4] at c1 c2 c3 c29 c34 c35 c36
                  clear q1 q2 q3
                  have m31 := own_m31 r0.1
                  have g2 := own_cpS (x := own_by xs p &&& 31) (y := own_by xs (p + 1)) m31.2 (by omega) r1.1
                  have hnx : own_nx xs p t = p + 2 := by
                    unfold own_nx
                    rw [if_neg (by omega), if_pos (by omega)]
                  exact ⟨hnx.symm, rfl⟩
                ·
                  refine Go.iload 286 d5_284 rfl rfl ?_
                  refine Go.ldc 288 d5_286 (tw22 hw) rfl ?_
                  refine Go.icmp_gt 295 291 d5_288 (by decide) (by decide) rfl (fun c37 => ?_) (fun c37 => ?_)
                  ·
                    refine Go.iload_n 296 d5_295 rfl rfl ?_
                    refine Go.iload 298 d5_296 rfl rfl ?_
                    refine Go.iadd 299 d5_298 rfl ?_
                    refine Go.ireturn d5_299 rfl (by decide) (by decide) ?_
                    simp only [own_byE] at c1 c2 c3 c30 c34 c35 c36 c37
                    simp only [q1, q2, q3] at c30
                    simp only [own_lt32, own_eq32, own_k0, own_k1, own_k2, own_k3, own_k4, own_k7, own_k8, own_k63, own_k127, own_k128, own_k143, own_k144, own_k159, own_k160, own_k191, own_k192, own_k194, own_k223, own_k224, own_k237, own_k239, own_k240, own_k244, own_k248, own_k255, own_k2048, own_k55296, own_k57343, own_k65536, own_k1114111, a1, a2, a3, a4] at c1 c2 c3 c29 c34 c35 c36 c37
                    clear q1 q2 q3
                    have m31 := own_m31 r0.1
                    have g2 := own_cpS (x := own_by xs p &&& 31) (y := own_by xs (p + 1)) m31.2 (by omega) r1.1
                    have hnx : own_nx xs p t = p + 2 := by
                      unfold own_nx
                      rw [if_neg (by omega), if_pos (by omega)]
                    exact ⟨hnx.symm, rfl⟩
                  ·
                    refine Go.iload_n 292 d5_291 rfl rfl ?_
                    refine Go.iconst 293 (-1) d5_292 (by decide) rfl ?_
                    refine Go.ixor 294 d5_293 rfl ?_
                    refine Go.ireturn d5_294 rfl (by decide) (by decide) ?_
                    simp only [own_byE] at c1 c2 c3 c30 c34 c35 c36 c37
                    simp only [q1, q2, q3] at c30
                    simp only [own_lt32, own_eq32, own_k0, own_k1, own_k2, own_k3, own_k4, own_k7, own_k8, own_k63, own_k127, own_k128, own_k143, own_k144, own_k159, own_k160, own_k191, own_k192, own_k194, own_k223, own_k224, own_k237, own_k239, own_k240, own_k244, own_k248, own_k255, own_k2048, own_k55296, own_k57343, own_k65536, own_k1114111, a1, a2, a3, a4] at c1 c2 c3 c29 c34 c35 c36 c37
                    clear q1 q2 q3
                    have m31 := own_m31 r0.1
                    have g2 := own_cpS (x := own_by xs p &&& 31) (y := own_by xs (p + 1)) m31.2 (by omega) r1.1
                    have hnx : own_nx xs p t = (p ^^^ -1) := by
                      unfold own_nx
                      rw [if_neg (by omega), if_neg (by omega), if_neg (by omega), if_neg (by omega)]
                    exact ⟨hnx.symm, rfl⟩
          ·
            refine Go.iload_n 127 d5_126 rfl rfl ?_
            refine Go.iconst 128 (-1) d5_127 (by decide) rfl ?_
            refine Go.ixor 129 d5_128 rfl ?_
            refine Go.ireturn d5_129 rfl (by decide) (by decide) ?_
            simp only [own_byE] at c1 c2 c3 c30
            simp only [q1, q2, q3] at c30
            simp only [own_lt32, own_eq32, own_k0, own_k1, own_k2, own_k3, own_k4, own_k7, own_k8, own_k63, own_k127, own_k128, own_k143, own_k144, own_k159, own_k160, own_k191, own_k192, own_k194, own_k223, own_k224, own_k237, own_k239, own_k240, own_k244, own_k248, own_k255, own_k2048, own_k55296, own_k57343, own_k65536, own_k1114111, a1, a2, a3, a4] at c1 c2 c3 c29
            clear q1 q2 q3
            have m31 := own_m31 r0.1
            have g2 := own_cpS (x := own_by xs p &&& 31) (y := own_by xs (p + 1)) m31.2 (by omega) r1.1
            have hnx : own_nx xs p t = (p ^^^ -1) := by
              unfold own_nx
              rw [if_neg (by omega), if_neg (by omega), if_neg (by omega), if_neg (by omega)]
            exact ⟨hnx.symm, rfl⟩
        ·
          refine Go.iload_n 100 d5_99 rfl rfl ?_
          refine Go.iconst 101 (-1) d5_100 (by decide) rfl ?_
          refine Go.ixor 102 d5_101 rfl ?_
          refine Go.ireturn d5_102 rfl (by decide) (by decide) ?_
          simp only [own_byE] at c1 c2 c3
          simp only [own_lt32, own_eq32, own_k0, own_k1, own_k2, own_k3, own_k4, own_k7, own_k8, own_k63, own_k127, own_k128, own_k143, own_k144, own_k159, own_k160, own_k191, own_k192, own_k194, own_k223, own_k224, own_k237, own_k239, own_k240, own_k244, own_k248, own_k255, own_k2048, own_k55296, own_k57343, own_k65536, own_k1114111, a1, a2, a3, a4] at c1 c2 c3 c29
          clear q1 q2 q3
          have m31 := own_m31 r0.1
          have g2 := own_cpS (x := own_by xs p &&& 31) (y := own_by xs (p + 1)) m31.2 (by omega) r1.1
          have hnx : own_nx xs p t = (p ^^^ -1) := by
            unfold own_nx
            rw [if_neg (by omega), if_neg (by omega), if_neg (by omega), if_neg (by omega)]
          exact ⟨hnx.symm, rfl⟩
    ·
      refine Go.iload_n 27 d5_26 rfl rfl ?_
      refine Go.iconst 28 (-1) d5_27 (by decide) rfl ?_
      refine Go.ixor 29 d5_28 rfl ?_
      refine Go.ireturn d5_29 rfl (by decide) (by decide) ?_
      simp only [own_byE] at c1 c2
      simp only [own_lt32, own_eq32, own_k0, own_k1, own_k2, own_k3, own_k4, own_k7, own_k8, own_k63, own_k127, own_k128, own_k143, own_k144, own_k159, own_k160, own_k191, own_k192, own_k194, own_k223, own_k224, own_k237, own_k239, own_k240, own_k244, own_k248, own_k255, own_k2048, own_k55296, own_k57343, own_k65536, own_k1114111, a1, a2, a3, a4] at c1 c2
      clear q1 q2 q3
      have hnx : own_nx xs p t = (p ^^^ -1) := by
        unfold own_nx
        rw [if_neg (by omega), if_neg (by omega), if_neg (by omega), if_neg (by omega)]
      exact ⟨hnx.symm, rfl⟩
  ·
    refine Go.iload_n 16 d5_15 rfl rfl ?_
    refine Go.iconst 17 (1) d5_16 (by decide) rfl ?_
    refine Go.iadd 18 d5_17 rfl ?_
    refine Go.ireturn d5_18 rfl (by decide) (by decide) ?_
    simp only [own_byE] at c1
    simp only [own_lt32, own_eq32, own_k0, own_k1, own_k2, own_k3, own_k4, own_k7, own_k8, own_k63, own_k127, own_k128, own_k143, own_k144, own_k159, own_k160, own_k191, own_k192, own_k194, own_k223, own_k224, own_k237, own_k239, own_k240, own_k244, own_k248, own_k255, own_k2048, own_k55296, own_k57343, own_k65536, own_k1114111, a1, a2, a3, a4] at c1
    clear q1 q2 q3
    have hnx : own_nx xs p t = p + 1 := by
      unfold own_nx
      rw [if_pos (by omega)]
    exact ⟨hnx.symm, rfl⟩

theorem d4_0 : decode method_5_code 0 = .ok (.iload_n 1, 1) := by decide +kernel
theorem d4_1 : decode method_5_code 1 = .ok (.ifCond .lt 8, 3) := by decide +kernel
theorem d4_4 : decode method_5_code 4 = .ok (.iload_n 1, 1) := by decide +kernel
theorem d4_5 : decode method_5_code 5 = .ok (.iload_n 2, 1) := by decide +kernel
theorem d4_6 : decode method_5_code 6 = .ok (.if_icmp .lt 5, 3) := by decide +kernel
theorem d4_9 : decode method_5_code 9 = .ok (.iload_n 1, 1) := by decide +kernel
theorem d4_10 : decode method_5_code 10 = .ok (.ireturn, 1) := by decide +kernel
theorem d4_11 : decode method_5_code 11 = .ok (.aload_n 0, 1) := by decide +kernel
theorem d4_12 : decode method_5_code 12 = .ok (.iload_n 1, 1) := by decide +kernel
theorem d4_13 : decode method_5_code 13 = .ok (.iload_n 2, 1) := by decide +kernel
theorem d4_14 : decode method_5_code 14 = .ok (.invokestatic 26, 3) := by decide +kernel
theorem d4_17 : decode method_5_code 17 = .ok (.ireturn, 1) := by decide +kernel

theorem pd4 : parseMethodDescriptor "([BII)I" = some ⟨[(.array .byte), .int, .int], some .int⟩ := by decide +kernel
theorem pl4 : plainFor (⟨"io/mereline/CsvFirstNotUtf8PinLaw", "adv", "([BII)I"⟩ : MethodName) = true := by first | exact plainFor_of_name (by first | (simp [plainName, overriddenIn]; done) | decide +kernel) | decide +kernel

theorem ef_k_adv (m : MethodId) (x0 : Addr) (x1 : Int32) (x2 : Int32) : entryFrame m #[(.ref x0), (.int x1), (.int x2)] 3 = mkF m 0 #[.val (.ref x0), .val (.int x1), .val (.int x2)] [] := by first | (simp [entryFrame, mkF, argsToLocals, Value.category]; done) | rfl

set_option maxRecDepth 65536 in
set_option maxHeartbeats 40000000 in
theorem k_adv {l : Launch} {Z : State} {a0 : Array Value} (hw : ∀ d ∈ tables_1, d.before a0 Z = true) {xs : List Int32} (h : Heap) (hz : Z.heap.size ≤ h.size) (a : Addr) (p : Int32) (t : Int32) (fa0 : Ari Z h a .byte xs) (hl : xs.length = 8) (ht : t.toInt ≤ 8)   : Go l Z (⟨"io/mereline/CsvFirstNotUtf8PinLaw", "adv", "([BII)I"⟩ : MethodName) method_5_code 3 (Option.some Jvm.ClassFile.FieldType.int) ({ frames := 1, cells := 0, slots := 0, locals := 48 } : Room) (QI fun rz h' => rz = (own_adv xs t p) ∧ h' = h) 0 0 h 0 #[.val (.ref a), .val (.int p), .val (.int t)] [] := by
  refine Go.iload_n 1 d4_0 rfl rfl ?_
  refine Go.if_lt 9 4 d4_1 (by decide) (by decide) rfl (fun c1 => ?_) (fun c1 => ?_)
  ·
    refine Go.iload_n 10 d4_9 rfl rfl ?_
    refine Go.ireturn d4_10 rfl (by decide) (by decide) ?_
    refine ⟨?_, rfl⟩
    unfold own_adv
    rw [if_pos c1]
  ·
    refine Go.iload_n 5 d4_4 rfl rfl ?_
    refine Go.iload_n 6 d4_5 rfl rfl ?_
    refine Go.icmp_lt 11 9 d4_6 (by decide) (by decide) rfl (fun c2 => ?_) (fun c2 => ?_)
    ·
      refine Go.aload_n 12 d4_11 rfl rfl rfl ?_
      refine Go.iload_n 13 d4_12 rfl rfl ?_
      refine Go.iload_n 14 d4_13 rfl rfl ?_
      refine Go.callSIp [.ref a, .int p, .int t] [] 17 d4_14 (tw16 hw) (tw17 hw) (tw3 hw) (tw18 hw) pl5 (by decide) (lenOf pd5 rfl) rfl (fun m => ef_k_next m a p t) _ (k_next hw h hz a p t fa0 hl (by have q := c1; rw [own_lt32, own_k0] at q; omega) c2 ht) 0 rfl (Nat.le_of_eq rfl) (by decide) (by decide) (by decide) (by decide) rfl ?_
      refine Go.ireturn d4_17 rfl (by decide) (by decide) ?_
      refine ⟨?_, rfl⟩
      unfold own_adv
      rw [if_neg c1, if_pos c2]
    ·
      refine Go.iload_n 10 d4_9 rfl rfl ?_
      refine Go.ireturn d4_10 rfl (by decide) (by decide) ?_
      refine ⟨?_, rfl⟩
      unfold own_adv
      rw [if_neg c1, if_neg c2]

theorem d3_0 : decode method_4_code 0 = .ok (.iload_n 1, 1) := by decide +kernel
theorem d3_1 : decode method_4_code 1 = .ok (.istore_n 3, 1) := by decide +kernel
theorem d3_2 : decode method_4_code 2 = .ok (.aload_n 0, 1) := by decide +kernel
theorem d3_3 : decode method_4_code 3 = .ok (.iload_n 3, 1) := by decide +kernel
theorem d3_4 : decode method_4_code 4 = .ok (.iload_n 2, 1) := by decide +kernel
theorem d3_5 : decode method_4_code 5 = .ok (.invokestatic 23, 3) := by decide +kernel
theorem d3_8 : decode method_4_code 8 = .ok (.istore_n 3, 1) := by decide +kernel
theorem d3_9 : decode method_4_code 9 = .ok (.aload_n 0, 1) := by decide +kernel
theorem d3_10 : decode method_4_code 10 = .ok (.iload_n 3, 1) := by decide +kernel
theorem d3_11 : decode method_4_code 11 = .ok (.iload_n 2, 1) := by decide +kernel
theorem d3_12 : decode method_4_code 12 = .ok (.invokestatic 23, 3) := by decide +kernel
theorem d3_15 : decode method_4_code 15 = .ok (.istore_n 3, 1) := by decide +kernel
theorem d3_16 : decode method_4_code 16 = .ok (.aload_n 0, 1) := by decide +kernel
theorem d3_17 : decode method_4_code 17 = .ok (.iload_n 3, 1) := by decide +kernel
theorem d3_18 : decode method_4_code 18 = .ok (.iload_n 2, 1) := by decide +kernel
theorem d3_19 : decode method_4_code 19 = .ok (.invokestatic 23, 3) := by decide +kernel
theorem d3_22 : decode method_4_code 22 = .ok (.istore_n 3, 1) := by decide +kernel
theorem d3_23 : decode method_4_code 23 = .ok (.aload_n 0, 1) := by decide +kernel
theorem d3_24 : decode method_4_code 24 = .ok (.iload_n 3, 1) := by decide +kernel
theorem d3_25 : decode method_4_code 25 = .ok (.iload_n 2, 1) := by decide +kernel
theorem d3_26 : decode method_4_code 26 = .ok (.invokestatic 23, 3) := by decide +kernel
theorem d3_29 : decode method_4_code 29 = .ok (.istore_n 3, 1) := by decide +kernel
theorem d3_30 : decode method_4_code 30 = .ok (.aload_n 0, 1) := by decide +kernel
theorem d3_31 : decode method_4_code 31 = .ok (.iload_n 3, 1) := by decide +kernel
theorem d3_32 : decode method_4_code 32 = .ok (.iload_n 2, 1) := by decide +kernel
theorem d3_33 : decode method_4_code 33 = .ok (.invokestatic 23, 3) := by decide +kernel
theorem d3_36 : decode method_4_code 36 = .ok (.istore_n 3, 1) := by decide +kernel
theorem d3_37 : decode method_4_code 37 = .ok (.aload_n 0, 1) := by decide +kernel
theorem d3_38 : decode method_4_code 38 = .ok (.iload_n 3, 1) := by decide +kernel
theorem d3_39 : decode method_4_code 39 = .ok (.iload_n 2, 1) := by decide +kernel
theorem d3_40 : decode method_4_code 40 = .ok (.invokestatic 23, 3) := by decide +kernel
theorem d3_43 : decode method_4_code 43 = .ok (.istore_n 3, 1) := by decide +kernel
theorem d3_44 : decode method_4_code 44 = .ok (.aload_n 0, 1) := by decide +kernel
theorem d3_45 : decode method_4_code 45 = .ok (.iload_n 3, 1) := by decide +kernel
theorem d3_46 : decode method_4_code 46 = .ok (.iload_n 2, 1) := by decide +kernel
theorem d3_47 : decode method_4_code 47 = .ok (.invokestatic 23, 3) := by decide +kernel
theorem d3_50 : decode method_4_code 50 = .ok (.istore_n 3, 1) := by decide +kernel
theorem d3_51 : decode method_4_code 51 = .ok (.aload_n 0, 1) := by decide +kernel
theorem d3_52 : decode method_4_code 52 = .ok (.iload_n 3, 1) := by decide +kernel
theorem d3_53 : decode method_4_code 53 = .ok (.iload_n 2, 1) := by decide +kernel
theorem d3_54 : decode method_4_code 54 = .ok (.invokestatic 23, 3) := by decide +kernel
theorem d3_57 : decode method_4_code 57 = .ok (.istore_n 3, 1) := by decide +kernel
theorem d3_58 : decode method_4_code 58 = .ok (.iload_n 3, 1) := by decide +kernel
theorem d3_59 : decode method_4_code 59 = .ok (.ifCond .ge 9, 3) := by decide +kernel
theorem d3_62 : decode method_4_code 62 = .ok (.iload_n 3, 1) := by decide +kernel
theorem d3_63 : decode method_4_code 63 = .ok (.iconst (-1), 1) := by decide +kernel
theorem d3_64 : decode method_4_code 64 = .ok (.ixor, 1) := by decide +kernel
theorem d3_65 : decode method_4_code 65 = .ok (.goto 4, 3) := by decide +kernel
theorem d3_68 : decode method_4_code 68 = .ok (.iconst (-1), 1) := by decide +kernel
theorem d3_69 : decode method_4_code 69 = .ok (.ireturn, 1) := by decide +kernel

theorem pd3 : parseMethodDescriptor "([BII)I" = some ⟨[(.array .byte), .int, .int], some .int⟩ := by decide +kernel
theorem pl3 : plainFor (⟨"io/mereline/CsvFirstNotUtf8PinLaw", "ref", "([BII)I"⟩ : MethodName) = true := by first | exact plainFor_of_name (by first | (simp [plainName, overriddenIn]; done) | decide +kernel) | decide +kernel

theorem ef_k_ref (m : MethodId) (x0 : Addr) (x1 : Int32) (x2 : Int32) : entryFrame m #[(.ref x0), (.int x1), (.int x2)] 4 = mkF m 0 #[.val (.ref x0), .val (.int x1), .val (.int x2), .unset] [] := by first | (simp [entryFrame, mkF, argsToLocals, Value.category]; done) | rfl

set_option maxRecDepth 65536 in
set_option maxHeartbeats 40000000 in
theorem k_ref {l : Launch} {Z : State} {a0 : Array Value} (hw : ∀ d ∈ tables_1, d.before a0 Z = true) {xs : List Int32} (h : Heap) (hz : Z.heap.size ≤ h.size) (a : Addr) (p : Int32) (t : Int32) (fa0 : Ari Z h a .byte xs) (hl : xs.length = 8) (ht : t.toInt ≤ 8)   : Go l Z (⟨"io/mereline/CsvFirstNotUtf8PinLaw", "ref", "([BII)I"⟩ : MethodName) method_4_code 4 (Option.some Jvm.ClassFile.FieldType.int) ({ frames := 2, cells := 0, slots := 0, locals := 80 } : Room) (QI fun rz h' => rz = (own_res (own_it xs t 8 p)) ∧ h' = h) 0 0 h 0 #[.val (.ref a), .val (.int p), .val (.int t), .unset] [] := by
  refine Go.iload_n 1 d3_0 rfl rfl ?_
  refine Go.istore_n 2 #[.val (.ref a), .val (.int p), .val (.int t), .val (.int p)] d3_1 rfl rfl ?_
  refine Go.aload_n 3 d3_2 rfl rfl rfl ?_
  refine Go.iload_n 4 d3_3 rfl rfl ?_
  refine Go.iload_n 5 d3_4 rfl rfl ?_
  refine Go.callSIp [.ref a, .int p, .int t] [] 8 d3_5 (tw13 hw) (tw14 hw) (tw3 hw) (tw15 hw) pl4 (by decide) (lenOf pd4 rfl) rfl (fun m => ef_k_adv m a p t) _ (k_adv hw h hz a p t fa0 hl ht) 0 rfl (Nat.le_of_eq rfl) (by decide) (by decide) (by decide) (by decide) rfl ?_
  refine Go.nameI (fun v4 e5 => ?_)
  refine Go.istore_n 9 #[.val (.ref a), .val (.int p), .val (.int t), .val (.int v4)] d3_8 rfl rfl ?_
  refine Go.aload_n 10 d3_9 rfl rfl rfl ?_
  refine Go.iload_n 11 d3_10 rfl rfl ?_
  refine Go.iload_n 12 d3_11 rfl rfl ?_
  refine Go.callSIp [.ref a, .int v4, .int t] [] 15 d3_12 (tw13 hw) (tw14 hw) (tw3 hw) (tw15 hw) pl4 (by decide) (lenOf pd4 rfl) rfl (fun m => ef_k_adv m a v4 t) _ (k_adv hw h hz a v4 t fa0 hl ht) 0 rfl (Nat.le_of_eq rfl) (by decide) (by decide) (by decide) (by decide) rfl ?_
  refine Go.nameI (fun v9 e10 => ?_)
  refine Go.istore_n 16 #[.val (.ref a), .val (.int p), .val (.int t), .val (.int v9)] d3_15 rfl rfl ?_
  refine Go.aload_n 17 d3_16 rfl rfl rfl ?_
  refine Go.iload_n 18 d3_17 rfl rfl ?_
  refine Go.iload_n 19 d3_18 rfl rfl ?_
  refine Go.callSIp [.ref a, .int v9, .int t] [] 22 d3_19 (tw13 hw) (tw14 hw) (tw3 hw) (tw15 hw) pl4 (by decide) (lenOf pd4 rfl) rfl (fun m => ef_k_adv m a v9 t) _ (k_adv hw h hz a v9 t fa0 hl ht) 0 rfl (Nat.le_of_eq rfl) (by decide) (by decide) (by decide) (by decide) rfl ?_
  refine Go.nameI (fun v14 e15 => ?_)
  refine Go.istore_n 23 #[.val (.ref a), .val (.int p), .val (.int t), .val (.int v14)] d3_22 rfl rfl ?_
  refine Go.aload_n 24 d3_23 rfl rfl rfl ?_
  refine Go.iload_n 25 d3_24 rfl rfl ?_
  refine Go.iload_n 26 d3_25 rfl rfl ?_
  refine Go.callSIp [.ref a, .int v14, .int t] [] 29 d3_26 (tw13 hw) (tw14 hw) (tw3 hw) (tw15 hw) pl4 (by decide) (lenOf pd4 rfl) rfl (fun m => ef_k_adv m a v14 t) _ (k_adv hw h hz a v14 t fa0 hl ht) 0 rfl (Nat.le_of_eq rfl) (by decide) (by decide) (by decide) (by decide) rfl ?_
  refine Go.nameI (fun v19 e20 => ?_)
  refine Go.istore_n 30 #[.val (.ref a), .val (.int p), .val (.int t), .val (.int v19)] d3_29 rfl rfl ?_
  refine Go.aload_n 31 d3_30 rfl rfl rfl ?_
  refine Go.iload_n 32 d3_31 rfl rfl ?_
  refine Go.iload_n 33 d3_32 rfl rfl ?_
  refine Go.callSIp [.ref a, .int v19, .int t] [] 36 d3_33 (tw13 hw) (tw14 hw) (tw3 hw) (tw15 hw) pl4 (by decide) (lenOf pd4 rfl) rfl (fun m => ef_k_adv m a v19 t) _ (k_adv hw h hz a v19 t fa0 hl ht) 0 rfl (Nat.le_of_eq rfl) (by decide) (by decide) (by decide) (by decide) rfl ?_
  refine Go.nameI (fun v24 e25 => ?_)
  refine Go.istore_n 37 #[.val (.ref a), .val (.int p), .val (.int t), .val (.int v24)] d3_36 rfl rfl ?_
  refine Go.aload_n 38 d3_37 rfl rfl rfl ?_
  refine Go.iload_n 39 d3_38 rfl rfl ?_
  refine Go.iload_n 40 d3_39 rfl rfl ?_
  refine Go.callSIp [.ref a, .int v24, .int t] [] 43 d3_40 (tw13 hw) (tw14 hw) (tw3 hw) (tw15 hw) pl4 (by decide) (lenOf pd4 rfl) rfl (fun m => ef_k_adv m a v24 t) _ (k_adv hw h hz a v24 t fa0 hl ht) 0 rfl (Nat.le_of_eq rfl) (by decide) (by decide) (by decide) (by decide) rfl ?_
  refine Go.nameI (fun v29 e30 => ?_)
  refine Go.istore_n 44 #[.val (.ref a), .val (.int p), .val (.int t), .val (.int v29)] d3_43 rfl rfl ?_
  refine Go.aload_n 45 d3_44 rfl rfl rfl ?_
  refine Go.iload_n 46 d3_45 rfl rfl ?_
  refine Go.iload_n 47 d3_46 rfl rfl ?_
  refine Go.callSIp [.ref a, .int v29, .int t] [] 50 d3_47 (tw13 hw) (tw14 hw) (tw3 hw) (tw15 hw) pl4 (by decide) (lenOf pd4 rfl) rfl (fun m => ef_k_adv m a v29 t) _ (k_adv hw h hz a v29 t fa0 hl ht) 0 rfl (Nat.le_of_eq rfl) (by decide) (by decide) (by decide) (by decide) rfl ?_
  refine Go.nameI (fun v34 e35 => ?_)
  refine Go.istore_n 51 #[.val (.ref a), .val (.int p), .val (.int t), .val (.int v34)] d3_50 rfl rfl ?_
  refine Go.aload_n 52 d3_51 rfl rfl rfl ?_
  refine Go.iload_n 53 d3_52 rfl rfl ?_
  refine Go.iload_n 54 d3_53 rfl rfl ?_
  refine Go.callSIp [.ref a, .int v34, .int t] [] 57 d3_54 (tw13 hw) (tw14 hw) (tw3 hw) (tw15 hw) pl4 (by decide) (lenOf pd4 rfl) rfl (fun m => ef_k_adv m a v34 t) _ (k_adv hw h hz a v34 t fa0 hl ht) 0 rfl (Nat.le_of_eq rfl) (by decide) (by decide) (by decide) (by decide) rfl ?_
  refine Go.nameI (fun v39 e40 => ?_)
  refine Go.istore_n 58 #[.val (.ref a), .val (.int p), .val (.int t), .val (.int v39)] d3_57 rfl rfl ?_
  refine Go.iload_n 59 d3_58 rfl rfl ?_
  refine Go.if_ge 68 62 d3_59 (by decide) (by decide) rfl (fun c41 => ?_) (fun c41 => ?_)
  ·
    refine Go.iconst 69 (-1) d3_68 (by decide) rfl ?_
    refine Go.ireturn d3_69 rfl (by decide) (by decide) ?_
    refine ⟨?_, rfl⟩
    rw [own_it8, ← e5, ← e10, ← e15, ← e20, ← e25, ← e30, ← e35, ← e40, own_res_pos c41]
  ·
    refine Go.iload_n 63 d3_62 rfl rfl ?_
    refine Go.iconst 64 (-1) d3_63 (by decide) rfl ?_
    refine Go.ixor 65 d3_64 rfl ?_
    refine Go.goto 69 d3_65 (by decide) (by decide) ?_
    refine Go.ireturn d3_69 rfl (by decide) (by decide) ?_
    refine ⟨?_, rfl⟩
    rw [own_it8, ← e5, ← e10, ← e15, ← e20, ← e25, ← e30, ← e35, ← e40, own_res_neg c41]

theorem d2_0 : decode prog_70_method_9_code 0 = .ok (.iload_n 1, 1) := by decide +kernel
theorem d2_1 : decode prog_70_method_9_code 1 = .ok (.istore_n 3, 1) := by decide +kernel
theorem d2_2 : decode prog_70_method_9_code 2 = .ok (.iload_n 3, 1) := by decide +kernel
theorem d2_3 : decode prog_70_method_9_code 3 = .ok (.iload_n 2, 1) := by decide +kernel
theorem d2_4 : decode prog_70_method_9_code 4 = .ok (.if_icmp .ge 264, 3) := by decide +kernel
theorem d2_7 : decode prog_70_method_9_code 7 = .ok (.aload_n 0, 1) := by decide +kernel
theorem d2_8 : decode prog_70_method_9_code 8 = .ok (.iload_n 3, 1) := by decide +kernel
theorem d2_9 : decode prog_70_method_9_code 9 = .ok (.baload, 1) := by decide +kernel
theorem d2_10 : decode prog_70_method_9_code 10 = .ok (.sipush 255, 3) := by decide +kernel
theorem d2_13 : decode prog_70_method_9_code 13 = .ok (.iand, 1) := by decide +kernel
theorem d2_14 : decode prog_70_method_9_code 14 = .ok (.istore 4, 2) := by decide +kernel
theorem d2_16 : decode prog_70_method_9_code 16 = .ok (.iload 4, 2) := by decide +kernel
theorem d2_18 : decode prog_70_method_9_code 18 = .ok (.sipush 128, 3) := by decide +kernel
theorem d2_21 : decode prog_70_method_9_code 21 = .ok (.if_icmp .ge 9, 3) := by decide +kernel
theorem d2_24 : decode prog_70_method_9_code 24 = .ok (.iinc 3 1, 3) := by decide +kernel
theorem d2_27 : decode prog_70_method_9_code 27 = .ok (.goto (-25), 3) := by decide +kernel
theorem d2_30 : decode prog_70_method_9_code 30 = .ok (.sipush 128, 3) := by decide +kernel
theorem d2_33 : decode prog_70_method_9_code 33 = .ok (.istore 6, 2) := by decide +kernel
theorem d2_35 : decode prog_70_method_9_code 35 = .ok (.sipush 191, 3) := by decide +kernel
theorem d2_38 : decode prog_70_method_9_code 38 = .ok (.istore 7, 2) := by decide +kernel
theorem d2_40 : decode prog_70_method_9_code 40 = .ok (.iload 4, 2) := by decide +kernel
theorem d2_42 : decode prog_70_method_9_code 42 = .ok (.sipush 194, 3) := by decide +kernel
theorem d2_45 : decode prog_70_method_9_code 45 = .ok (.if_icmp .lt 17, 3) := by decide +kernel
theorem d2_48 : decode prog_70_method_9_code 48 = .ok (.iload 4, 2) := by decide +kernel
theorem d2_50 : decode prog_70_method_9_code 50 = .ok (.sipush 223, 3) := by decide +kernel
theorem d2_53 : decode prog_70_method_9_code 53 = .ok (.if_icmp .gt 9, 3) := by decide +kernel
theorem d2_56 : decode prog_70_method_9_code 56 = .ok (.iconst 1, 1) := by decide +kernel
theorem d2_57 : decode prog_70_method_9_code 57 = .ok (.istore 5, 2) := by decide +kernel
theorem d2_59 : decode prog_70_method_9_code 59 = .ok (.goto 121, 3) := by decide +kernel
theorem d2_62 : decode prog_70_method_9_code 62 = .ok (.iload 4, 2) := by decide +kernel
theorem d2_64 : decode prog_70_method_9_code 64 = .ok (.sipush 224, 3) := by decide +kernel
theorem d2_67 : decode prog_70_method_9_code 67 = .ok (.if_icmp .lt 53, 3) := by decide +kernel
theorem d2_70 : decode prog_70_method_9_code 70 = .ok (.iload 4, 2) := by decide +kernel
theorem d2_72 : decode prog_70_method_9_code 72 = .ok (.sipush 239, 3) := by decide +kernel
theorem d2_75 : decode prog_70_method_9_code 75 = .ok (.if_icmp .gt 45, 3) := by decide +kernel
theorem d2_78 : decode prog_70_method_9_code 78 = .ok (.iconst 2, 1) := by decide +kernel
theorem d2_79 : decode prog_70_method_9_code 79 = .ok (.istore 5, 2) := by decide +kernel
theorem d2_81 : decode prog_70_method_9_code 81 = .ok (.iload 4, 2) := by decide +kernel
theorem d2_83 : decode prog_70_method_9_code 83 = .ok (.sipush 224, 3) := by decide +kernel
theorem d2_86 : decode prog_70_method_9_code 86 = .ok (.if_icmp .ne 9, 3) := by decide +kernel
theorem d2_89 : decode prog_70_method_9_code 89 = .ok (.sipush 160, 3) := by decide +kernel
theorem d2_92 : decode prog_70_method_9_code 92 = .ok (.goto 5, 3) := by decide +kernel
theorem d2_95 : decode prog_70_method_9_code 95 = .ok (.iload 6, 2) := by decide +kernel
theorem d2_97 : decode prog_70_method_9_code 97 = .ok (.istore 6, 2) := by decide +kernel
theorem d2_99 : decode prog_70_method_9_code 99 = .ok (.iload 4, 2) := by decide +kernel
theorem d2_101 : decode prog_70_method_9_code 101 = .ok (.sipush 237, 3) := by decide +kernel
theorem d2_104 : decode prog_70_method_9_code 104 = .ok (.if_icmp .ne 9, 3) := by decide +kernel
theorem d2_107 : decode prog_70_method_9_code 107 = .ok (.sipush 159, 3) := by decide +kernel
theorem d2_110 : decode prog_70_method_9_code 110 = .ok (.goto 5, 3) := by decide +kernel
theorem d2_113 : decode prog_70_method_9_code 113 = .ok (.iload 7, 2) := by decide +kernel
theorem d2_115 : decode prog_70_method_9_code 115 = .ok (.istore 7, 2) := by decide +kernel
theorem d2_117 : decode prog_70_method_9_code 117 = .ok (.goto 63, 3) := by decide +kernel
theorem d2_120 : decode prog_70_method_9_code 120 = .ok (.iload 4, 2) := by decide +kernel
theorem d2_122 : decode prog_70_method_9_code 122 = .ok (.sipush 240, 3) := by decide +kernel
theorem d2_125 : decode prog_70_method_9_code 125 = .ok (.if_icmp .lt 53, 3) := by decide +kernel
theorem d2_128 : decode prog_70_method_9_code 128 = .ok (.iload 4, 2) := by decide +kernel
theorem d2_130 : decode prog_70_method_9_code 130 = .ok (.sipush 244, 3) := by decide +kernel
theorem d2_133 : decode prog_70_method_9_code 133 = .ok (.if_icmp .gt 45, 3) := by decide +kernel
theorem d2_136 : decode prog_70_method_9_code 136 = .ok (.iconst 3, 1) := by decide +kernel
theorem d2_137 : decode prog_70_method_9_code 137 = .ok (.istore 5, 2) := by decide +kernel
theorem d2_139 : decode prog_70_method_9_code 139 = .ok (.iload 4, 2) := by decide +kernel
theorem d2_141 : decode prog_70_method_9_code 141 = .ok (.sipush 240, 3) := by decide +kernel
theorem d2_144 : decode prog_70_method_9_code 144 = .ok (.if_icmp .ne 9, 3) := by decide +kernel
theorem d2_147 : decode prog_70_method_9_code 147 = .ok (.sipush 144, 3) := by decide +kernel
theorem d2_150 : decode prog_70_method_9_code 150 = .ok (.goto 5, 3) := by decide +kernel
theorem d2_153 : decode prog_70_method_9_code 153 = .ok (.iload 6, 2) := by decide +kernel
theorem d2_155 : decode prog_70_method_9_code 155 = .ok (.istore 6, 2) := by decide +kernel
theorem d2_157 : decode prog_70_method_9_code 157 = .ok (.iload 4, 2) := by decide +kernel
theorem d2_159 : decode prog_70_method_9_code 159 = .ok (.sipush 244, 3) := by decide +kernel
theorem d2_162 : decode prog_70_method_9_code 162 = .ok (.if_icmp .ne 9, 3) := by decide +kernel
theorem d2_165 : decode prog_70_method_9_code 165 = .ok (.sipush 143, 3) := by decide +kernel
theorem d2_168 : decode prog_70_method_9_code 168 = .ok (.goto 5, 3) := by decide +kernel
theorem d2_171 : decode prog_70_method_9_code 171 = .ok (.iload 7, 2) := by decide +kernel
theorem d2_173 : decode prog_70_method_9_code 173 = .ok (.istore 7, 2) := by decide +kernel
theorem d2_175 : decode prog_70_method_9_code 175 = .ok (.goto 5, 3) := by decide +kernel
theorem d2_178 : decode prog_70_method_9_code 178 = .ok (.iload_n 3, 1) := by decide +kernel
theorem d2_179 : decode prog_70_method_9_code 179 = .ok (.ireturn, 1) := by decide +kernel
theorem d2_180 : decode prog_70_method_9_code 180 = .ok (.iconst 1, 1) := by decide +kernel
theorem d2_181 : decode prog_70_method_9_code 181 = .ok (.istore 8, 2) := by decide +kernel
theorem d2_183 : decode prog_70_method_9_code 183 = .ok (.iload 8, 2) := by decide +kernel
theorem d2_185 : decode prog_70_method_9_code 185 = .ok (.iload 5, 2) := by decide +kernel
theorem d2_187 : decode prog_70_method_9_code 187 = .ok (.if_icmp .gt 71, 3) := by decide +kernel
theorem d2_190 : decode prog_70_method_9_code 190 = .ok (.iload_n 3, 1) := by decide +kernel
theorem d2_191 : decode prog_70_method_9_code 191 = .ok (.iload 8, 2) := by decide +kernel
theorem d2_193 : decode prog_70_method_9_code 193 = .ok (.iadd, 1) := by decide +kernel
theorem d2_194 : decode prog_70_method_9_code 194 = .ok (.iload_n 2, 1) := by decide +kernel
theorem d2_195 : decode prog_70_method_9_code 195 = .ok (.if_icmp .lt 5, 3) := by decide +kernel
theorem d2_198 : decode prog_70_method_9_code 198 = .ok (.iload_n 3, 1) := by decide +kernel
theorem d2_199 : decode prog_70_method_9_code 199 = .ok (.ireturn, 1) := by decide +kernel
theorem d2_200 : decode prog_70_method_9_code 200 = .ok (.aload_n 0, 1) := by decide +kernel
theorem d2_201 : decode prog_70_method_9_code 201 = .ok (.iload_n 3, 1) := by decide +kernel
theorem d2_202 : decode prog_70_method_9_code 202 = .ok (.iload 8, 2) := by decide +kernel
theorem d2_204 : decode prog_70_method_9_code 204 = .ok (.iadd, 1) := by decide +kernel
theorem d2_205 : decode prog_70_method_9_code 205 = .ok (.baload, 1) := by decide +kernel
theorem d2_206 : decode prog_70_method_9_code 206 = .ok (.sipush 255, 3) := by decide +kernel
theorem d2_209 : decode prog_70_method_9_code 209 = .ok (.iand, 1) := by decide +kernel
theorem d2_210 : decode prog_70_method_9_code 210 = .ok (.istore 9, 2) := by decide +kernel
theorem d2_212 : decode prog_70_method_9_code 212 = .ok (.iload 9, 2) := by decide +kernel
theorem d2_214 : decode prog_70_method_9_code 214 = .ok (.iload 8, 2) := by decide +kernel
theorem d2_216 : decode prog_70_method_9_code 216 = .ok (.iconst 1, 1) := by decide +kernel
theorem d2_217 : decode prog_70_method_9_code 217 = .ok (.if_icmp .ne 8, 3) := by decide +kernel
theorem d2_220 : decode prog_70_method_9_code 220 = .ok (.iload 6, 2) := by decide +kernel
theorem d2_222 : decode prog_70_method_9_code 222 = .ok (.goto 6, 3) := by decide +kernel
theorem d2_225 : decode prog_70_method_9_code 225 = .ok (.sipush 128, 3) := by decide +kernel
theorem d2_228 : decode prog_70_method_9_code 228 = .ok (.if_icmp .lt 22, 3) := by decide +kernel
theorem d2_231 : decode prog_70_method_9_code 231 = .ok (.iload 9, 2) := by decide +kernel
theorem d2_233 : decode prog_70_method_9_code 233 = .ok (.iload 8, 2) := by decide +kernel
theorem d2_235 : decode prog_70_method_9_code 235 = .ok (.iconst 1, 1) := by decide +kernel
theorem d2_236 : decode prog_70_method_9_code 236 = .ok (.if_icmp .ne 8, 3) := by decide +kernel
theorem d2_239 : decode prog_70_method_9_code 239 = .ok (.iload 7, 2) := by decide +kernel
theorem d2_241 : decode prog_70_method_9_code 241 = .ok (.goto 6, 3) := by decide +kernel
theorem d2_244 : decode prog_70_method_9_code 244 = .ok (.sipush 191, 3) := by decide +kernel
theorem d2_247 : decode prog_70_method_9_code 247 = .ok (.if_icmp .le 5, 3) := by decide +kernel
theorem d2_250 : decode prog_70_method_9_code 250 = .ok (.iload_n 3, 1) := by decide +kernel
theorem d2_251 : decode prog_70_method_9_code 251 = .ok (.ireturn, 1) := by decide +kernel
theorem d2_252 : decode prog_70_method_9_code 252 = .ok (.iinc 8 1, 3) := by decide +kernel
theorem d2_255 : decode prog_70_method_9_code 255 = .ok (.goto (-72), 3) := by decide +kernel
theorem d2_258 : decode prog_70_method_9_code 258 = .ok (.iload_n 3, 1) := by decide +kernel
theorem d2_259 : decode prog_70_method_9_code 259 = .ok (.iload 5, 2) := by decide +kernel
theorem d2_261 : decode prog_70_method_9_code 261 = .ok (.iconst 1, 1) := by decide +kernel
theorem d2_262 : decode prog_70_method_9_code 262 = .ok (.iadd, 1) := by decide +kernel
theorem d2_263 : decode prog_70_method_9_code 263 = .ok (.iadd, 1) := by decide +kernel
theorem d2_264 : decode prog_70_method_9_code 264 = .ok (.istore_n 3, 1) := by decide +kernel
theorem d2_265 : decode prog_70_method_9_code 265 = .ok (.goto (-263), 3) := by decide +kernel
theorem d2_268 : decode prog_70_method_9_code 268 = .ok (.iconst (-1), 1) := by decide +kernel
theorem d2_269 : decode prog_70_method_9_code 269 = .ok (.ireturn, 1) := by decide +kernel

theorem pd2 : parseMethodDescriptor "([BII)I" = some ⟨[(.array .byte), .int, .int], some .int⟩ := by decide +kernel
theorem pl2 : plainFor (⟨"io/mereline/Csv", "firstNotUtf8", "([BII)I"⟩ : MethodName) = true := by first | exact plainFor_of_name (by first | (simp [plainName, overriddenIn]; done) | decide +kernel) | decide +kernel

set_option maxRecDepth 65536 in
set_option maxHeartbeats 40000000 in
theorem k_loop {l : Launch} {Z : State} {a0 : Array Value} (hw : ∀ d ∈ tables_1, d.before a0 Z = true) (h : Heap) (a : Addr) (f t : Int32) (xs : List Int32) (fa0 : Ari Z h a .byte xs) (hl : xs.length = 8) (ht : t.toInt ≤ 8) : ∀ (n : Nat) (p : Int32) (hp0 : 0 ≤ p.toInt) (hpt0 : p.toInt ≤ t.toInt) (hm : t.toInt - p.toInt ≤ (n : Nat)) (u4 u5 u6 u7 u8 u9 : Slot) (hu4 : u4 = .unset ∨ ∃ w, u4 = .val w ∧ w.category = 1) (hu5 : u5 = .unset ∨ ∃ w, u5 = .val w ∧ w.category = 1) (hu6 : u6 = .unset ∨ ∃ w, u6 = .val w ∧ w.category = 1) (hu7 : u7 = .unset ∨ ∃ w, u7 = .val w ∧ w.category = 1) (hu8 : u8 = .unset ∨ ∃ w, u8 = .val w ∧ w.category = 1) (hu9 : u9 = .unset ∨ ∃ w, u9 = .val w ∧ w.category = 1), Go l Z (⟨"io/mereline/Csv", "firstNotUtf8", "([BII)I"⟩ : MethodName) prog_70_method_9_code 10 (Option.some Jvm.ClassFile.FieldType.int) ({ frames := 0, cells := 0, slots := 0, locals := 0 } : Room) (QI fun rz h' => rz = own_res (own_it xs t n p) ∧ h' = h) 0 0 h 2 #[.val (.ref a), .val (.int f), .val (.int t), .val (.int p), u4, u5, u6, u7, u8, u9] [] := by
  intro n
  induction n with
  | zero =>
    intro p hp0 hpt0 hm u4 u5 u6 u7 u8 u9 hu4 hu5 hu6 hu7 hu8 hu9
    refine Go.iload_n 3 d2_2 rfl rfl ?_
    refine Go.iload_n 4 d2_3 rfl rfl ?_
    refine Go.icmp_ge 268 7 d2_4 (by decide) (by decide) rfl (fun c1 => ?_) (fun c1 => ?_)
    ·
      refine Go.iconst 269 (-1) d2_268 (by decide) rfl ?_
      refine Go.ireturn d2_269 rfl (by decide) (by decide) ?_
      exact ⟨own_endr (own_ixn hp0) c1, rfl⟩
    ·
      exact absurd (own_lt32.mp c1) (by omega)
  | succ n ih =>
    intro p hp0 hpt0 hm u4 u5 u6 u7 u8 u9 hu4 hu5 hu6 hu7 hu8 hu9
    refine Go.iload_n 3 d2_2 rfl rfl ?_
    refine Go.iload_n 4 d2_3 rfl rfl ?_
    refine Go.icmp_ge 268 7 d2_4 (by decide) (by decide) rfl (fun c1 => ?_) (fun c1 => ?_)
    ·
      refine Go.iconst 269 (-1) d2_268 (by decide) rfl ?_
      refine Go.ireturn d2_269 rfl (by decide) (by decide) ?_
      exact ⟨own_endr (own_ixn hp0) c1, rfl⟩
    ·
      have hpt := c1
      have hpt' := own_lt32.mp hpt
      have a1 : (p + (1 : Int32)).toInt = p.toInt + 1 := own_addk hp0 (by omega) (by decide) (by decide) (by decide)
      have a2 : (p + (2 : Int32)).toInt = p.toInt + 2 := own_addk hp0 (by omega) (by decide) (by decide) (by decide)
      have d2 : (p + ((1 : Int32) + (1 : Int32))).toInt = p.toInt + 2 := own_addk hp0 (by omega) (by decide) (by decide) (by decide)
      have a3 : (p + (3 : Int32)).toInt = p.toInt + 3 := own_addk hp0 (by omega) (by decide) (by decide) (by decide)
      have d3 : (p + (((1 : Int32) + (1 : Int32)) + (1 : Int32))).toInt = p.toInt + 3 := own_addk hp0 (by omega) (by decide) (by decide) (by decide)
      have a4 : (p + (4 : Int32)).toInt = p.toInt + 4 := own_addk hp0 (by omega) (by decide) (by decide) (by decide)
      have r0 := own_byr xs p
      have r1 := own_byr xs (p + (1 : Int32))
      have r2 := own_byr xs (p + (2 : Int32))
      have r3 := own_byr xs (p + (3 : Int32))
      refine Go.aload_n 8 d2_7 rfl rfl rfl ?_
      refine Go.iload_n 9 d2_8 rfl rfl ?_
      refine Go.baload (x := (xs.getD (Int32.toNatClampNeg p) 0)) ((Int32.toNatClampNeg p)) 10 d2_9 fa0 (own_ixn (by omega)) rfl (own_getq (own_ixl hl (by omega) (by omega))) rfl ?_
      refine Go.sipush 13 (255) d2_10 (by decide) rfl ?_
      refine Go.iand 14 d2_13 rfl ?_
      refine Go.istoreS 16 #[.val (.ref a), .val (.int f), .val (.int t), .val (.int p), .val (.int ((xs.getD (Int32.toNatClampNeg p) 0) &&& (255 : Int32))), u5, u6, u7, u8, u9] d2_14 rfl hu4 rfl rfl ?_
      refine Go.iload 18 d2_16 rfl rfl ?_
      refine Go.sipush 21 (128) d2_18 (by decide) rfl ?_
      refine Go.icmp_ge 30 24 d2_21 (by decide) (by decide) rfl (fun c2 => ?_) (fun c2 => ?_)
      ·
        refine Go.sipush 33 (128) d2_30 (by decide) rfl ?_
        refine Go.istoreS 35 #[.val (.ref a), .val (.int f), .val (.int t), .val (.int p), .val (.int ((xs.getD (Int32.toNatClampNeg p) 0) &&& (255 : Int32))), u5, .val (.int (128 : Int32)), u7, u8, u9] d2_33 rfl hu6 rfl rfl ?_
        refine Go.sipush 38 (191) d2_35 (by decide) rfl ?_
        refine Go.istoreS 40 #[.val (.ref a), .val (.int f), .val (.int t), .val (.int p), .val (.int ((xs.getD (Int32.toNatClampNeg p) 0) &&& (255 : Int32))), u5, .val (.int (128 : Int32)), .val (.int (191 : Int32)), u8, u9] d2_38 rfl hu7 rfl rfl ?_
        refine Go.iload 42 d2_40 rfl rfl ?_
        refine Go.sipush 45 (194) d2_42 (by decide) rfl ?_
        refine Go.icmp_lt 62 48 d2_45 (by decide) (by decide) rfl (fun c3 => ?_) (fun c3 => ?_)
        ·
          refine Go.iload 64 d2_62 rfl rfl ?_
          refine Go.sipush 67 (224) d2_64 (by decide) rfl ?_
          refine Go.icmp_lt 120 70 d2_67 (by decide) (by decide) rfl (fun _ => ?_) (fun c => by exfalso; simp only [own_lt32, own_eq32, own_k0, own_k1, own_k2, own_k3, own_k4, own_k7, own_k8, own_k63, own_k127, own_k128, own_k143, own_k144, own_k159, own_k160, own_k191, own_k192, own_k194, own_k223, own_k224, own_k237, own_k239, own_k240, own_k244, own_k248, own_k255, own_k2048, own_k55296, own_k57343, own_k65536, own_k1114111] at c c2 c3; omega)
          refine Go.iload 122 d2_120 rfl rfl ?_
          refine Go.sipush 125 (240) d2_122 (by decide) rfl ?_
          refine Go.icmp_lt 178 128 d2_125 (by decide) (by decide) rfl (fun _ => ?_) (fun c => by exfalso; simp only [own_lt32, own_eq32, own_k0, own_k1, own_k2, own_k3, own_k4, own_k7, own_k8, own_k63, own_k127, own_k128, own_k143, own_k144, own_k159, own_k160, own_k191, own_k192, own_k194, own_k223, own_k224, own_k237, own_k239, own_k240, own_k244, own_k248, own_k255, own_k2048, own_k55296, own_k57343, own_k65536, own_k1114111] at c c2 c3; omega)
          refine Go.iload_n 179 d2_178 rfl rfl ?_
          refine Go.ireturn d2_179 rfl (by decide) (by decide) ?_
          have hlt := c1
          simp only [own_byE] at c2 c3
          simp only [own_lt32, own_eq32, own_k0, own_k1, own_k2, own_k3, own_k4, own_k7, own_k8, own_k63, own_k127, own_k128, own_k143, own_k144, own_k159, own_k160, own_k191, own_k192, own_k194, own_k223, own_k224, own_k237, own_k239, own_k240, own_k244, own_k248, own_k255, own_k2048, own_k55296, own_k57343, own_k65536, own_k1114111, a1, a2, a3, a4, d2, d3] at c1 c2 c3
          have hnx : own_nx xs p t = (p ^^^ -1) := by
            unfold own_nx
            rw [if_neg (by omega), if_neg (by omega), if_neg (by omega), if_neg (by omega)]
          exact ⟨own_badr hnx (own_ixn hp0) hlt, rfl⟩
        ·
          refine Go.iload 50 d2_48 rfl rfl ?_
          refine Go.sipush 53 (223) d2_50 (by decide) rfl ?_
          refine Go.icmp_gt 62 56 d2_53 (by decide) (by decide) rfl (fun c6 => ?_) (fun c6 => ?_)
          ·
            refine Go.iload 64 d2_62 rfl rfl ?_
            refine Go.sipush 67 (224) d2_64 (by decide) rfl ?_
            refine Go.icmp_lt 120 70 d2_67 (by decide) (by decide) rfl (fun c => by exfalso; simp only [own_lt32, own_eq32, own_k0, own_k1, own_k2, own_k3, own_k4, own_k7, own_k8, own_k63, own_k127, own_k128, own_k143, own_k144, own_k159, own_k160, own_k191, own_k192, own_k194, own_k223, own_k224, own_k237, own_k239, own_k240, own_k244, own_k248, own_k255, own_k2048, own_k55296, own_k57343, own_k65536, own_k1114111] at c c2 c3 c6; omega) (fun _ => ?_)
            refine Go.iload 72 d2_70 rfl rfl ?_
            refine Go.sipush 75 (239) d2_72 (by decide) rfl ?_
            refine Go.icmp_gt 120 78 d2_75 (by decide) (by decide) rfl (fun c8 => ?_) (fun c8 => ?_)
            ·
              refine Go.iload 122 d2_120 rfl rfl ?_
              refine Go.sipush 125 (240) d2_122 (by decide) rfl ?_
              refine Go.icmp_lt 178 128 d2_125 (by decide) (by decide) rfl (fun c => by exfalso; simp only [own_lt32, own_eq32, own_k0, own_k1, own_k2, own_k3, own_k4, own_k7, own_k8, own_k63, own_k127, own_k128, own_k143, own_k144, own_k159, own_k160, own_k191, own_k192, own_k194, own_k223, own_k224, own_k237, own_k239, own_k240, own_k244, own_k248, own_k255, own_k2048, own_k55296, own_k57343, own_k65536, own_k1114111] at c c2 c3 c6 c8; omega) (fun _ => ?_)
              refine Go.iload 130 d2_128 rfl rfl ?_
              refine Go.sipush 133 (244) d2_130 (by decide) rfl ?_
              refine Go.icmp_gt 178 136 d2_133 (by decide) (by decide) rfl (fun c10 => ?_) (fun c10 => ?_)
              ·
                refine Go.iload_n 179 d2_178 rfl rfl ?_
                refine Go.ireturn d2_179 rfl (by decide) (by decide) ?_
                have hlt := c1
                simp only [own_byE] at c2 c3 c6 c8 c10
                simp only [own_lt32, own_eq32, own_k0, own_k1, own_k2, own_k3, own_k4, own_k7, own_k8, own_k63, own_k127, own_k128, own_k143, own_k144, own_k159, own_k160, own_k191, own_k192, own_k194, own_k223, own_k224, own_k237, own_k239, own_k240, own_k244, own_k248, own_k255, own_k2048, own_k55296, own_k57343, own_k65536, own_k1114111, a1, a2, a3, a4, d2, d3] at c1 c2 c3 c6 c8 c10
                have hnx : own_nx xs p t = (p ^^^ -1) := by
                  unfold own_nx
                  rw [if_neg (by omega), if_neg (by omega), if_neg (by omega), if_neg (by omega)]
                exact ⟨own_badr hnx (own_ixn hp0) hlt, rfl⟩
              ·
                refine Go.iconst 137 (3) d2_136 (by decide) rfl ?_
                refine Go.istoreS 139 #[.val (.ref a), .val (.int f), .val (.int t), .val (.int p), .val (.int ((xs.getD (Int32.toNatClampNeg p) 0) &&& (255 : Int32))), .val (.int (3 : Int32)), .val (.int (128 : Int32)), .val (.int (191 : Int32)), u8, u9] d2_137 rfl hu5 rfl rfl ?_
                refine Go.iload 141 d2_139 rfl rfl ?_
                refine Go.sipush 144 (240) d2_141 (by decide) rfl ?_
                refine Go.icmp_ne 153 147 d2_144 (by decide) (by decide) rfl (fun c11 => ?_) (fun c11 => ?_)
                ·
                  refine Go.iload 155 d2_153 rfl rfl ?_
                  refine Go.istore 157 #[.val (.ref a), .val (.int f), .val (.int t), .val (.int p), .val (.int ((xs.getD (Int32.toNatClampNeg p) 0) &&& (255 : Int32))), .val (.int (3 : Int32)), .val (.int (128 : Int32)), .val (.int (191 : Int32)), u8, u9] d2_155 rfl rfl ?_
                  refine Go.iload 159 d2_157 rfl rfl ?_
                  refine Go.sipush 162 (244) d2_159 (by decide) rfl ?_
                  refine Go.icmp_ne 171 165 d2_162 (by decide) (by decide) rfl (fun c12 => ?_) (fun c12 => ?_)
                  ·
                    refine Go.iload 173 d2_171 rfl rfl ?_
                    refine Go.istore 175 #[.val (.ref a), .val (.int f), .val (.int t), .val (.int p), .val (.int ((xs.getD (Int32.toNatClampNeg p) 0) &&& (255 : Int32))), .val (.int (3 : Int32)), .val (.int (128 : Int32)), .val (.int (191 : Int32)), u8, u9] d2_173 rfl rfl ?_
                    refine Go.goto 180 d2_175 (by decide) (by decide) ?_
                    refine Go.iconst 181 (1) d2_180 (by decide) rfl ?_
                    refine Go.istoreS 183 #[.val (.ref a), .val (.int f), .val (.int t), .val (.int p), .val (.int ((xs.getD (Int32.toNatClampNeg p) 0) &&& (255 : Int32))), .val (.int (3 : Int32)), .val (.int (128 : Int32)), .val (.int (191 : Int32)), .val (.int (1 : Int32)), u9] d2_181 rfl hu8 rfl rfl ?_
                    refine Go.iload 185 d2_183 rfl rfl ?_
                    refine Go.iload 187 d2_185 rfl rfl ?_
                    refine Go.icmp_gt 258 190 d2_187 (by decide) (by decide) rfl (fun c => absurd c (by decide)) (fun _ => ?_)
                    refine Go.iload_n 191 d2_190 rfl rfl ?_
                    refine Go.iload 193 d2_191 rfl rfl ?_
                    refine Go.iadd 194 d2_193 rfl ?_
                    refine Go.iload_n 195 d2_194 rfl rfl ?_
                    refine Go.icmp_lt 200 198 d2_195 (by decide) (by decide) rfl (fun c14 => ?_) (fun c14 => ?_)
                    ·
                      refine Go.aload_n 201 d2_200 rfl rfl rfl ?_
                      refine Go.iload_n 202 d2_201 rfl rfl ?_
                      refine Go.iload 204 d2_202 rfl rfl ?_
                      refine Go.iadd 205 d2_204 rfl ?_
                      refine Go.baload (x := (xs.getD (Int32.toNatClampNeg (p + (1 : Int32))) 0)) ((Int32.toNatClampNeg (p + (1 : Int32)))) 206 d2_205 fa0 (own_ixn (by simp only [own_lt32, own_k0, own_k1, own_k2, own_k3, own_k4, own_k7, own_k8, own_k63, own_k127, own_k128, own_k143, own_k144, own_k159, own_k160, own_k191, own_k192, own_k194, own_k223, own_k224, own_k237, own_k239, own_k240, own_k244, own_k248, own_k255, own_k2048, own_k55296, own_k57343, own_k65536, own_k1114111, a1, a2, a3, a4, d2, d3] at c1 c14; simp only [a1, a2, a3, a4, d2, d3]; omega)) rfl (own_getq (own_ixl hl (by simp only [own_lt32, own_k0, own_k1, own_k2, own_k3, own_k4, own_k7, own_k8, own_k63, own_k127, own_k128, own_k143, own_k144, own_k159, own_k160, own_k191, own_k192, own_k194, own_k223, own_k224, own_k237, own_k239, own_k240, own_k244, own_k248, own_k255, own_k2048, own_k55296, own_k57343, own_k65536, own_k1114111, a1, a2, a3, a4, d2, d3] at c1 c14; simp only [a1, a2, a3, a4, d2, d3]; omega) (by simp only [own_lt32, own_k0, own_k1, own_k2, own_k3, own_k4, own_k7, own_k8, own_k63, own_k127, own_k128, own_k143, own_k144, own_k159, own_k160, own_k191, own_k192, own_k194, own_k223, own_k224, own_k237, own_k239, own_k240, own_k244, own_k248, own_k255, own_k2048, own_k55296, own_k57343, own_k65536, own_k1114111, a1, a2, a3, a4, d2, d3] at c1 c14; simp only [a1, a2, a3, a4, d2, d3]; omega))) rfl ?_
                      refine Go.sipush 209 (255) d2_206 (by decide) rfl ?_
                      refine Go.iand 210 d2_209 rfl ?_
                      refine Go.istoreS 212 #[.val (.ref a), .val (.int f), .val (.int t), .val (.int p), .val (.int ((xs.getD (Int32.toNatClampNeg p) 0) &&& (255 : Int32))), .val (.int (3 : Int32)), .val (.int (128 : Int32)), .val (.int (191 : Int32)), .val (.int (1 : Int32)), .val (.int ((xs.getD (Int32.toNatClampNeg (p + (1 : Int32))) 0) &&& (255 : Int32)))] d2_210 rfl hu9 rfl rfl ?_
                      refine Go.iload 214 d2_212 rfl rfl ?_
                      refine Go.iload 216 d2_214 rfl rfl ?_
                      refine Go.iconst 217 (1) d2_216 (by decide) rfl ?_
                      refine Go.icmp_ne 225 220 d2_217 (by decide) (by decide) rfl (fun c => absurd c (by decide)) (fun _ => ?_)
                      refine Go.iload 222 d2_220 rfl rfl ?_
                      refine Go.goto 228 d2_222 (by decide) (by decide) ?_
                      refine Go.icmp_lt 250 231 d2_228 (by decide) (by decide) rfl (fun c16 => ?_) (fun c16 => ?_)
                      ·
                        refine Go.iload_n 251 d2_250 rfl rfl ?_
                        refine Go.ireturn d2_251 rfl (by decide) (by decide) ?_
                        have hlt := c1
                        simp only [own_byE] at c2 c3 c6 c8 c10 c11 c12 c16
                        simp only [own_lt32, own_eq32, own_k0, own_k1, own_k2, own_k3, own_k4, own_k7, own_k8, own_k63, own_k127, own_k128, own_k143, own_k144, own_k159, own_k160, own_k191, own_k192, own_k194, own_k223, own_k224, own_k237, own_k239, own_k240, own_k244, own_k248, own_k255, own_k2048, own_k55296, own_k57343, own_k65536, own_k1114111, a1, a2, a3, a4, d2, d3] at c1 c2 c3 c6 c8 c10 c11 c12 c14 c16
                        have hnx : own_nx xs p t = (p ^^^ -1) := by
                          unfold own_nx
                          rw [if_neg (by omega), if_neg (by omega), if_neg (by omega), if_neg (by omega)]
                        exact ⟨own_badr hnx (own_ixn hp0) hlt, rfl⟩
                      ·
                        refine Go.iload 233 d2_231 rfl rfl ?_
                        refine Go.iload 235 d2_233 rfl rfl ?_
                        refine Go.iconst 236 (1) d2_235 (by decide) rfl ?_
                        refine Go.icmp_ne 244 239 d2_236 (by decide) (by decide) rfl (fun c => absurd c (by decide)) (fun _ => ?_)
                        refine Go.iload 241 d2_239 rfl rfl ?_
                        refine Go.goto 247 d2_241 (by decide) (by decide) ?_
                        refine Go.icmp_le 252 250 d2_247 (by decide) (by decide) rfl (fun c18 => ?_) (fun c18 => ?_)
                        ·
                          refine Go.iinc 255 (1) #[.val (.ref a), .val (.int f), .val (.int t), .val (.int p), .val (.int ((xs.getD (Int32.toNatClampNeg p) 0) &&& (255 : Int32))), .val (.int (3 : Int32)), .val (.int (128 : Int32)), .val (.int (191 : Int32)), .val (.int ((1 : Int32) + (1 : Int32))), .val (.int ((xs.getD (Int32.toNatClampNeg (p + (1 : Int32))) 0) &&& (255 : Int32)))] d2_252 (by decide) rfl rfl rfl ?_
                          refine Go.goto 183 d2_255 (by decide) (by decide) ?_
                          refine Go.iload 185 d2_183 rfl rfl ?_
                          refine Go.iload 187 d2_185 rfl rfl ?_
                          refine Go.icmp_gt 258 190 d2_187 (by decide) (by decide) rfl (fun c => absurd c (by decide)) (fun _ => ?_)
                          refine Go.iload_n 191 d2_190 rfl rfl ?_
                          refine Go.iload 193 d2_191 rfl rfl ?_
                          refine Go.iadd 194 d2_193 rfl ?_
                          refine Go.iload_n 195 d2_194 rfl rfl ?_
                          refine Go.icmp_lt 200 198 d2_195 (by decide) (by decide) rfl (fun c20 => ?_) (fun c20 => ?_)
                          ·
                            refine Go.aload_n 201 d2_200 rfl rfl rfl ?_
                            refine Go.iload_n 202 d2_201 rfl rfl ?_
                            refine Go.iload 204 d2_202 rfl rfl ?_
                            refine Go.iadd 205 d2_204 rfl ?_
                            refine Go.baload (x := (xs.getD (Int32.toNatClampNeg (p + (2 : Int32))) 0)) ((Int32.toNatClampNeg (p + (2 : Int32)))) 206 d2_205 fa0 (own_ixn (by simp only [own_lt32, own_k0, own_k1, own_k2, own_k3, own_k4, own_k7, own_k8, own_k63, own_k127, own_k128, own_k143, own_k144, own_k159, own_k160, own_k191, own_k192, own_k194, own_k223, own_k224, own_k237, own_k239, own_k240, own_k244, own_k248, own_k255, own_k2048, own_k55296, own_k57343, own_k65536, own_k1114111, a1, a2, a3, a4, d2, d3] at c1 c14 c20; simp only [a1, a2, a3, a4, d2, d3]; omega)) (congrArg (fun k => Int32.toNatClampNeg (p + k)) (by decide : ((1 : Int32) + (1 : Int32)) = (2 : Int32))) (own_getq (own_ixl hl (by simp only [own_lt32, own_k0, own_k1, own_k2, own_k3, own_k4, own_k7, own_k8, own_k63, own_k127, own_k128, own_k143, own_k144, own_k159, own_k160, own_k191, own_k192, own_k194, own_k223, own_k224, own_k237, own_k239, own_k240, own_k244, own_k248, own_k255, own_k2048, own_k55296, own_k57343, own_k65536, own_k1114111, a1, a2, a3, a4, d2, d3] at c1 c14 c20; simp only [a1, a2, a3, a4, d2, d3]; omega) (by simp only [own_lt32, own_k0, own_k1, own_k2, own_k3, own_k4, own_k7, own_k8, own_k63, own_k127, own_k128, own_k143, own_k144, own_k159, own_k160, own_k191, own_k192, own_k194, own_k223, own_k224, own_k237, own_k239, own_k240, own_k244, own_k248, own_k255, own_k2048, own_k55296, own_k57343, own_k65536, own_k1114111, a1, a2, a3, a4, d2, d3] at c1 c14 c20; simp only [a1, a2, a3, a4, d2, d3]; omega))) rfl ?_
                            refine Go.sipush 209 (255) d2_206 (by decide) rfl ?_
                            refine Go.iand 210 d2_209 rfl ?_
                            refine Go.istore 212 #[.val (.ref a), .val (.int f), .val (.int t), .val (.int p), .val (.int ((xs.getD (Int32.toNatClampNeg p) 0) &&& (255 : Int32))), .val (.int (3 : Int32)), .val (.int (128 : Int32)), .val (.int (191 : Int32)), .val (.int ((1 : Int32) + (1 : Int32))), .val (.int ((xs.getD (Int32.toNatClampNeg (p + (2 : Int32))) 0) &&& (255 : Int32)))] d2_210 rfl rfl ?_
                            refine Go.iload 214 d2_212 rfl rfl ?_
                            refine Go.iload 216 d2_214 rfl rfl ?_
                            refine Go.iconst 217 (1) d2_216 (by decide) rfl ?_
                            refine Go.icmp_ne 225 220 d2_217 (by decide) (by decide) rfl (fun _ => ?_) (fun c => absurd c (by decide))
                            refine Go.sipush 228 (128) d2_225 (by decide) rfl ?_
                            refine Go.icmp_lt 250 231 d2_228 (by decide) (by decide) rfl (fun c22 => ?_) (fun c22 => ?_)
                            ·
                              refine Go.iload_n 251 d2_250 rfl rfl ?_
                              refine Go.ireturn d2_251 rfl (by decide) (by decide) ?_
                              have hlt := c1
                              simp only [own_byE] at c2 c3 c6 c8 c10 c11 c12 c16 c18 c22
                              simp only [own_lt32, own_eq32, own_k0, own_k1, own_k2, own_k3, own_k4, own_k7, own_k8, own_k63, own_k127, own_k128, own_k143, own_k144, own_k159, own_k160, own_k191, own_k192, own_k194, own_k223, own_k224, own_k237, own_k239, own_k240, own_k244, own_k248, own_k255, own_k2048, own_k55296, own_k57343, own_k65536, own_k1114111, a1, a2, a3, a4, d2, d3] at c1 c2 c3 c6 c8 c10 c11 c12 c14 c16 c18 c20 c22
                              have hnx : own_nx xs p t = (p ^^^ -1) := by
                                unfold own_nx
                                rw [if_neg (by omega), if_neg (by omega), if_neg (by omega), if_neg (by omega)]
                              exact ⟨own_badr hnx (own_ixn hp0) hlt, rfl⟩
                            ·
                              refine Go.iload 233 d2_231 rfl rfl ?_
                              refine Go.iload 235 d2_233 rfl rfl ?_
                              refine Go.iconst 236 (1) d2_235 (by decide) rfl ?_
                              refine Go.icmp_ne 244 239 d2_236 (by decide) (by decide) rfl (fun _ => ?_) (fun c => absurd c (by decide))
                              refine Go.sipush 247 (191) d2_244 (by decide) rfl ?_
                              refine Go.icmp_le 252 250 d2_247 (by decide) (by decide) rfl (fun c24 => ?_) (fun c24 => ?_)
                              ·
                                refine Go.iinc 255 (1) #[.val (.ref a), .val (.int f), .val (.int t), .val (.int p), .val (.int ((xs.getD (Int32.toNatClampNeg p) 0) &&& (255 : Int32))), .val (.int (3 : Int32)), .val (.int (128 : Int32)), .val (.int (191 : Int32)), .val (.int (((1 : Int32) + (1 : Int32)) + (1 : Int32))), .val (.int ((xs.getD (Int32.toNatClampNeg (p + (2 : Int32))) 0) &&& (255 : Int32)))] d2_252 (by decide) rfl rfl rfl ?_
                                refine Go.goto 183 d2_255 (by decide) (by decide) ?_
                                refine Go.iload 185 d2_183 rfl rfl ?_
                                refine Go.iload 187 d2_185 rfl rfl ?_
                                refine Go.icmp_gt 258 190 d2_187 (by decide) (by decide) rfl (fun c => absurd c (by decide)) (fun _ => ?_)
                                refine Go.iload_n 191 d2_190 rfl rfl ?_
                                refine Go.iload 193 d2_191 rfl rfl ?_
                                refine Go.iadd 194 d2_193 rfl ?_
                                refine Go.iload_n 195 d2_194 rfl rfl ?_
                                refine Go.icmp_lt 200 198 d2_195 (by decide) (by decide) rfl (fun c26 => ?_) (fun c26 => ?_)
                                ·
                                  refine Go.aload_n 201 d2_200 rfl rfl rfl ?_
                                  refine Go.iload_n 202 d2_201 rfl rfl ?_
                                  refine Go.iload 204 d2_202 rfl rfl ?_
                                  refine Go.iadd 205 d2_204 rfl ?_
                                  refine Go.baload (x := (xs.getD (Int32.toNatClampNeg (p + (3 : Int32))) 0)) ((Int32.toNatClampNeg (p + (3 : Int32)))) 206 d2_205 fa0 (own_ixn (by simp only [own_lt32, own_k0, own_k1, own_k2, own_k3, own_k4, own_k7, own_k8, own_k63, own_k127, own_k128, own_k143, own_k144, own_k159, own_k160, own_k191, own_k192, own_k194, own_k223, own_k224, own_k237, own_k239, own_k240, own_k244, own_k248, own_k255, own_k2048, own_k55296, own_k57343, own_k65536, own_k1114111, a1, a2, a3, a4, d2, d3] at c1 c14 c20 c26; simp only [a1, a2, a3, a4, d2, d3]; omega)) (congrArg (fun k => Int32.toNatClampNeg (p + k)) (by decide : (((1 : Int32) + (1 : Int32)) + (1 : Int32)) = (3 : Int32))) (own_getq (own_ixl hl (by simp only [own_lt32, own_k0, own_k1, own_k2, own_k3, own_k4, own_k7, own_k8, own_k63, own_k127, own_k128, own_k143, own_k144, own_k159, own_k160, own_k191, own_k192, own_k194, own_k223, own_k224, own_k237, own_k239, own_k240, own_k244, own_k248, own_k255, own_k2048, own_k55296, own_k57343, own_k65536, own_k1114111, a1, a2, a3, a4, d2, d3] at c1 c14 c20 c26; simp only [a1, a2, a3, a4, d2, d3]; omega) (by simp only [own_lt32, own_k0, own_k1, own_k2, own_k3, own_k4, own_k7, own_k8, own_k63, own_k127, own_k128, own_k143, own_k144, own_k159, own_k160, own_k191, own_k192, own_k194, own_k223, own_k224, own_k237, own_k239, own_k240, own_k244, own_k248, own_k255, own_k2048, own_k55296, own_k57343, own_k65536, own_k1114111, a1, a2, a3, a4, d2, d3] at c1 c14 c20 c26; simp only [a1, a2, a3, a4, d2, d3]; omega))) rfl ?_
                                  refine Go.sipush 209 (255) d2_206 (by decide) rfl ?_
                                  refine Go.iand 210 d2_209 rfl ?_
                                  refine Go.istore 212 #[.val (.ref a), .val (.int f), .val (.int t), .val (.int p), .val (.int ((xs.getD (Int32.toNatClampNeg p) 0) &&& (255 : Int32))), .val (.int (3 : Int32)), .val (.int (128 : Int32)), .val (.int (191 : Int32)), .val (.int (((1 : Int32) + (1 : Int32)) + (1 : Int32))), .val (.int ((xs.getD (Int32.toNatClampNeg (p + (3 : Int32))) 0) &&& (255 : Int32)))] d2_210 rfl rfl ?_
                                  refine Go.iload 214 d2_212 rfl rfl ?_
                                  refine Go.iload 216 d2_214 rfl rfl ?_
                                  refine Go.iconst 217 (1) d2_216 (by decide) rfl ?_
                                  refine Go.icmp_ne 225 220 d2_217 (by decide) (by decide) rfl (fun _ => ?_) (fun c => absurd c (by decide))
                                  refine Go.sipush 228 (128) d2_225 (by decide) rfl ?_
                                  refine Go.icmp_lt 250 231 d2_228 (by decide) (by decide) rfl (fun c28 => ?_) (fun c28 => ?_)
                                  ·
                                    refine Go.iload_n 251 d2_250 rfl rfl ?_
                                    refine Go.ireturn d2_251 rfl (by decide) (by decide) ?_
                                    have hlt := c1
                                    simp only [own_byE] at c2 c3 c6 c8 c10 c11 c12 c16 c18 c22 c24 c28
                                    simp only [own_lt32, own_eq32, own_k0, own_k1, own_k2, own_k3, own_k4, own_k7, own_k8, own_k63, own_k127, own_k128, own_k143, own_k144, own_k159, own_k160, own_k191, own_k192, own_k194, own_k223, own_k224, own_k237, own_k239, own_k240, own_k244, own_k248, own_k255, own_k2048, own_k55296, own_k57343, own_k65536, own_k1114111, a1, a2, a3, a4, d2, d3] at c1 c2 c3 c6 c8 c10 c11 c12 c14 c16 c18 c20 c22 c24 c26 c28
                                    have hnx : own_nx xs p t = (p ^^^ -1) := by
                                      unfold own_nx
                                      rw [if_neg (by omega), if_neg (by omega), if_neg (by omega), if_neg (by omega)]
                                    exact ⟨own_badr hnx (own_ixn hp0) hlt, rfl⟩
                                  ·
                                    refine Go.iload 233 d2_231 rfl rfl ?_
                                    refine Go.iload 235 d2_233 rfl rfl ?_
                                    refine Go.iconst 236 (1) d2_235 (by decide) rfl ?_
                                    refine Go.icmp_ne 244 239 d2_236 (by decide) (by decide) rfl (fun _ => ?_) (fun c => absurd c (by decide))
                                    refine Go.sipush 247 (191) d2_244 (by decide) rfl ?_
                                    refine Go.icmp_le 252 250 d2_247 (by decide) (by decide) rfl (fun c30 => ?_) (fun c30 => ?_)
                                    ·
                                      refine Go.iinc 255 (1) #[.val (.ref a), .val (.int f), .val (.int t), .val (.int p), .val (.int ((xs.getD (Int32.toNatClampNeg p) 0) &&& (255 : Int32))), .val (.int (3 : Int32)), .val (.int (128 : Int32)), .val (.int (191 : Int32)), .val (.int ((((1 : Int32) + (1 : Int32)) + (1 : Int32)) + (1 : Int32))), .val (.int ((xs.getD (Int32.toNatClampNeg (p + (3 : Int32))) 0) &&& (255 : Int32)))] d2_252 (by decide) rfl rfl rfl ?_
                                      refine Go.goto 183 d2_255 (by decide) (by decide) ?_
                                      refine Go.iload 185 d2_183 rfl rfl ?_
                                      refine Go.iload 187 d2_185 rfl rfl ?_
                                      refine Go.icmp_gt 258 190 d2_187 (by decide) (by decide) rfl (fun _ => ?_) (fun c => absurd c (by decide))
                                      refine Go.iload_n 259 d2_258 rfl rfl ?_
                                      refine Go.iload 261 d2_259 rfl rfl ?_
                                      refine Go.iconst 262 (1) d2_261 (by decide) rfl ?_
                                      refine Go.iadd 263 d2_262 rfl ?_
                                      refine Go.iadd 264 d2_263 rfl ?_
                                      refine Go.istore_n 265 #[.val (.ref a), .val (.int f), .val (.int t), .val (.int (p + ((3 : Int32) + (1 : Int32)))), .val (.int ((xs.getD (Int32.toNatClampNeg p) 0) &&& (255 : Int32))), .val (.int (3 : Int32)), .val (.int (128 : Int32)), .val (.int (191 : Int32)), .val (.int ((((1 : Int32) + (1 : Int32)) + (1 : Int32)) + (1 : Int32))), .val (.int ((xs.getD (Int32.toNatClampNeg (p + (3 : Int32))) 0) &&& (255 : Int32)))] d2_264 rfl rfl ?_
                                      refine Go.goto 2 d2_265 (by decide) (by decide) ?_
                                      have hlt := c1
                                      simp only [own_byE] at c2 c3 c6 c8 c10 c11 c12 c16 c18 c22 c24 c28 c30
                                      simp only [own_lt32, own_eq32, own_k0, own_k1, own_k2, own_k3, own_k4, own_k7, own_k8, own_k63, own_k127, own_k128, own_k143, own_k144, own_k159, own_k160, own_k191, own_k192, own_k194, own_k223, own_k224, own_k237, own_k239, own_k240, own_k244, own_k248, own_k255, own_k2048, own_k55296, own_k57343, own_k65536, own_k1114111, a1, a2, a3, a4, d2, d3] at c1 c2 c3 c6 c8 c10 c11 c12 c14 c16 c18 c20 c22 c24 c26 c28 c30
                                      have hnx : own_nx xs p t = p + 4 := by
                                        unfold own_nx
                                        rw [if_neg (by omega), if_neg (by omega), if_neg (by omega), if_pos (by omega)]
                                      have ei : (p + ((3 : Int32) + (1 : Int32))) = p + 4 := congrArg (fun k => p + k) (by decide)
                                      rw [ei]
                                      have e9 : own_it xs t (n + 1) p = own_it xs t n (p + 4) := by rw [own_it_step (own_ixn hp0) hlt, hnx]
                                      rw [e9]
                                      exact (ih (p + 4) (by omega) (by omega) (by omega) (.val (.int ((xs.getD (Int32.toNatClampNeg p) 0) &&& (255 : Int32)))) (.val (.int (3 : Int32))) (.val (.int (128 : Int32))) (.val (.int (191 : Int32))) (.val (.int ((((1 : Int32) + (1 : Int32)) + (1 : Int32)) + (1 : Int32)))) (.val (.int ((xs.getD (Int32.toNatClampNeg (p + (3 : Int32))) 0) &&& (255 : Int32)))) (Or.inr ⟨_, rfl, rfl⟩) (Or.inr ⟨_, rfl, rfl⟩) (Or.inr ⟨_, rfl, rfl⟩) (Or.inr ⟨_, rfl, rfl⟩) (Or.inr ⟨_, rfl, rfl⟩) (Or.inr ⟨_, rfl, rfl⟩)).le (by decide) (by decide)
                                    ·
                                      refine Go.iload_n 251 d2_250 rfl rfl ?_
                                      refine Go.ireturn d2_251 rfl (by decide) (by decide) ?_
                                      have hlt := c1
                                      simp only [own_byE] at c2 c3 c6 c8 c10 c11 c12 c16 c18 c22 c24 c28 c30
                                      simp only [own_lt32, own_eq32, own_k0, own_k1, own_k2, own_k3, own_k4, own_k7, own_k8, own_k63, own_k127, own_k128, own_k143, own_k144, own_k159, own_k160, own_k191, own_k192, own_k194, own_k223, own_k224, own_k237, own_k239, own_k240, own_k244, own_k248, own_k255, own_k2048, own_k55296, own_k57343, own_k65536, own_k1114111, a1, a2, a3, a4, d2, d3] at c1 c2 c3 c6 c8 c10 c11 c12 c14 c16 c18 c20 c22 c24 c26 c28 c30
                                      have hnx : own_nx xs p t = (p ^^^ -1) := by
                                        unfold own_nx
                                        rw [if_neg (by omega), if_neg (by omega), if_neg (by omega), if_neg (by omega)]
                                      exact ⟨own_badr hnx (own_ixn hp0) hlt, rfl⟩
                                ·
                                  refine Go.iload_n 199 d2_198 rfl rfl ?_
                                  refine Go.ireturn d2_199 rfl (by decide) (by decide) ?_
                                  have hlt := c1
                                  simp only [own_byE] at c2 c3 c6 c8 c10 c11 c12 c16 c18 c22 c24
                                  simp only [own_lt32, own_eq32, own_k0, own_k1, own_k2, own_k3, own_k4, own_k7, own_k8, own_k63, own_k127, own_k128, own_k143, own_k144, own_k159, own_k160, own_k191, own_k192, own_k194, own_k223, own_k224, own_k237, own_k239, own_k240, own_k244, own_k248, own_k255, own_k2048, own_k55296, own_k57343, own_k65536, own_k1114111, a1, a2, a3, a4, d2, d3] at c1 c2 c3 c6 c8 c10 c11 c12 c14 c16 c18 c20 c22 c24 c26
                                  have hnx : own_nx xs p t = (p ^^^ -1) := by
                                    unfold own_nx
                                    rw [if_neg (by omega), if_neg (by omega), if_neg (by omega), if_neg (by omega)]
                                  exact ⟨own_badr hnx (own_ixn hp0) hlt, rfl⟩
                              ·
                                refine Go.iload_n 251 d2_250 rfl rfl ?_
                                refine Go.ireturn d2_251 rfl (by decide) (by decide) ?_
                                have hlt := c1
                                simp only [own_byE] at c2 c3 c6 c8 c10 c11 c12 c16 c18 c22 c24
                                simp only [own_lt32, own_eq32, own_k0, own_k1, own_k2, own_k3, own_k4, own_k7, own_k8, own_k63, own_k127, own_k128, own_k143, own_k144, own_k159, own_k160, own_k191, own_k192, own_k194, own_k223, own_k224, own_k237, own_k239, own_k240, own_k244, own_k248, own_k255, own_k2048, own_k55296, own_k57343, own_k65536, own_k1114111, a1, a2, a3, a4, d2, d3] at c1 c2 c3 c6 c8 c10 c11 c12 c14 c16 c18 c20 c22 c24
                                have hnx : own_nx xs p t = (p ^^^ -1) := by
                                  unfold own_nx
                                  rw [if_neg (by omega), if_neg (by omega), if_neg (by omega), if_neg (by omega)]
                                exact ⟨own_badr hnx (own_ixn hp0) hlt, rfl⟩
                          ·
                            refine Go.iload_n 199 d2_198 rfl rfl ?_
                            refine Go.ireturn d2_199 rfl (by decide) (by decide) ?_
                            have hlt := c1
                            simp only [own_byE] at c2 c3 c6 c8 c10 c11 c12 c16 c18
                            simp only [own_lt32, own_eq32, own_k0, own_k1, own_k2, own_k3, own_k4, own_k7, own_k8, own_k63, own_k127, own_k128, own_k143, own_k144, own_k159, own_k160, own_k191, own_k192, own_k194, own_k223, own_k224, own_k237, own_k239, own_k240, own_k244, own_k248, own_k255, own_k2048, own_k55296, own_k57343, own_k65536, own_k1114111, a1, a2, a3, a4, d2, d3] at c1 c2 c3 c6 c8 c10 c11 c12 c14 c16 c18 c20
                            have hnx : own_nx xs p t = (p ^^^ -1) := by
                              unfold own_nx
                              rw [if_neg (by omega), if_neg (by omega), if_neg (by omega), if_neg (by omega)]
                            exact ⟨own_badr hnx (own_ixn hp0) hlt, rfl⟩
                        ·
                          refine Go.iload_n 251 d2_250 rfl rfl ?_
                          refine Go.ireturn d2_251 rfl (by decide) (by decide) ?_
                          have hlt := c1
                          simp only [own_byE] at c2 c3 c6 c8 c10 c11 c12 c16 c18
                          simp only [own_lt32, own_eq32, own_k0, own_k1, own_k2, own_k3, own_k4, own_k7, own_k8, own_k63, own_k127, own_k128, own_k143, own_k144, own_k159, own_k160, own_k191, own_k192, own_k194, own_k223, own_k224, own_k237, own_k239, own_k240, own_k244, own_k248, own_k255, own_k2048, own_k55296, own_k57343, own_k65536, own_k1114111, a1, a2, a3, a4, d2, d3] at c1 c2 c3 c6 c8 c10 c11 c12 c14 c16 c18
                          have hnx : own_nx xs p t = (p ^^^ -1) := by
                            unfold own_nx
                            rw [if_neg (by omega), if_neg (by omega), if_neg (by omega), if_neg (by omega)]
                          exact ⟨own_badr hnx (own_ixn hp0) hlt, rfl⟩
                    ·
                      refine Go.iload_n 199 d2_198 rfl rfl ?_
                      refine Go.ireturn d2_199 rfl (by decide) (by decide) ?_
                      have hlt := c1
                      simp only [own_byE] at c2 c3 c6 c8 c10 c11 c12
                      simp only [own_lt32, own_eq32, own_k0, own_k1, own_k2, own_k3, own_k4, own_k7, own_k8, own_k63, own_k127, own_k128, own_k143, own_k144, own_k159, own_k160, own_k191, own_k192, own_k194, own_k223, own_k224, own_k237, own_k239, own_k240, own_k244, own_k248, own_k255, own_k2048, own_k55296, own_k57343, own_k65536, own_k1114111, a1, a2, a3, a4, d2, d3] at c1 c2 c3 c6 c8 c10 c11 c12 c14
                      have hnx : own_nx xs p t = (p ^^^ -1) := by
                        unfold own_nx
                        rw [if_neg (by omega), if_neg (by omega), if_neg (by omega), if_neg (by omega)]
                      exact ⟨own_badr hnx (own_ixn hp0) hlt, rfl⟩
                  ·
                    refine Go.sipush 168 (143) d2_165 (by decide) rfl ?_
                    refine Go.goto 173 d2_168 (by decide) (by decide) ?_
                    refine Go.istore 175 #[.val (.ref a), .val (.int f), .val (.int t), .val (.int p), .val (.int ((xs.getD (Int32.toNatClampNeg p) 0) &&& (255 : Int32))), .val (.int (3 : Int32)), .val (.int (128 : Int32)), .val (.int (143 : Int32)), u8, u9] d2_173 rfl rfl ?_
                    refine Go.goto 180 d2_175 (by decide) (by decide) ?_
                    refine Go.iconst 181 (1) d2_180 (by decide) rfl ?_
                    refine Go.istoreS 183 #[.val (.ref a), .val (.int f), .val (.int t), .val (.int p), .val (.int ((xs.getD (Int32.toNatClampNeg p) 0) &&& (255 : Int32))), .val (.int (3 : Int32)), .val (.int (128 : Int32)), .val (.int (143 : Int32)), .val (.int (1 : Int32)), u9] d2_181 rfl hu8 rfl rfl ?_
                    refine Go.iload 185 d2_183 rfl rfl ?_
                    refine Go.iload 187 d2_185 rfl rfl ?_
                    refine Go.icmp_gt 258 190 d2_187 (by decide) (by decide) rfl (fun c => absurd c (by decide)) (fun _ => ?_)
                    refine Go.iload_n 191 d2_190 rfl rfl ?_
                    refine Go.iload 193 d2_191 rfl rfl ?_
                    refine Go.iadd 194 d2_193 rfl ?_
                    refine Go.iload_n 195 d2_194 rfl rfl ?_
                    refine Go.icmp_lt 200 198 d2_195 (by decide) (by decide) rfl (fun c33 => ?_) (fun c33 => ?_)
                    ·
                      refine Go.aload_n 201 d2_200 rfl rfl rfl ?_
                      refine Go.iload_n 202 d2_201 rfl rfl ?_
                      refine Go.iload 204 d2_202 rfl rfl ?_
                      refine Go.iadd 205 d2_204 rfl ?_
                      refine Go.baload (x := (xs.getD (Int32.toNatClampNeg (p + (1 : Int32))) 0)) ((Int32.toNatClampNeg (p + (1 : Int32)))) 206 d2_205 fa0 (own_ixn (by simp only [own_lt32, own_k0, own_k1, own_k2, own_k3, own_k4, own_k7, own_k8, own_k63, own_k127, own_k128, own_k143, own_k144, own_k159, own_k160, own_k191, own_k192, own_k194, own_k223, own_k224, own_k237, own_k239, own_k240, own_k244, own_k248, own_k255, own_k2048, own_k55296, own_k57343, own_k65536, own_k1114111, a1, a2, a3, a4, d2, d3] at c1 c33; simp only [a1, a2, a3, a4, d2, d3]; omega)) rfl (own_getq (own_ixl hl (by simp only [own_lt32, own_k0, own_k1, own_k2, own_k3, own_k4, own_k7, own_k8, own_k63, own_k127, own_k128, own_k143, own_k144, own_k159, own_k160, own_k191, own_k192, own_k194, own_k223, own_k224, own_k237, own_k239, own_k240, own_k244, own_k248, own_k255, own_k2048, own_k55296, own_k57343, own_k65536, own_k1114111, a1, a2, a3, a4, d2, d3] at c1 c33; simp only [a1, a2, a3, a4, d2, d3]; omega) (by simp only [own_lt32, own_k0, own_k1, own_k2, own_k3, own_k4, own_k7, own_k8, own_k63, own_k127, own_k128, own_k143, own_k144, own_k159, own_k160, own_k191, own_k192, own_k194, own_k223, own_k224, own_k237, own_k239, own_k240, own_k244, own_k248, own_k255, own_k2048, own_k55296, own_k57343, own_k65536, own_k1114111, a1, a2, a3, a4, d2, d3] at c1 c33; simp only [a1, a2, a3, a4, d2, d3]; omega))) rfl ?_
                      refine Go.sipush 209 (255) d2_206 (by decide) rfl ?_
                      refine Go.iand 210 d2_209 rfl ?_
                      refine Go.istoreS 212 #[.val (.ref a), .val (.int f), .val (.int t), .val (.int p), .val (.int ((xs.getD (Int32.toNatClampNeg p) 0) &&& (255 : Int32))), .val (.int (3 : Int32)), .val (.int (128 : Int32)), .val (.int (143 : Int32)), .val (.int (1 : Int32)), .val (.int ((xs.getD (Int32.toNatClampNeg (p + (1 : Int32))) 0) &&& (255 : Int32)))] d2_210 rfl hu9 rfl rfl ?_
                      refine Go.iload 214 d2_212 rfl rfl ?_
                      refine Go.iload 216 d2_214 rfl rfl ?_
                      refine Go.iconst 217 (1) d2_216 (by decide) rfl ?_
                      refine Go.icmp_ne 225 220 d2_217 (by decide) (by decide) rfl (fun c => absurd c (by decide)) (fun _ => ?_)
                      refine Go.iload 222 d2_220 rfl rfl ?_
                      refine Go.goto 228 d2_222 (by decide) (by decide) ?_
                      refine Go.icmp_lt 250 231 d2_228 (by decide) (by decide) rfl (fun c35 => ?_) (fun c35 => ?_)
                      ·
                        refine Go.iload_n 251 d2_250 rfl rfl ?_
                        refine Go.ireturn d2_251 rfl (by decide) (by decide) ?_
                        have hlt := c1
                        simp only [own_byE] at c2 c3 c6 c8 c10 c11 c12 c35
                        simp only [own_lt32, own_eq32, own_k0, own_k1, own_k2, own_k3, own_k4, own_k7, own_k8, own_k63, own_k127, own_k128, own_k143, own_k144, own_k159, own_k160, own_k191, own_k192, own_k194, own_k223, own_k224, own_k237, own_k239, own_k240, own_k244, own_k248, own_k255, own_k2048, own_k55296, own_k57343, own_k65536, own_k1114111, a1, a2, a3, a4, d2, d3] at c1 c2 c3 c6 c8 c10 c11 c12 c33 c35
                        have hnx : own_nx xs p t = (p ^^^ -1) := by
                          unfold own_nx
                          rw [if_neg (by omega), if_neg (by omega), if_neg (by omega), if_neg (by omega)]
                        exact ⟨own_badr hnx (own_ixn hp0) hlt, rfl⟩
                      ·
                        refine Go.iload 233 d2_231 rfl rfl ?_
                        refine Go.iload 235 d2_233 rfl rfl ?_
                        refine Go.iconst 236 (1) d2_235 (by decide) rfl ?_
                        refine Go.icmp_ne 244 239 d2_236 (by decide) (by decide) rfl (fun c => absurd c (by decide)) (fun _ => ?_)
                        refine Go.iload 241 d2_239 rfl rfl ?_
                        refine Go.goto 247 d2_241 (by decide) (by decide) ?_
                        refine Go.icmp_le 252 250 d2_247 (by decide) (by decide) rfl (fun c37 => ?_) (fun c37 => ?_)
                        ·
                          refine Go.iinc 255 (1) #[.val (.ref a), .val (.int f), .val (.int t), .val (.int p), .val (.int ((xs.getD (Int32.toNatClampNeg p) 0) &&& (255 : Int32))), .val (.int (3 : Int32)), .val (.int (128 : Int32)), .val (.int (143 : Int32)), .val (.int ((1 : Int32) + (1 : Int32))), .val (.int ((xs.getD (Int32.toNatClampNeg (p + (1 : Int32))) 0) &&& (255 : Int32)))] d2_252 (by decide) rfl rfl rfl ?_
                          refine Go.goto 183 d2_255 (by decide) (by decide) ?_
                          refine Go.iload 185 d2_183 rfl rfl ?_
                          refine Go.iload 187 d2_185 rfl rfl ?_
                          refine Go.icmp_gt 258 190 d2_187 (by decide) (by decide) rfl (fun c => absurd c (by decide)) (fun _ => ?_)
                          refine Go.iload_n 191 d2_190 rfl rfl ?_
                          refine Go.iload 193 d2_191 rfl rfl ?_
                          refine Go.iadd 194 d2_193 rfl ?_
                          refine Go.iload_n 195 d2_194 rfl rfl ?_
                          refine Go.icmp_lt 200 198 d2_195 (by decide) (by decide) rfl (fun c39 => ?_) (fun c39 => ?_)
                          ·
                            refine Go.aload_n 201 d2_200 rfl rfl rfl ?_
                            refine Go.iload_n 202 d2_201 rfl rfl ?_
                            refine Go.iload 204 d2_202 rfl rfl ?_
                            refine Go.iadd 205 d2_204 rfl ?_
                            refine Go.baload (x := (xs.getD (Int32.toNatClampNeg (p + (2 : Int32))) 0)) ((Int32.toNatClampNeg (p + (2 : Int32)))) 206 d2_205 fa0 (own_ixn (by simp only [own_lt32, own_k0, own_k1, own_k2, own_k3, own_k4, own_k7, own_k8, own_k63, own_k127, own_k128, own_k143, own_k144, own_k159, own_k160, own_k191, own_k192, own_k194, own_k223, own_k224, own_k237, own_k239, own_k240, own_k244, own_k248, own_k255, own_k2048, own_k55296, own_k57343, own_k65536, own_k1114111, a1, a2, a3, a4, d2, d3] at c1 c33 c39; simp only [a1, a2, a3, a4, d2, d3]; omega)) (congrArg (fun k => Int32.toNatClampNeg (p + k)) (by decide : ((1 : Int32) + (1 : Int32)) = (2 : Int32))) (own_getq (own_ixl hl (by simp only [own_lt32, own_k0, own_k1, own_k2, own_k3, own_k4, own_k7, own_k8, own_k63, own_k127, own_k128, own_k143, own_k144, own_k159, own_k160, own_k191, own_k192, own_k194, own_k223, own_k224, own_k237, own_k239, own_k240, own_k244, own_k248, own_k255, own_k2048, own_k55296, own_k57343, own_k65536, own_k1114111, a1, a2, a3, a4, d2, d3] at c1 c33 c39; simp only [a1, a2, a3, a4, d2, d3]; omega) (by simp only [own_lt32, own_k0, own_k1, own_k2, own_k3, own_k4, own_k7, own_k8, own_k63, own_k127, own_k128, own_k143, own_k144, own_k159, own_k160, own_k191, own_k192, own_k194, own_k223, own_k224, own_k237, own_k239, own_k240, own_k244, own_k248, own_k255, own_k2048, own_k55296, own_k57343, own_k65536, own_k1114111, a1, a2, a3, a4, d2, d3] at c1 c33 c39; simp only [a1, a2, a3, a4, d2, d3]; omega))) rfl ?_
                            refine Go.sipush 209 (255) d2_206 (by decide) rfl ?_
                            refine Go.iand 210 d2_209 rfl ?_
                            refine Go.istore 212 #[.val (.ref a), .val (.int f), .val (.int t), .val (.int p), .val (.int ((xs.getD (Int32.toNatClampNeg p) 0) &&& (255 : Int32))), .val (.int (3 : Int32)), .val (.int (128 : Int32)), .val (.int (143 : Int32)), .val (.int ((1 : Int32) + (1 : Int32))), .val (.int ((xs.getD (Int32.toNatClampNeg (p + (2 : Int32))) 0) &&& (255 : Int32)))] d2_210 rfl rfl ?_
                            refine Go.iload 214 d2_212 rfl rfl ?_
                            refine Go.iload 216 d2_214 rfl rfl ?_
                            refine Go.iconst 217 (1) d2_216 (by decide) rfl ?_
                            refine Go.icmp_ne 225 220 d2_217 (by decide) (by decide) rfl (fun _ => ?_) (fun c => absurd c (by decide))
                            refine Go.sipush 228 (128) d2_225 (by decide) rfl ?_
                            refine Go.icmp_lt 250 231 d2_228 (by decide) (by decide) rfl (fun c41 => ?_) (fun c41 => ?_)
                            ·
                              refine Go.iload_n 251 d2_250 rfl rfl ?_
                              refine Go.ireturn d2_251 rfl (by decide) (by decide) ?_
                              have hlt := c1
                              simp only [own_byE] at c2 c3 c6 c8 c10 c11 c12 c35 c37 c41
                              simp only [own_lt32, own_eq32, own_k0, own_k1, own_k2, own_k3, own_k4, own_k7, own_k8, own_k63, own_k127, own_k128, own_k143, own_k144, own_k159, own_k160, own_k191, own_k192, own_k194, own_k223, own_k224, own_k237, own_k239, own_k240, own_k244, own_k248, own_k255, own_k2048, own_k55296, own_k57343, own_k65536, own_k1114111, a1, a2, a3, a4, d2, d3] at c1 c2 c3 c6 c8 c10 c11 c12 c33 c35 c37 c39 c41
                              have hnx : own_nx xs p t = (p ^^^ -1) := by
                                unfold own_nx
                                rw [if_neg (by omega), if_neg (by omega), if_neg (by omega), if_neg (by omega)]
                              exact ⟨own_badr hnx (own_ixn hp0) hlt, rfl⟩
                            ·
                              refine Go.iload 233 d2_231 rfl rfl ?_
                              refine Go.iload 235 d2_233 rfl rfl ?_
                              refine Go.iconst 236 (1) d2_235 (by decide) rfl ?_
                              refine Go.icmp_ne 244 239 d2_236 (by decide) (by decide) rfl (fun _ => ?_) (fun c => absurd c (by decide))
                              refine Go.sipush 247 (191) d2_244 (by decide) rfl ?_
                              refine Go.icmp_le 252 250 d2_247 (by decide) (by decide) rfl (fun c43 => ?_) (fun c43 => ?_)
                              ·
                                refine Go.iinc 255 (1) #[.val (.ref a), .val (.int f), .val (.int t), .val (.int p), .val (.int ((xs.getD (Int32.toNatClampNeg p) 0) &&& (255 : Int32))), .val (.int (3 : Int32)), .val (.int (128 : Int32)), .val (.int (143 : Int32)), .val (.int (((1 : Int32) + (1 : Int32)) + (1 : Int32))), .val (.int ((xs.getD (Int32.toNatClampNeg (p + (2 : Int32))) 0) &&& (255 : Int32)))] d2_252 (by decide) rfl rfl rfl ?_
                                refine Go.goto 183 d2_255 (by decide) (by decide) ?_
                                refine Go.iload 185 d2_183 rfl rfl ?_
                                refine Go.iload 187 d2_185 rfl rfl ?_
                                refine Go.icmp_gt 258 190 d2_187 (by decide) (by decide) rfl (fun c => absurd c (by decide)) (fun _ => ?_)
                                refine Go.iload_n 191 d2_190 rfl rfl ?_
                                refine Go.iload 193 d2_191 rfl rfl ?_
                                refine Go.iadd 194 d2_193 rfl ?_
                                refine Go.iload_n 195 d2_194 rfl rfl ?_
                                refine Go.icmp_lt 200 198 d2_195 (by decide) (by decide) rfl (fun c45 => ?_) (fun c45 => ?_)
                                ·
                                  refine Go.aload_n 201 d2_200 rfl rfl rfl ?_
                                  refine Go.iload_n 202 d2_201 rfl rfl ?_
                                  refine Go.iload 204 d2_202 rfl rfl ?_
                                  refine Go.iadd 205 d2_204 rfl ?_
                                  refine Go.baload (x := (xs.getD (Int32.toNatClampNeg (p + (3 : Int32))) 0)) ((Int32.toNatClampNeg (p + (3 : Int32)))) 206 d2_205 fa0 (own_ixn (by simp only [own_lt32, own_k0, own_k1, own_k2, own_k3, own_k4, own_k7, own_k8, own_k63, own_k127, own_k128, own_k143, own_k144, own_k159, own_k160, own_k191, own_k192, own_k194, own_k223, own_k224, own_k237, own_k239, own_k240, own_k244, own_k248, own_k255, own_k2048, own_k55296, own_k57343, own_k65536, own_k1114111, a1, a2, a3, a4, d2, d3] at c1 c33 c39 c45; simp only [a1, a2, a3, a4, d2, d3]; omega)) (congrArg (fun k => Int32.toNatClampNeg (p + k)) (by decide : (((1 : Int32) + (1 : Int32)) + (1 : Int32)) = (3 : Int32))) (own_getq (own_ixl hl (by simp only [own_lt32, own_k0, own_k1, own_k2, own_k3, own_k4, own_k7, own_k8, own_k63, own_k127, own_k128, own_k143, own_k144, own_k159, own_k160, own_k191, own_k192, own_k194, own_k223, own_k224, own_k237, own_k239, own_k240, own_k244, own_k248, own_k255, own_k2048, own_k55296, own_k57343, own_k65536, own_k1114111, a1, a2, a3, a4, d2, d3] at c1 c33 c39 c45; simp only [a1, a2, a3, a4, d2, d3]; omega) (by simp only [own_lt32, own_k0, own_k1, own_k2, own_k3, own_k4, own_k7, own_k8, own_k63, own_k127, own_k128, own_k143, own_k144, own_k159, own_k160, own_k191, own_k192, own_k194, own_k223, own_k224, own_k237, own_k239, own_k240, own_k244, own_k248, own_k255, own_k2048, own_k55296, own_k57343, own_k65536, own_k1114111, a1, a2, a3, a4, d2, d3] at c1 c33 c39 c45; simp only [a1, a2, a3, a4, d2, d3]; omega))) rfl ?_
                                  refine Go.sipush 209 (255) d2_206 (by decide) rfl ?_
                                  refine Go.iand 210 d2_209 rfl ?_
                                  refine Go.istore 212 #[.val (.ref a), .val (.int f), .val (.int t), .val (.int p), .val (.int ((xs.getD (Int32.toNatClampNeg p) 0) &&& (255 : Int32))), .val (.int (3 : Int32)), .val (.int (128 : Int32)), .val (.int (143 : Int32)), .val (.int (((1 : Int32) + (1 : Int32)) + (1 : Int32))), .val (.int ((xs.getD (Int32.toNatClampNeg (p + (3 : Int32))) 0) &&& (255 : Int32)))] d2_210 rfl rfl ?_
                                  refine Go.iload 214 d2_212 rfl rfl ?_
                                  refine Go.iload 216 d2_214 rfl rfl ?_
                                  refine Go.iconst 217 (1) d2_216 (by decide) rfl ?_
                                  refine Go.icmp_ne 225 220 d2_217 (by decide) (by decide) rfl (fun _ => ?_) (fun c => absurd c (by decide))
                                  refine Go.sipush 228 (128) d2_225 (by decide) rfl ?_
                                  refine Go.icmp_lt 250 231 d2_228 (by decide) (by decide) rfl (fun c47 => ?_) (fun c47 => ?_)
                                  ·
                                    refine Go.iload_n 251 d2_250 rfl rfl ?_
                                    refine Go.ireturn d2_251 rfl (by decide) (by decide) ?_
                                    have hlt := c1
                                    simp only [own_byE] at c2 c3 c6 c8 c10 c11 c12 c35 c37 c41 c43 c47
                                    simp only [own_lt32, own_eq32, own_k0, own_k1, own_k2, own_k3, own_k4, own_k7, own_k8, own_k63, own_k127, own_k128, own_k143, own_k144, own_k159, own_k160, own_k191, own_k192, own_k194, own_k223, own_k224, own_k237, own_k239, own_k240, own_k244, own_k248, own_k255, own_k2048, own_k55296, own_k57343, own_k65536, own_k1114111, a1, a2, a3, a4, d2, d3] at c1 c2 c3 c6 c8 c10 c11 c12 c33 c35 c37 c39 c41 c43 c45 c47
                                    have hnx : own_nx xs p t = (p ^^^ -1) := by
                                      unfold own_nx
                                      rw [if_neg (by omega), if_neg (by omega), if_neg (by omega), if_neg (by omega)]
                                    exact ⟨own_badr hnx (own_ixn hp0) hlt, rfl⟩
                                  ·
                                    refine Go.iload 233 d2_231 rfl rfl ?_
                                    refine Go.iload 235 d2_233 rfl rfl ?_
                                    refine Go.iconst 236 (1) d2_235 (by decide) rfl ?_
                                    refine Go.icmp_ne 244 239 d2_236 (by decide) (by decide) rfl (fun _ => ?_) (fun c => absurd c (by decide))
                                    refine Go.sipush 247 (191) d2_244 (by decide) rfl ?_
                                    refine Go.icmp_le 252 250 d2_247 (by decide) (by decide) rfl (fun c49 => ?_) (fun c49 => ?_)
                                    ·
                                      refine Go.iinc 255 (1) #[.val (.ref a), .val (.int f), .val (.int t), .val (.int p), .val (.int ((xs.getD (Int32.toNatClampNeg p) 0) &&& (255 : Int32))), .val (.int (3 : Int32)), .val (.int (128 : Int32)), .val (.int (143 : Int32)), .val (.int ((((1 : Int32) + (1 : Int32)) + (1 : Int32)) + (1 : Int32))), .val (.int ((xs.getD (Int32.toNatClampNeg (p + (3 : Int32))) 0) &&& (255 : Int32)))] d2_252 (by decide) rfl rfl rfl ?_
                                      refine Go.goto 183 d2_255 (by decide) (by decide) ?_
                                      refine Go.iload 185 d2_183 rfl rfl ?_
                                      refine Go.iload 187 d2_185 rfl rfl ?_
                                      refine Go.icmp_gt 258 190 d2_187 (by decide) (by decide) rfl (fun _ => ?_) (fun c => absurd c (by decide))
                                      refine Go.iload_n 259 d2_258 rfl rfl ?_
                                      refine Go.iload 261 d2_259 rfl rfl ?_
                                      refine Go.iconst 262 (1) d2_261 (by decide) rfl ?_
                                      refine Go.iadd 263 d2_262 rfl ?_
                                      refine Go.iadd 264 d2_263 rfl ?_
                                      refine Go.istore_n 265 #[.val (.ref a), .val (.int f), .val (.int t), .val (.int (p + ((3 : Int32) + (1 : Int32)))), .val (.int ((xs.getD (Int32.toNatClampNeg p) 0) &&& (255 : Int32))), .val (.int (3 : Int32)), .val (.int (128 : Int32)), .val (.int (143 : Int32)), .val (.int ((((1 : Int32) + (1 : Int32)) + (1 : Int32)) + (1 : Int32))), .val (.int ((xs.getD (Int32.toNatClampNeg (p + (3 : Int32))) 0) &&& (255 : Int32)))] d2_264 rfl rfl ?_
                                      refine Go.goto 2 d2_265 (by decide) (by decide) ?_
                                      have hlt := c1
                                      simp only [own_byE] at c2 c3 c6 c8 c10 c11 c12 c35 c37 c41 c43 c47 c49
                                      simp only [own_lt32, own_eq32, own_k0, own_k1, own_k2, own_k3, own_k4, own_k7, own_k8, own_k63, own_k127, own_k128, own_k143, own_k144, own_k159, own_k160, own_k191, own_k192, own_k194, own_k223, own_k224, own_k237, own_k239, own_k240, own_k244, own_k248, own_k255, own_k2048, own_k55296, own_k57343, own_k65536, own_k1114111, a1, a2, a3, a4, d2, d3] at c1 c2 c3 c6 c8 c10 c11 c12 c33 c35 c37 c39 c41 c43 c45 c47 c49
                                      have hnx : own_nx xs p t = p + 4 := by
                                        unfold own_nx
                                        rw [if_neg (by omega), if_neg (by omega), if_neg (by omega), if_pos (by omega)]
                                      have ei : (p + ((3 : Int32) + (1 : Int32))) = p + 4 := congrArg (fun k => p + k) (by decide)
                                      rw [ei]
                                      have e9 : own_it xs t (n + 1) p = own_it xs t n (p + 4) := by rw [own_it_step (own_ixn hp0) hlt, hnx]
                                      rw [e9]
                                      exact (ih (p + 4) (by omega) (by omega) (by omega) (.val (.int ((xs.getD (Int32.toNatClampNeg p) 0) &&& (255 : Int32)))) (.val (.int (3 : Int32))) (.val (.int (128 : Int32))) (.val (.int (143 : Int32))) (.val (.int ((((1 : Int32) + (1 : Int32)) + (1 : Int32)) + (1 : Int32)))) (.val (.int ((xs.getD (Int32.toNatClampNeg (p + (3 : Int32))) 0) &&& (255 : Int32)))) (Or.inr ⟨_, rfl, rfl⟩) (Or.inr ⟨_, rfl, rfl⟩) (Or.inr ⟨_, rfl, rfl⟩) (Or.inr ⟨_, rfl, rfl⟩) (Or.inr ⟨_, rfl, rfl⟩) (Or.inr ⟨_, rfl, rfl⟩)).le (by decide) (by decide)
                                    ·
                                      refine Go.iload_n 251 d2_250 rfl rfl ?_
                                      refine Go.ireturn d2_251 rfl (by decide) (by decide) ?_
                                      have hlt := c1
                                      simp only [own_byE] at c2 c3 c6 c8 c10 c11 c12 c35 c37 c41 c43 c47 c49
                                      simp only [own_lt32, own_eq32, own_k0, own_k1, own_k2, own_k3, own_k4, own_k7, own_k8, own_k63, own_k127, own_k128, own_k143, own_k144, own_k159, own_k160, own_k191, own_k192, own_k194, own_k223, own_k224, own_k237, own_k239, own_k240, own_k244, own_k248, own_k255, own_k2048, own_k55296, own_k57343, own_k65536, own_k1114111, a1, a2, a3, a4, d2, d3] at c1 c2 c3 c6 c8 c10 c11 c12 c33 c35 c37 c39 c41 c43 c45 c47 c49
                                      have hnx : own_nx xs p t = (p ^^^ -1) := by
                                        unfold own_nx
                                        rw [if_neg (by omega), if_neg (by omega), if_neg (by omega), if_neg (by omega)]
                                      exact ⟨own_badr hnx (own_ixn hp0) hlt, rfl⟩
                                ·
                                  refine Go.iload_n 199 d2_198 rfl rfl ?_
                                  refine Go.ireturn d2_199 rfl (by decide) (by decide) ?_
                                  have hlt := c1
                                  simp only [own_byE] at c2 c3 c6 c8 c10 c11 c12 c35 c37 c41 c43
                                  simp only [own_lt32, own_eq32, own_k0, own_k1, own_k2, own_k3, own_k4, own_k7, own_k8, own_k63, own_k127, own_k128, own_k143, own_k144, own_k159, own_k160, own_k191, own_k192, own_k194, own_k223, own_k224, own_k237, own_k239, own_k240, own_k244, own_k248, own_k255, own_k2048, own_k55296, own_k57343, own_k65536, own_k1114111, a1, a2, a3, a4, d2, d3] at c1 c2 c3 c6 c8 c10 c11 c12 c33 c35 c37 c39 c41 c43 c45
                                  have hnx : own_nx xs p t = (p ^^^ -1) := by
                                    unfold own_nx
                                    rw [if_neg (by omega), if_neg (by omega), if_neg (by omega), if_neg (by omega)]
                                  exact ⟨own_badr hnx (own_ixn hp0) hlt, rfl⟩
                              ·
                                refine Go.iload_n 251 d2_250 rfl rfl ?_
                                refine Go.ireturn d2_251 rfl (by decide) (by decide) ?_
                                have hlt := c1
                                simp only [own_byE] at c2 c3 c6 c8 c10 c11 c12 c35 c37 c41 c43
                                simp only [own_lt32, own_eq32, own_k0, own_k1, own_k2, own_k3, own_k4, own_k7, own_k8, own_k63, own_k127, own_k128, own_k143, own_k144, own_k159, own_k160, own_k191, own_k192, own_k194, own_k223, own_k224, own_k237, own_k239, own_k240, own_k244, own_k248, own_k255, own_k2048, own_k55296, own_k57343, own_k65536, own_k1114111, a1, a2, a3, a4, d2, d3] at c1 c2 c3 c6 c8 c10 c11 c12 c33 c35 c37 c39 c41 c43
                                have hnx : own_nx xs p t = (p ^^^ -1) := by
                                  unfold own_nx
                                  rw [if_neg (by omega), if_neg (by omega), if_neg (by omega), if_neg (by omega)]
                                exact ⟨own_badr hnx (own_ixn hp0) hlt, rfl⟩
                          ·
                            refine Go.iload_n 199 d2_198 rfl rfl ?_
                            refine Go.ireturn d2_199 rfl (by decide) (by decide) ?_
                            have hlt := c1
                            simp only [own_byE] at c2 c3 c6 c8 c10 c11 c12 c35 c37
                            simp only [own_lt32, own_eq32, own_k0, own_k1, own_k2, own_k3, own_k4, own_k7, own_k8, own_k63, own_k127, own_k128, own_k143, own_k144, own_k159, own_k160, own_k191, own_k192, own_k194, own_k223, own_k224, own_k237, own_k239, own_k240, own_k244, own_k248, own_k255, own_k2048, own_k55296, own_k57343, own_k65536, own_k1114111, a1, a2, a3, a4, d2, d3] at c1 c2 c3 c6 c8 c10 c11 c12 c33 c35 c37 c39
                            have hnx : own_nx xs p t = (p ^^^ -1) := by
                              unfold own_nx
                              rw [if_neg (by omega), if_neg (by omega), if_neg (by omega), if_neg (by omega)]
                            exact ⟨own_badr hnx (own_ixn hp0) hlt, rfl⟩
                        ·
                          refine Go.iload_n 251 d2_250 rfl rfl ?_
                          refine Go.ireturn d2_251 rfl (by decide) (by decide) ?_
                          have hlt := c1
                          simp only [own_byE] at c2 c3 c6 c8 c10 c11 c12 c35 c37
                          simp only [own_lt32, own_eq32, own_k0, own_k1, own_k2, own_k3, own_k4, own_k7, own_k8, own_k63, own_k127, own_k128, own_k143, own_k144, own_k159, own_k160, own_k191, own_k192, own_k194, own_k223, own_k224, own_k237, own_k239, own_k240, own_k244, own_k248, own_k255, own_k2048, own_k55296, own_k57343, own_k65536, own_k1114111, a1, a2, a3, a4, d2, d3] at c1 c2 c3 c6 c8 c10 c11 c12 c33 c35 c37
                          have hnx : own_nx xs p t = (p ^^^ -1) := by
                            unfold own_nx
                            rw [if_neg (by omega), if_neg (by omega), if_neg (by omega), if_neg (by omega)]
                          exact ⟨own_badr hnx (own_ixn hp0) hlt, rfl⟩
                    ·
                      refine Go.iload_n 199 d2_198 rfl rfl ?_
                      refine Go.ireturn d2_199 rfl (by decide) (by decide) ?_
                      have hlt := c1
                      simp only [own_byE] at c2 c3 c6 c8 c10 c11 c12
                      simp only [own_lt32, own_eq32, own_k0, own_k1, own_k2, own_k3, own_k4, own_k7, own_k8, own_k63, own_k127, own_k128, own_k143, own_k144, own_k159, own_k160, own_k191, own_k192, own_k194, own_k223, own_k224, own_k237, own_k239, own_k240, own_k244, own_k248, own_k255, own_k2048, own_k55296, own_k57343, own_k65536, own_k1114111, a1, a2, a3, a4, d2, d3] at c1 c2 c3 c6 c8 c10 c11 c12 c33
                      have hnx : own_nx xs p t = (p ^^^ -1) := by
                        unfold own_nx
                        rw [if_neg (by omega), if_neg (by omega), if_neg (by omega), if_neg (by omega)]
                      exact ⟨own_badr hnx (own_ixn hp0) hlt, rfl⟩
                ·
                  refine Go.sipush 150 (144) d2_147 (by decide) rfl ?_
                  refine Go.goto 155 d2_150 (by decide) (by decide) ?_
                  refine Go.istore 157 #[.val (.ref a), .val (.int f), .val (.int t), .val (.int p), .val (.int ((xs.getD (Int32.toNatClampNeg p) 0) &&& (255 : Int32))), .val (.int (3 : Int32)), .val (.int (144 : Int32)), .val (.int (191 : Int32)), u8, u9] d2_155 rfl rfl ?_
                  refine Go.iload 159 d2_157 rfl rfl ?_
                  refine Go.sipush 162 (244) d2_159 (by decide) rfl ?_
                  refine Go.icmp_ne 171 165 d2_162 (by decide) (by decide) rfl (fun _ => ?_) (fun c => by exfalso; simp only [own_lt32, own_eq32, own_k0, own_k1, own_k2, own_k3, own_k4, own_k7, own_k8, own_k63, own_k127, own_k128, own_k143, own_k144, own_k159, own_k160, own_k191, own_k192, own_k194, own_k223, own_k224, own_k237, own_k239, own_k240, own_k244, own_k248, own_k255, own_k2048, own_k55296, own_k57343, own_k65536, own_k1114111] at c c2 c3 c6 c8 c10 c11; omega)
                  refine Go.iload 173 d2_171 rfl rfl ?_
                  refine Go.istore 175 #[.val (.ref a), .val (.int f), .val (.int t), .val (.int p), .val (.int ((xs.getD (Int32.toNatClampNeg p) 0) &&& (255 : Int32))), .val (.int (3 : Int32)), .val (.int (144 : Int32)), .val (.int (191 : Int32)), u8, u9] d2_173 rfl rfl ?_
                  refine Go.goto 180 d2_175 (by decide) (by decide) ?_
                  refine Go.iconst 181 (1) d2_180 (by decide) rfl ?_
                  refine Go.istoreS 183 #[.val (.ref a), .val (.int f), .val (.int t), .val (.int p), .val (.int ((xs.getD (Int32.toNatClampNeg p) 0) &&& (255 : Int32))), .val (.int (3 : Int32)), .val (.int (144 : Int32)), .val (.int (191 : Int32)), .val (.int (1 : Int32)), u9] d2_181 rfl hu8 rfl rfl ?_
                  refine Go.iload 185 d2_183 rfl rfl ?_
                  refine Go.iload 187 d2_185 rfl rfl ?_
                  refine Go.icmp_gt 258 190 d2_187 (by decide) (by decide) rfl (fun c => absurd c (by decide)) (fun _ => ?_)
                  refine Go.iload_n 191 d2_190 rfl rfl ?_
                  refine Go.iload 193 d2_191 rfl rfl ?_
                  refine Go.iadd 194 d2_193 rfl ?_
                  refine Go.iload_n 195 d2_194 rfl rfl ?_
                  refine Go.icmp_lt 200 198 d2_195 (by decide) (by decide) rfl (fun c53 => ?_) (fun c53 => ?_)
                  ·
                    refine Go.aload_n 201 d2_200 rfl rfl rfl ?_
                    refine Go.iload_n 202 d2_201 rfl rfl ?_
                    refine Go.iload 204 d2_202 rfl rfl ?_
                    refine Go.iadd 205 d2_204 rfl ?_
                    refine Go.baload (x := (xs.getD (Int32.toNatClampNeg (p + (1 : Int32))) 0)) ((Int32.toNatClampNeg (p + (1 : Int32)))) 206 d2_205 fa0 (own_ixn (by simp only [own_lt32, own_k0, own_k1, own_k2, own_k3, own_k4, own_k7, own_k8, own_k63, own_k127, own_k128, own_k143, own_k144, own_k159, own_k160, own_k191, own_k192, own_k194, own_k223, own_k224, own_k237, own_k239, own_k240, own_k244, own_k248, own_k255, own_k2048, own_k55296, own_k57343, own_k65536, own_k1114111, a1, a2, a3, a4, d2, d3] at c1 c53; simp only [a1, a2, a3, a4, d2, d3]; omega)) rfl (own_getq (own_ixl hl (by simp only [own_lt32, own_k0, own_k1, own_k2, own_k3, own_k4, own_k7, own_k8, own_k63, own_k127, own_k128, own_k143, own_k144, own_k159, own_k160, own_k191, own_k192, own_k194, own_k223, own_k224, own_k237, own_k239, own_k240, own_k244, own_k248, own_k255, own_k2048, own_k55296, own_k57343, own_k65536, own_k1114111, a1, a2, a3, a4, d2, d3] at c1 c53; simp only [a1, a2, a3, a4, d2, d3]; omega) (by simp only [own_lt32, own_k0, own_k1, own_k2, own_k3, own_k4, own_k7, own_k8, own_k63, own_k127, own_k128, own_k143, own_k144, own_k159, own_k160, own_k191, own_k192, own_k194, own_k223, own_k224, own_k237, own_k239, own_k240, own_k244, own_k248, own_k255, own_k2048, own_k55296, own_k57343, own_k65536, own_k1114111, a1, a2, a3, a4, d2, d3] at c1 c53; simp only [a1, a2, a3, a4, d2, d3]; omega))) rfl ?_
                    refine Go.sipush 209 (255) d2_206 (by decide) rfl ?_
                    refine Go.iand 210 d2_209 rfl ?_
                    refine Go.istoreS 212 #[.val (.ref a), .val (.int f), .val (.int t), .val (.int p), .val (.int ((xs.getD (Int32.toNatClampNeg p) 0) &&& (255 : Int32))), .val (.int (3 : Int32)), .val (.int (144 : Int32)), .val (.int (191 : Int32)), .val (.int (1 : Int32)), .val (.int ((xs.getD (Int32.toNatClampNeg (p + (1 : Int32))) 0) &&& (255 : Int32)))] d2_210 rfl hu9 rfl rfl ?_
                    refine Go.iload 214 d2_212 rfl rfl ?_
                    refine Go.iload 216 d2_214 rfl rfl ?_
                    refine Go.iconst 217 (1) d2_216 (by decide) rfl ?_
                    refine Go.icmp_ne 225 220 d2_217 (by decide) (by decide) rfl (fun c => absurd c (by decide)) (fun _ => ?_)
                    refine Go.iload 222 d2_220 rfl rfl ?_
                    refine Go.goto 228 d2_222 (by decide) (by decide) ?_
                    refine Go.icmp_lt 250 231 d2_228 (by decide) (by decide) rfl (fun c55 => ?_) (fun c55 => ?_)
                    ·
                      refine Go.iload_n 251 d2_250 rfl rfl ?_
                      refine Go.ireturn d2_251 rfl (by decide) (by decide) ?_
                      have hlt := c1
                      simp only [own_byE] at c2 c3 c6 c8 c10 c11 c55
                      simp only [own_lt32, own_eq32, own_k0, own_k1, own_k2, own_k3, own_k4, own_k7, own_k8, own_k63, own_k127, own_k128, own_k143, own_k144, own_k159, own_k160, own_k191, own_k192, own_k194, own_k223, own_k224, own_k237, own_k239, own_k240, own_k244, own_k248, own_k255, own_k2048, own_k55296, own_k57343, own_k65536, own_k1114111, a1, a2, a3, a4, d2, d3] at c1 c2 c3 c6 c8 c10 c11 c53 c55
                      have hnx : own_nx xs p t = (p ^^^ -1) := by
                        unfold own_nx
                        rw [if_neg (by omega), if_neg (by omega), if_neg (by omega), if_neg (by omega)]
                      exact ⟨own_badr hnx (own_ixn hp0) hlt, rfl⟩
                    ·
                      refine Go.iload 233 d2_231 rfl rfl ?_
                      refine Go.iload 235 d2_233 rfl rfl ?_
                      refine Go.iconst 236 (1) d2_235 (by decide) rfl ?_
                      refine Go.icmp_ne 244 239 d2_236 (by decide) (by decide) rfl (fun c => absurd c (by decide)) (fun _ => ?_)
                      refine Go.iload 241 d2_239 rfl rfl ?_
                      refine Go.goto 247 d2_241 (by decide) (by decide) ?_
                      refine Go.icmp_le 252 250 d2_247 (by decide) (by decide) rfl (fun c57 => ?_) (fun c57 => ?_)
                      ·
                        refine Go.iinc 255 (1) #[.val (.ref a), .val (.int f), .val (.int t), .val (.int p), .val (.int ((xs.getD (Int32.toNatClampNeg p) 0) &&& (255 : Int32))), .val (.int (3 : Int32)), .val (.int (144 : Int32)), .val (.int (191 : Int32)), .val (.int ((1 : Int32) + (1 : Int32))), .val (.int ((xs.getD (Int32.toNatClampNeg (p + (1 : Int32))) 0) &&& (255 : Int32)))] d2_252 (by decide) rfl rfl rfl ?_
                        refine Go.goto 183 d2_255 (by decide) (by decide) ?_
                        refine Go.iload 185 d2_183 rfl rfl ?_
                        refine Go.iload 187 d2_185 rfl rfl ?_
                        refine Go.icmp_gt 258 190 d2_187 (by decide) (by decide) rfl (fun c => absurd c (by decide)) (fun _ => ?_)
                        refine Go.iload_n 191 d2_190 rfl rfl ?_
                        refine Go.iload 193 d2_191 rfl rfl ?_
                        refine Go.iadd 194 d2_193 rfl ?_
                        refine Go.iload_n 195 d2_194 rfl rfl ?_
                        refine Go.icmp_lt 200 198 d2_195 (by decide) (by decide) rfl (fun c59 => ?_) (fun c59 => ?_)
                        ·
                          refine Go.aload_n 201 d2_200 rfl rfl rfl ?_
                          refine Go.iload_n 202 d2_201 rfl rfl ?_
                          refine Go.iload 204 d2_202 rfl rfl ?_
                          refine Go.iadd 205 d2_204 rfl ?_
                          refine Go.baload (x := (xs.getD (Int32.toNatClampNeg (p + (2 : Int32))) 0)) ((Int32.toNatClampNeg (p + (2 : Int32)))) 206 d2_205 fa0 (own_ixn (by simp only [own_lt32, own_k0, own_k1, own_k2, own_k3, own_k4, own_k7, own_k8, own_k63, own_k127, own_k128, own_k143, own_k144, own_k159, own_k160, own_k191, own_k192, own_k194, own_k223, own_k224, own_k237, own_k239, own_k240, own_k244, own_k248, own_k255, own_k2048, own_k55296, own_k57343, own_k65536, own_k1114111, a1, a2, a3, a4, d2, d3] at c1 c53 c59; simp only [a1, a2, a3, a4, d2, d3]; omega)) (congrArg (fun k => Int32.toNatClampNeg (p + k)) (by decide : ((1 : Int32) + (1 : Int32)) = (2 : Int32))) (own_getq (own_ixl hl (by simp only [own_lt32, own_k0, own_k1, own_k2, own_k3, own_k4, own_k7, own_k8, own_k63, own_k127, own_k128, own_k143, own_k144, own_k159, own_k160, own_k191, own_k192, own_k194, own_k223, own_k224, own_k237, own_k239, own_k240, own_k244, own_k248, own_k255, own_k2048, own_k55296, own_k57343, own_k65536, own_k1114111, a1, a2, a3, a4, d2, d3] at c1 c53 c59; simp only [a1, a2, a3, a4, d2, d3]; omega) (by simp only [own_lt32, own_k0, own_k1, own_k2, own_k3, own_k4, own_k7, own_k8, own_k63, own_k127, own_k128, own_k143, own_k144, own_k159, own_k160, own_k191, own_k192, own_k194, own_k223, own_k224, own_k237, own_k239, own_k240, own_k244, own_k248, own_k255, own_k2048, own_k55296, own_k57343, own_k65536, own_k1114111, a1, a2, a3, a4, d2, d3] at c1 c53 c59; simp only [a1, a2, a3, a4, d2, d3]; omega))) rfl ?_
                          refine Go.sipush 209 (255) d2_206 (by decide) rfl ?_
                          refine Go.iand 210 d2_209 rfl ?_
                          refine Go.istore 212 #[.val (.ref a), .val (.int f), .val (.int t), .val (.int p), .val (.int ((xs.getD (Int32.toNatClampNeg p) 0) &&& (255 : Int32))), .val (.int (3 : Int32)), .val (.int (144 : Int32)), .val (.int (191 : Int32)), .val (.int ((1 : Int32) + (1 : Int32))), .val (.int ((xs.getD (Int32.toNatClampNeg (p + (2 : Int32))) 0) &&& (255 : Int32)))] d2_210 rfl rfl ?_
                          refine Go.iload 214 d2_212 rfl rfl ?_
                          refine Go.iload 216 d2_214 rfl rfl ?_
                          refine Go.iconst 217 (1) d2_216 (by decide) rfl ?_
                          refine Go.icmp_ne 225 220 d2_217 (by decide) (by decide) rfl (fun _ => ?_) (fun c => absurd c (by decide))
                          refine Go.sipush 228 (128) d2_225 (by decide) rfl ?_
                          refine Go.icmp_lt 250 231 d2_228 (by decide) (by decide) rfl (fun c61 => ?_) (fun c61 => ?_)
                          ·
                            refine Go.iload_n 251 d2_250 rfl rfl ?_
                            refine Go.ireturn d2_251 rfl (by decide) (by decide) ?_
                            have hlt := c1
                            simp only [own_byE] at c2 c3 c6 c8 c10 c11 c55 c57 c61
                            simp only [own_lt32, own_eq32, own_k0, own_k1, own_k2, own_k3, own_k4, own_k7, own_k8, own_k63, own_k127, own_k128, own_k143, own_k144, own_k159, own_k160, own_k191, own_k192, own_k194, own_k223, own_k224, own_k237, own_k239, own_k240, own_k244, own_k248, own_k255, own_k2048, own_k55296, own_k57343, own_k65536, own_k1114111, a1, a2, a3, a4, d2, d3] at c1 c2 c3 c6 c8 c10 c11 c53 c55 c57 c59 c61
                            have hnx : own_nx xs p t = (p ^^^ -1) := by
                              unfold own_nx
                              rw [if_neg (by omega), if_neg (by omega), if_neg (by omega), if_neg (by omega)]
                            exact ⟨own_badr hnx (own_ixn hp0) hlt, rfl⟩
                          ·
                            refine Go.iload 233 d2_231 rfl rfl ?_
                            refine Go.iload 235 d2_233 rfl rfl ?_
                            refine Go.iconst 236 (1) d2_235 (by decide) rfl ?_
                            refine Go.icmp_ne 244 239 d2_236 (by decide) (by decide) rfl (fun _ => ?_) (fun c => absurd c (by decide))
                            refine Go.sipush 247 (191) d2_244 (by decide) rfl ?_
                            refine Go.icmp_le 252 250 d2_247 (by decide) (by decide) rfl (fun c63 => ?_) (fun c63 => ?_)
                            ·
                              refine Go.iinc 255 (1) #[.val (.ref a), .val (.int f), .val (.int t), .val (.int p), .val (.int ((xs.getD (Int32.toNatClampNeg p) 0) &&& (255 : Int32))), .val (.int (3 : Int32)), .val (.int (144 : Int32)), .val (.int (191 : Int32)), .val (.int (((1 : Int32) + (1 : Int32)) + (1 : Int32))), .val (.int ((xs.getD (Int32.toNatClampNeg (p + (2 : Int32))) 0) &&& (255 : Int32)))] d2_252 (by decide) rfl rfl rfl ?_
                              refine Go.goto 183 d2_255 (by decide) (by decide) ?_
                              refine Go.iload 185 d2_183 rfl rfl ?_
                              refine Go.iload 187 d2_185 rfl rfl ?_
                              refine Go.icmp_gt 258 190 d2_187 (by decide) (by decide) rfl (fun c => absurd c (by decide)) (fun _ => ?_)
                              refine Go.iload_n 191 d2_190 rfl rfl ?_
                              refine Go.iload 193 d2_191 rfl rfl ?_
                              refine Go.iadd 194 d2_193 rfl ?_
                              refine Go.iload_n 195 d2_194 rfl rfl ?_
                              refine Go.icmp_lt 200 198 d2_195 (by decide) (by decide) rfl (fun c65 => ?_) (fun c65 => ?_)
                              ·
                                refine Go.aload_n 201 d2_200 rfl rfl rfl ?_
                                refine Go.iload_n 202 d2_201 rfl rfl ?_
                                refine Go.iload 204 d2_202 rfl rfl ?_
                                refine Go.iadd 205 d2_204 rfl ?_
                                refine Go.baload (x := (xs.getD (Int32.toNatClampNeg (p + (3 : Int32))) 0)) ((Int32.toNatClampNeg (p + (3 : Int32)))) 206 d2_205 fa0 (own_ixn (by simp only [own_lt32, own_k0, own_k1, own_k2, own_k3, own_k4, own_k7, own_k8, own_k63, own_k127, own_k128, own_k143, own_k144, own_k159, own_k160, own_k191, own_k192, own_k194, own_k223, own_k224, own_k237, own_k239, own_k240, own_k244, own_k248, own_k255, own_k2048, own_k55296, own_k57343, own_k65536, own_k1114111, a1, a2, a3, a4, d2, d3] at c1 c53 c59 c65; simp only [a1, a2, a3, a4, d2, d3]; omega)) (congrArg (fun k => Int32.toNatClampNeg (p + k)) (by decide : (((1 : Int32) + (1 : Int32)) + (1 : Int32)) = (3 : Int32))) (own_getq (own_ixl hl (by simp only [own_lt32, own_k0, own_k1, own_k2, own_k3, own_k4, own_k7, own_k8, own_k63, own_k127, own_k128, own_k143, own_k144, own_k159, own_k160, own_k191, own_k192, own_k194, own_k223, own_k224, own_k237, own_k239, own_k240, own_k244, own_k248, own_k255, own_k2048, own_k55296, own_k57343, own_k65536, own_k1114111, a1, a2, a3, a4, d2, d3] at c1 c53 c59 c65; simp only [a1, a2, a3, a4, d2, d3]; omega) (by simp only [own_lt32, own_k0, own_k1, own_k2, own_k3, own_k4, own_k7, own_k8, own_k63, own_k127, own_k128, own_k143, own_k144, own_k159, own_k160, own_k191, own_k192, own_k194, own_k223, own_k224, own_k237, own_k239, own_k240, own_k244, own_k248, own_k255, own_k2048, own_k55296, own_k57343, own_k65536, own_k1114111, a1, a2, a3, a4, d2, d3] at c1 c53 c59 c65; simp only [a1, a2, a3, a4, d2, d3]; omega))) rfl ?_
                                refine Go.sipush 209 (255) d2_206 (by decide) rfl ?_
                                refine Go.iand 210 d2_209 rfl ?_
                                refine Go.istore 212 #[.val (.ref a), .val (.int f), .val (.int t), .val (.int p), .val (.int ((xs.getD (Int32.toNatClampNeg p) 0) &&& (255 : Int32))), .val (.int (3 : Int32)), .val (.int (144 : Int32)), .val (.int (191 : Int32)), .val (.int (((1 : Int32) + (1 : Int32)) + (1 : Int32))), .val (.int ((xs.getD (Int32.toNatClampNeg (p + (3 : Int32))) 0) &&& (255 : Int32)))] d2_210 rfl rfl ?_
                                refine Go.iload 214 d2_212 rfl rfl ?_
                                refine Go.iload 216 d2_214 rfl rfl ?_
                                refine Go.iconst 217 (1) d2_216 (by decide) rfl ?_
                                refine Go.icmp_ne 225 220 d2_217 (by decide) (by decide) rfl (fun _ => ?_) (fun c => absurd c (by decide))
                                refine Go.sipush 228 (128) d2_225 (by decide) rfl ?_
                                refine Go.icmp_lt 250 231 d2_228 (by decide) (by decide) rfl (fun c67 => ?_) (fun c67 => ?_)
                                ·
                                  refine Go.iload_n 251 d2_250 rfl rfl ?_
                                  refine Go.ireturn d2_251 rfl (by decide) (by decide) ?_
                                  have hlt := c1
                                  simp only [own_byE] at c2 c3 c6 c8 c10 c11 c55 c57 c61 c63 c67
                                  simp only [own_lt32, own_eq32, own_k0, own_k1, own_k2, own_k3, own_k4, own_k7, own_k8, own_k63, own_k127, own_k128, own_k143, own_k144, own_k159, own_k160, own_k191, own_k192, own_k194, own_k223, own_k224, own_k237, own_k239, own_k240, own_k244, own_k248, own_k255, own_k2048, own_k55296, own_k57343, own_k65536, own_k1114111, a1, a2, a3, a4, d2, d3] at c1 c2 c3 c6 c8 c10 c11 c53 c55 c57 c59 c61 c63 c65 c67
                                  have hnx : own_nx xs p t = (p ^^^ -1) := by
                                    unfold own_nx
                                    rw [if_neg (by omega), if_neg (by omega), if_neg (by omega), if_neg (by omega)]
                                  exact ⟨own_badr hnx (own_ixn hp0) hlt, rfl⟩
                                ·
                                  refine Go.iload 233 d2_231 rfl rfl ?_
                                  refine Go.iload 235 d2_233 rfl rfl ?_
                                  refine Go.iconst 236 (1) d2_235 (by decide) rfl ?_
                                  refine Go.icmp_ne 244 239 d2_236 (by decide) (by decide) rfl (fun _ => ?_) (fun c => absurd c (by decide))
                                  refine Go.sipush 247 (191) d2_244 (by decide) rfl ?_
                                  refine Go.icmp_le 252 250 d2_247 (by decide) (by decide) rfl (fun c69 => ?_) (fun c69 => ?_)
                                  ·
                                    refine Go.iinc 255 (1) #[.val (.ref a), .val (.int f), .val (.int t), .val (.int p), .val (.int ((xs.getD (Int32.toNatClampNeg p) 0) &&& (255 : Int32))), .val (.int (3 : Int32)), .val (.int (144 : Int32)), .val (.int (191 : Int32)), .val (.int ((((1 : Int32) + (1 : Int32)) + (1 : Int32)) + (1 : Int32))), .val (.int ((xs.getD (Int32.toNatClampNeg (p + (3 : Int32))) 0) &&& (255 : Int32)))] d2_252 (by decide) rfl rfl rfl ?_
                                    refine Go.goto 183 d2_255 (by decide) (by decide) ?_
                                    refine Go.iload 185 d2_183 rfl rfl ?_
                                    refine Go.iload 187 d2_185 rfl rfl ?_
                                    refine Go.icmp_gt 258 190 d2_187 (by decide) (by decide) rfl (fun _ => ?_) (fun c => absurd c (by decide))
                                    refine Go.iload_n 259 d2_258 rfl rfl ?_
                                    refine Go.iload 261 d2_259 rfl rfl ?_
                                    refine Go.iconst 262 (1) d2_261 (by decide) rfl ?_
                                    refine Go.iadd 263 d2_262 rfl ?_
                                    refine Go.iadd 264 d2_263 rfl ?_
                                    refine Go.istore_n 265 #[.val (.ref a), .val (.int f), .val (.int t), .val (.int (p + ((3 : Int32) + (1 : Int32)))), .val (.int ((xs.getD (Int32.toNatClampNeg p) 0) &&& (255 : Int32))), .val (.int (3 : Int32)), .val (.int (144 : Int32)), .val (.int (191 : Int32)), .val (.int ((((1 : Int32) + (1 : Int32)) + (1 : Int32)) + (1 : Int32))), .val (.int ((xs.getD (Int32.toNatClampNeg (p + (3 : Int32))) 0) &&& (255 : Int32)))] d2_264 rfl rfl ?_
                                    refine Go.goto 2 d2_265 (by decide) (by decide) ?_
                                    have hlt := c1
                                    simp only [own_byE] at c2 c3 c6 c8 c10 c11 c55 c57 c61 c63 c67 c69
                                    simp only [own_lt32, own_eq32, own_k0, own_k1, own_k2, own_k3, own_k4, own_k7, own_k8, own_k63, own_k127, own_k128, own_k143, own_k144, own_k159, own_k160, own_k191, own_k192, own_k194, own_k223, own_k224, own_k237, own_k239, own_k240, own_k244, own_k248, own_k255, own_k2048, own_k55296, own_k57343, own_k65536, own_k1114111, a1, a2, a3, a4, d2, d3] at c1 c2 c3 c6 c8 c10 c11 c53 c55 c57 c59 c61 c63 c65 c67 c69
                                    have hnx : own_nx xs p t = p + 4 := by
                                      unfold own_nx
                                      rw [if_neg (by omega), if_neg (by omega), if_neg (by omega), if_pos (by omega)]
                                    have ei : (p + ((3 : Int32) + (1 : Int32))) = p + 4 := congrArg (fun k => p + k) (by decide)
                                    rw [ei]
                                    have e9 : own_it xs t (n + 1) p = own_it xs t n (p + 4) := by rw [own_it_step (own_ixn hp0) hlt, hnx]
                                    rw [e9]
                                    exact (ih (p + 4) (by omega) (by omega) (by omega) (.val (.int ((xs.getD (Int32.toNatClampNeg p) 0) &&& (255 : Int32)))) (.val (.int (3 : Int32))) (.val (.int (144 : Int32))) (.val (.int (191 : Int32))) (.val (.int ((((1 : Int32) + (1 : Int32)) + (1 : Int32)) + (1 : Int32)))) (.val (.int ((xs.getD (Int32.toNatClampNeg (p + (3 : Int32))) 0) &&& (255 : Int32)))) (Or.inr ⟨_, rfl, rfl⟩) (Or.inr ⟨_, rfl, rfl⟩) (Or.inr ⟨_, rfl, rfl⟩) (Or.inr ⟨_, rfl, rfl⟩) (Or.inr ⟨_, rfl, rfl⟩) (Or.inr ⟨_, rfl, rfl⟩)).le (by decide) (by decide)
                                  ·
                                    refine Go.iload_n 251 d2_250 rfl rfl ?_
                                    refine Go.ireturn d2_251 rfl (by decide) (by decide) ?_
                                    have hlt := c1
                                    simp only [own_byE] at c2 c3 c6 c8 c10 c11 c55 c57 c61 c63 c67 c69
                                    simp only [own_lt32, own_eq32, own_k0, own_k1, own_k2, own_k3, own_k4, own_k7, own_k8, own_k63, own_k127, own_k128, own_k143, own_k144, own_k159, own_k160, own_k191, own_k192, own_k194, own_k223, own_k224, own_k237, own_k239, own_k240, own_k244, own_k248, own_k255, own_k2048, own_k55296, own_k57343, own_k65536, own_k1114111, a1, a2, a3, a4, d2, d3] at c1 c2 c3 c6 c8 c10 c11 c53 c55 c57 c59 c61 c63 c65 c67 c69
                                    have hnx : own_nx xs p t = (p ^^^ -1) := by
                                      unfold own_nx
                                      rw [if_neg (by omega), if_neg (by omega), if_neg (by omega), if_neg (by omega)]
                                    exact ⟨own_badr hnx (own_ixn hp0) hlt, rfl⟩
                              ·
                                refine Go.iload_n 199 d2_198 rfl rfl ?_
                                refine Go.ireturn d2_199 rfl (by decide) (by decide) ?_
                                have hlt := c1
                                simp only [own_byE] at c2 c3 c6 c8 c10 c11 c55 c57 c61 c63
                                simp only [own_lt32, own_eq32, own_k0, own_k1, own_k2, own_k3, own_k4, own_k7, own_k8, own_k63, own_k127, own_k128, own_k143, own_k144, own_k159, own_k160, own_k191, own_k192, own_k194, own_k223, own_k224, own_k237, own_k239, own_k240, own_k244, own_k248, own_k255, own_k2048, own_k55296, own_k57343, own_k65536, own_k1114111, a1, a2, a3, a4, d2, d3] at c1 c2 c3 c6 c8 c10 c11 c53 c55 c57 c59 c61 c63 c65
                                have hnx : own_nx xs p t = (p ^^^ -1) := by
                                  unfold own_nx
                                  rw [if_neg (by omega), if_neg (by omega), if_neg (by omega), if_neg (by omega)]
                                exact ⟨own_badr hnx (own_ixn hp0) hlt, rfl⟩
                            ·
                              refine Go.iload_n 251 d2_250 rfl rfl ?_
                              refine Go.ireturn d2_251 rfl (by decide) (by decide) ?_
                              have hlt := c1
                              simp only [own_byE] at c2 c3 c6 c8 c10 c11 c55 c57 c61 c63
                              simp only [own_lt32, own_eq32, own_k0, own_k1, own_k2, own_k3, own_k4, own_k7, own_k8, own_k63, own_k127, own_k128, own_k143, own_k144, own_k159, own_k160, own_k191, own_k192, own_k194, own_k223, own_k224, own_k237, own_k239, own_k240, own_k244, own_k248, own_k255, own_k2048, own_k55296, own_k57343, own_k65536, own_k1114111, a1, a2, a3, a4, d2, d3] at c1 c2 c3 c6 c8 c10 c11 c53 c55 c57 c59 c61 c63
                              have hnx : own_nx xs p t = (p ^^^ -1) := by
                                unfold own_nx
                                rw [if_neg (by omega), if_neg (by omega), if_neg (by omega), if_neg (by omega)]
                              exact ⟨own_badr hnx (own_ixn hp0) hlt, rfl⟩
                        ·
                          refine Go.iload_n 199 d2_198 rfl rfl ?_
                          refine Go.ireturn d2_199 rfl (by decide) (by decide) ?_
                          have hlt := c1
                          simp only [own_byE] at c2 c3 c6 c8 c10 c11 c55 c57
                          simp only [own_lt32, own_eq32, own_k0, own_k1, own_k2, own_k3, own_k4, own_k7, own_k8, own_k63, own_k127, own_k128, own_k143, own_k144, own_k159, own_k160, own_k191, own_k192, own_k194, own_k223, own_k224, own_k237, own_k239, own_k240, own_k244, own_k248, own_k255, own_k2048, own_k55296, own_k57343, own_k65536, own_k1114111, a1, a2, a3, a4, d2, d3] at c1 c2 c3 c6 c8 c10 c11 c53 c55 c57 c59
                          have hnx : own_nx xs p t = (p ^^^ -1) := by
                            unfold own_nx
                            rw [if_neg (by omega), if_neg (by omega), if_neg (by omega), if_neg (by omega)]
                          exact ⟨own_badr hnx (own_ixn hp0) hlt, rfl⟩
                      ·
                        refine Go.iload_n 251 d2_250 rfl rfl ?_
                        refine Go.ireturn d2_251 rfl (by decide) (by decide) ?_
                        have hlt := c1
                        simp only [own_byE] at c2 c3 c6 c8 c10 c11 c55 c57
                        simp only [own_lt32, own_eq32, own_k0, own_k1, own_k2, own_k3, own_k4, own_k7, own_k8, own_k63, own_k127, own_k128, own_k143, own_k144, own_k159, own_k160, own_k191, own_k192, own_k194, own_k223, own_k224, own_k237, own_k239, own_k240, own_k244, own_k248, own_k255, own_k2048, own_k55296, own_k57343, own_k65536, own_k1114111, a1, a2, a3, a4, d2, d3] at c1 c2 c3 c6 c8 c10 c11 c53 c55 c57
                        have hnx : own_nx xs p t = (p ^^^ -1) := by
                          unfold own_nx
                          rw [if_neg (by omega), if_neg (by omega), if_neg (by omega), if_neg (by omega)]
                        exact ⟨own_badr hnx (own_ixn hp0) hlt, rfl⟩
                  ·
                    refine Go.iload_n 199 d2_198 rfl rfl ?_
                    refine Go.ireturn d2_199 rfl (by decide) (by decide) ?_
                    have hlt := c1
                    simp only [own_byE] at c2 c3 c6 c8 c10 c11
                    simp only [own_lt32, own_eq32, own_k0, own_k1, own_k2, own_k3, own_k4, own_k7, own_k8, own_k63, own_k127, own_k128, own_k143, own_k144, own_k159, own_k160, own_k191, own_k192, own_k194, own_k223, own_k224, own_k237, own_k239, own_k240, own_k244, own_k248, own_k255, own_k2048, own_k55296, own_k57343, own_k65536, own_k1114111, a1, a2, a3, a4, d2, d3] at c1 c2 c3 c6 c8 c10 c11 c53
                    have hnx : own_nx xs p t = (p ^^^ -1) := by
                      unfold own_nx
                      rw [if_neg (by omega), if_neg (by omega), if_neg (by omega), if_neg (by omega)]
                    exact ⟨own_badr hnx (own_ixn hp0) hlt, rfl⟩
            ·
              refine Go.iconst 79 (2) d2_78 (by decide) rfl ?_
              refine Go.istoreS 81 #[.val (.ref a), .val (.int f), .val (.int t), .val (.int p), .val (.int ((xs.getD (Int32.toNatClampNeg p) 0) &&& (255 : Int32))), .val (.int (2 : Int32)), .val (.int (128 : Int32)), .val (.int (191 : Int32)), u8, u9] d2_79 rfl hu5 rfl rfl ?_
              refine Go.iload 83 d2_81 rfl rfl ?_
              refine Go.sipush 86 (224) d2_83 (by decide) rfl ?_
              refine Go.icmp_ne 95 89 d2_86 (by decide) (by decide) rfl (fun c71 => ?_) (fun c71 => ?_)
              ·
                refine Go.iload 97 d2_95 rfl rfl ?_
                refine Go.istore 99 #[.val (.ref a), .val (.int f), .val (.int t), .val (.int p), .val (.int ((xs.getD (Int32.toNatClampNeg p) 0) &&& (255 : Int32))), .val (.int (2 : Int32)), .val (.int (128 : Int32)), .val (.int (191 : Int32)), u8, u9] d2_97 rfl rfl ?_
                refine Go.iload 101 d2_99 rfl rfl ?_
                refine Go.sipush 104 (237) d2_101 (by decide) rfl ?_
                refine Go.icmp_ne 113 107 d2_104 (by decide) (by decide) rfl (fun c72 => ?_) (fun c72 => ?_)
                ·
                  refine Go.iload 115 d2_113 rfl rfl ?_
                  refine Go.istore 117 #[.val (.ref a), .val (.int f), .val (.int t), .val (.int p), .val (.int ((xs.getD (Int32.toNatClampNeg p) 0) &&& (255 : Int32))), .val (.int (2 : Int32)), .val (.int (128 : Int32)), .val (.int (191 : Int32)), u8, u9] d2_115 rfl rfl ?_
                  refine Go.goto 180 d2_117 (by decide) (by decide) ?_
                  refine Go.iconst 181 (1) d2_180 (by decide) rfl ?_
                  refine Go.istoreS 183 #[.val (.ref a), .val (.int f), .val (.int t), .val (.int p), .val (.int ((xs.getD (Int32.toNatClampNeg p) 0) &&& (255 : Int32))), .val (.int (2 : Int32)), .val (.int (128 : Int32)), .val (.int (191 : Int32)), .val (.int (1 : Int32)), u9] d2_181 rfl hu8 rfl rfl ?_
                  refine Go.iload 185 d2_183 rfl rfl ?_
                  refine Go.iload 187 d2_185 rfl rfl ?_
                  refine Go.icmp_gt 258 190 d2_187 (by decide) (by decide) rfl (fun c => absurd c (by decide)) (fun _ => ?_)
                  refine Go.iload_n 191 d2_190 rfl rfl ?_
                  refine Go.iload 193 d2_191 rfl rfl ?_
                  refine Go.iadd 194 d2_193 rfl ?_
                  refine Go.iload_n 195 d2_194 rfl rfl ?_
                  refine Go.icmp_lt 200 198 d2_195 (by decide) (by decide) rfl (fun c74 => ?_) (fun c74 => ?_)
                  ·
                    refine Go.aload_n 201 d2_200 rfl rfl rfl ?_
                    refine Go.iload_n 202 d2_201 rfl rfl ?_
                    refine Go.iload 204 d2_202 rfl rfl ?_
                    refine Go.iadd 205 d2_204 rfl ?_
                    refine Go.baload (x := (xs.getD (Int32.toNatClampNeg (p + (1 : Int32))) 0)) ((Int32.toNatClampNeg (p + (1 : Int32)))) 206 d2_205 fa0 (own_ixn (by simp only [own_lt32, own_k0, own_k1, own_k2, own_k3, own_k4, own_k7, own_k8, own_k63, own_k127, own_k128, own_k143, own_k144, own_k159, own_k160, own_k191, own_k192, own_k194, own_k223, own_k224, own_k237, own_k239, own_k240, own_k244, own_k248, own_k255, own_k2048, own_k55296, own_k57343, own_k65536, own_k1114111, a1, a2, a3, a4, d2, d3] at c1 c74; simp only [a1, a2, a3, a4, d2, d3]; omega)) rfl (own_getq (own_ixl hl (by simp only [own_lt32, own_k0, own_k1, own_k2, own_k3, own_k4, own_k7, own_k8, own_k63, own_k127, own_k128, own_k143, own_k144, own_k159, own_k160, own_k191, own_k192, own_k194, own_k223, own_k224, own_k237, own_k239, own_k240, own_k244, own_k248, own_k255, own_k2048, own_k55296, own_k57343, own_k65536, own_k1114111, a1, a2, a3, a4, d2, d3] at c1 c74; simp only [a1, a2, a3, a4, d2, d3]; omega) (by simp only [own_lt32, own_k0, own_k1, own_k2, own_k3, own_k4, own_k7, own_k8, own_k63, own_k127, own_k128, own_k143, own_k144, own_k159, own_k160, own_k191, own_k192, own_k194, own_k223, own_k224, own_k237, own_k239, own_k240, own_k244, own_k248, own_k255, own_k2048, own_k55296, own_k57343, own_k65536, own_k1114111, a1, a2, a3, a4, d2, d3] at c1 c74; simp only [a1, a2, a3, a4, d2, d3]; omega))) rfl ?_
                    refine Go.sipush 209 (255) d2_206 (by decide) rfl ?_
                    refine Go.iand 210 d2_209 rfl ?_
                    refine Go.istoreS 212 #[.val (.ref a), .val (.int f), .val (.int t), .val (.int p), .val (.int ((xs.getD (Int32.toNatClampNeg p) 0) &&& (255 : Int32))), .val (.int (2 : Int32)), .val (.int (128 : Int32)), .val (.int (191 : Int32)), .val (.int (1 : Int32)), .val (.int ((xs.getD (Int32.toNatClampNeg (p + (1 : Int32))) 0) &&& (255 : Int32)))] d2_210 rfl hu9 rfl rfl ?_
                    refine Go.iload 214 d2_212 rfl rfl ?_
                    refine Go.iload 216 d2_214 rfl rfl ?_
                    refine Go.iconst 217 (1) d2_216 (by decide) rfl ?_
                    refine Go.icmp_ne 225 220 d2_217 (by decide) (by decide) rfl (fun c => absurd c (by decide)) (fun _ => ?_)
                    refine Go.iload 222 d2_220 rfl rfl ?_
                    refine Go.goto 228 d2_222 (by decide) (by decide) ?_
                    refine Go.icmp_lt 250 231 d2_228 (by decide) (by decide) rfl (fun c76 => ?_) (fun c76 => ?_)
                    ·
                      refine Go.iload_n 251 d2_250 rfl rfl ?_
                      refine Go.ireturn d2_251 rfl (by decide) (by decide) ?_
                      have hlt := c1
                      simp only [own_byE] at c2 c3 c6 c8 c71 c72 c76
                      simp only [own_lt32, own_eq32, own_k0, own_k1, own_k2, own_k3, own_k4, own_k7, own_k8, own_k63, own_k127, own_k128, own_k143, own_k144, own_k159, own_k160, own_k191, own_k192, own_k194, own_k223, own_k224, own_k237, own_k239, own_k240, own_k244, own_k248, own_k255, own_k2048, own_k55296, own_k57343, own_k65536, own_k1114111, a1, a2, a3, a4, d2, d3] at c1 c2 c3 c6 c8 c71 c72 c74 c76
                      have hnx : own_nx xs p t = (p ^^^ -1) := by
                        unfold own_nx
                        rw [if_neg (by omega), if_neg (by omega), if_neg (by omega), if_neg (by omega)]
                      exact ⟨own_badr hnx (own_ixn hp0) hlt, rfl⟩
                    ·
                      refine Go.iload 233 d2_231 rfl rfl ?_
                      refine Go.iload 235 d2_233 rfl rfl ?_
                      refine Go.iconst 236 (1) d2_235 (by decide) rfl ?_
                      refine Go.icmp_ne 244 239 d2_236 (by decide) (by decide) rfl (fun c => absurd c (by decide)) (fun _ => ?_)
                      refine Go.iload 241 d2_239 rfl rfl ?_
                      refine Go.goto 247 d2_241 (by decide) (by decide) ?_
                      refine Go.icmp_le 252 250 d2_247 (by decide) (by decide) rfl (fun c78 => ?_) (fun c78 => ?_)
                      ·
                        refine Go.iinc 255 (1) #[.val (.ref a), .val (.int f), .val (.int t), .val (.int p), .val (.int ((xs.getD (Int32.toNatClampNeg p) 0) &&& (255 : Int32))), .val (.int (2 : Int32)), .val (.int (128 : Int32)), .val (.int (191 : Int32)), .val (.int ((1 : Int32) + (1 : Int32))), .val (.int ((xs.getD (Int32.toNatClampNeg (p + (1 : Int32))) 0) &&& (255 : Int32)))] d2_252 (by decide) rfl rfl rfl ?_
                        refine Go.goto 183 d2_255 (by decide) (by decide) ?_
                        refine Go.iload 185 d2_183 rfl rfl ?_
                        refine Go.iload 187 d2_185 rfl rfl ?_
                        refine Go.icmp_gt 258 190 d2_187 (by decide) (by decide) rfl (fun c => absurd c (by decide)) (fun _ => ?_)
                        refine Go.iload_n 191 d2_190 rfl rfl ?_
                        refine Go.iload 193 d2_191 rfl rfl ?_
                        refine Go.iadd 194 d2_193 rfl ?_
                        refine Go.iload_n 195 d2_194 rfl rfl ?_
                        refine Go.icmp_lt 200 198 d2_195 (by decide) (by decide) rfl (fun c80 => ?_) (fun c80 => ?_)
                        ·
                          refine Go.aload_n 201 d2_200 rfl rfl rfl ?_
                          refine Go.iload_n 202 d2_201 rfl rfl ?_
                          refine Go.iload 204 d2_202 rfl rfl ?_
                          refine Go.iadd 205 d2_204 rfl ?_
                          refine Go.baload (x := (xs.getD (Int32.toNatClampNeg (p + (2 : Int32))) 0)) ((Int32.toNatClampNeg (p + (2 : Int32)))) 206 d2_205 fa0 (own_ixn (by simp only [own_lt32, own_k0, own_k1, own_k2, own_k3, own_k4, own_k7, own_k8, own_k63, own_k127, own_k128, own_k143, own_k144, own_k159, own_k160, own_k191, own_k192, own_k194, own_k223, own_k224, own_k237, own_k239, own_k240, own_k244, own_k248, own_k255, own_k2048, own_k55296, own_k57343, own_k65536, own_k1114111, a1, a2, a3, a4, d2, d3] at c1 c74 c80; simp only [a1, a2, a3, a4, d2, d3]; omega)) (congrArg (fun k => Int32.toNatClampNeg (p + k)) (by decide : ((1 : Int32) + (1 : Int32)) = (2 : Int32))) (own_getq (own_ixl hl (by simp only [own_lt32, own_k0, own_k1, own_k2, own_k3, own_k4, own_k7, own_k8, own_k63, own_k127, own_k128, own_k143, own_k144, own_k159, own_k160, own_k191, own_k192, own_k194, own_k223, own_k224, own_k237, own_k239, own_k240, own_k244, own_k248, own_k255, own_k2048, own_k55296, own_k57343, own_k65536, own_k1114111, a1, a2, a3, a4, d2, d3] at c1 c74 c80; simp only [a1, a2, a3, a4, d2, d3]; omega) (by simp only [own_lt32, own_k0, own_k1, own_k2, own_k3, own_k4, own_k7, own_k8, own_k63, own_k127, own_k128, own_k143, own_k144, own_k159, own_k160, own_k191, own_k192, own_k194, own_k223, own_k224, own_k237, own_k239, own_k240, own_k244, own_k248, own_k255, own_k2048, own_k55296, own_k57343, own_k65536, own_k1114111, a1, a2, a3, a4, d2, d3] at c1 c74 c80; simp only [a1, a2, a3, a4, d2, d3]; omega))) rfl ?_
                          refine Go.sipush 209 (255) d2_206 (by decide) rfl ?_
                          refine Go.iand 210 d2_209 rfl ?_
                          refine Go.istore 212 #[.val (.ref a), .val (.int f), .val (.int t), .val (.int p), .val (.int ((xs.getD (Int32.toNatClampNeg p) 0) &&& (255 : Int32))), .val (.int (2 : Int32)), .val (.int (128 : Int32)), .val (.int (191 : Int32)), .val (.int ((1 : Int32) + (1 : Int32))), .val (.int ((xs.getD (Int32.toNatClampNeg (p + (2 : Int32))) 0) &&& (255 : Int32)))] d2_210 rfl rfl ?_
                          refine Go.iload 214 d2_212 rfl rfl ?_
                          refine Go.iload 216 d2_214 rfl rfl ?_
                          refine Go.iconst 217 (1) d2_216 (by decide) rfl ?_
                          refine Go.icmp_ne 225 220 d2_217 (by decide) (by decide) rfl (fun _ => ?_) (fun c => absurd c (by decide))
                          refine Go.sipush 228 (128) d2_225 (by decide) rfl ?_
                          refine Go.icmp_lt 250 231 d2_228 (by decide) (by decide) rfl (fun c82 => ?_) (fun c82 => ?_)
                          ·
                            refine Go.iload_n 251 d2_250 rfl rfl ?_
                            refine Go.ireturn d2_251 rfl (by decide) (by decide) ?_
                            have hlt := c1
                            simp only [own_byE] at c2 c3 c6 c8 c71 c72 c76 c78 c82
                            simp only [own_lt32, own_eq32, own_k0, own_k1, own_k2, own_k3, own_k4, own_k7, own_k8, own_k63, own_k127, own_k128, own_k143, own_k144, own_k159, own_k160, own_k191, own_k192, own_k194, own_k223, own_k224, own_k237, own_k239, own_k240, own_k244, own_k248, own_k255, own_k2048, own_k55296, own_k57343, own_k65536, own_k1114111, a1, a2, a3, a4, d2, d3] at c1 c2 c3 c6 c8 c71 c72 c74 c76 c78 c80 c82
                            have hnx : own_nx xs p t = (p ^^^ -1) := by
                              unfold own_nx
                              rw [if_neg (by omega), if_neg (by omega), if_neg (by omega), if_neg (by omega)]
                            exact ⟨own_badr hnx (own_ixn hp0) hlt, rfl⟩
                          ·
                            refine Go.iload 233 d2_231 rfl rfl ?_
                            refine Go.iload 235 d2_233 rfl rfl ?_
                            refine Go.iconst 236 (1) d2_235 (by decide) rfl ?_
                            refine Go.icmp_ne 244 239 d2_236 (by decide) (by decide) rfl (fun _ => ?_) (fun c => absurd c (by decide))
                            refine Go.sipush 247 (191) d2_244 (by decide) rfl ?_
                            refine Go.icmp_le 252 250 d2_247 (by decide) (by decide) rfl (fun c84 => ?_) (fun c84 => ?_)
                            ·
                              refine Go.iinc 255 (1) #[.val (.ref a), .val (.int f), .val (.int t), .val (.int p), .val (.int ((xs.getD (Int32.toNatClampNeg p) 0) &&& (255 : Int32))), .val (.int (2 : Int32)), .val (.int (128 : Int32)), .val (.int (191 : Int32)), .val (.int (((1 : Int32) + (1 : Int32)) + (1 : Int32))), .val (.int ((xs.getD (Int32.toNatClampNeg (p + (2 : Int32))) 0) &&& (255 : Int32)))] d2_252 (by decide) rfl rfl rfl ?_
                              refine Go.goto 183 d2_255 (by decide) (by decide) ?_
                              refine Go.iload 185 d2_183 rfl rfl ?_
                              refine Go.iload 187 d2_185 rfl rfl ?_
                              refine Go.icmp_gt 258 190 d2_187 (by decide) (by decide) rfl (fun _ => ?_) (fun c => absurd c (by decide))
                              refine Go.iload_n 259 d2_258 rfl rfl ?_
                              refine Go.iload 261 d2_259 rfl rfl ?_
                              refine Go.iconst 262 (1) d2_261 (by decide) rfl ?_
                              refine Go.iadd 263 d2_262 rfl ?_
                              refine Go.iadd 264 d2_263 rfl ?_
                              refine Go.istore_n 265 #[.val (.ref a), .val (.int f), .val (.int t), .val (.int (p + ((2 : Int32) + (1 : Int32)))), .val (.int ((xs.getD (Int32.toNatClampNeg p) 0) &&& (255 : Int32))), .val (.int (2 : Int32)), .val (.int (128 : Int32)), .val (.int (191 : Int32)), .val (.int (((1 : Int32) + (1 : Int32)) + (1 : Int32))), .val (.int ((xs.getD (Int32.toNatClampNeg (p + (2 : Int32))) 0) &&& (255 : Int32)))] d2_264 rfl rfl ?_
                              refine Go.goto 2 d2_265 (by decide) (by decide) ?_
                              have hlt := c1
                              simp only [own_byE] at c2 c3 c6 c8 c71 c72 c76 c78 c82 c84
                              simp only [own_lt32, own_eq32, own_k0, own_k1, own_k2, own_k3, own_k4, own_k7, own_k8, own_k63, own_k127, own_k128, own_k143, own_k144, own_k159, own_k160, own_k191, own_k192, own_k194, own_k223, own_k224, own_k237, own_k239, own_k240, own_k244, own_k248, own_k255, own_k2048, own_k55296, own_k57343, own_k65536, own_k1114111, a1, a2, a3, a4, d2, d3] at c1 c2 c3 c6 c8 c71 c72 c74 c76 c78 c80 c82 c84
                              have hnx : own_nx xs p t = p + 3 := by
                                unfold own_nx
                                rw [if_neg (by omega), if_neg (by omega), if_pos (by omega)]
                              have ei : (p + ((2 : Int32) + (1 : Int32))) = p + 3 := congrArg (fun k => p + k) (by decide)
                              rw [ei]
                              have e9 : own_it xs t (n + 1) p = own_it xs t n (p + 3) := by rw [own_it_step (own_ixn hp0) hlt, hnx]
                              rw [e9]
                              exact (ih (p + 3) (by omega) (by omega) (by omega) (.val (.int ((xs.getD (Int32.toNatClampNeg p) 0) &&& (255 : Int32)))) (.val (.int (2 : Int32))) (.val (.int (128 : Int32))) (.val (.int (191 : Int32))) (.val (.int (((1 : Int32) + (1 : Int32)) + (1 : Int32)))) (.val (.int ((xs.getD (Int32.toNatClampNeg (p + (2 : Int32))) 0) &&& (255 : Int32)))) (Or.inr ⟨_, rfl, rfl⟩) (Or.inr ⟨_, rfl, rfl⟩) (Or.inr ⟨_, rfl, rfl⟩) (Or.inr ⟨_, rfl, rfl⟩) (Or.inr ⟨_, rfl, rfl⟩) (Or.inr ⟨_, rfl, rfl⟩)).le (by decide) (by decide)
                            ·
                              refine Go.iload_n 251 d2_250 rfl rfl ?_
                              refine Go.ireturn d2_251 rfl (by decide) (by decide) ?_
                              have hlt := c1
                              simp only [own_byE] at c2 c3 c6 c8 c71 c72 c76 c78 c82 c84
                              simp only [own_lt32, own_eq32, own_k0, own_k1, own_k2, own_k3, own_k4, own_k7, own_k8, own_k63, own_k127, own_k128, own_k143, own_k144, own_k159, own_k160, own_k191, own_k192, own_k194, own_k223, own_k224, own_k237, own_k239, own_k240, own_k244, own_k248, own_k255, own_k2048, own_k55296, own_k57343, own_k65536, own_k1114111, a1, a2, a3, a4, d2, d3] at c1 c2 c3 c6 c8 c71 c72 c74 c76 c78 c80 c82 c84
                              have hnx : own_nx xs p t = (p ^^^ -1) := by
                                unfold own_nx
                                rw [if_neg (by omega), if_neg (by omega), if_neg (by omega), if_neg (by omega)]
                              exact ⟨own_badr hnx (own_ixn hp0) hlt, rfl⟩
                        ·
                          refine Go.iload_n 199 d2_198 rfl rfl ?_
                          refine Go.ireturn d2_199 rfl (by decide) (by decide) ?_
                          have hlt := c1
                          simp only [own_byE] at c2 c3 c6 c8 c71 c72 c76 c78
                          simp only [own_lt32, own_eq32, own_k0, own_k1, own_k2, own_k3, own_k4, own_k7, own_k8, own_k63, own_k127, own_k128, own_k143, own_k144, own_k159, own_k160, own_k191, own_k192, own_k194, own_k223, own_k224, own_k237, own_k239, own_k240, own_k244, own_k248, own_k255, own_k2048, own_k55296, own_k57343, own_k65536, own_k1114111, a1, a2, a3, a4, d2, d3] at c1 c2 c3 c6 c8 c71 c72 c74 c76 c78 c80
                          have hnx : own_nx xs p t = (p ^^^ -1) := by
                            unfold own_nx
                            rw [if_neg (by omega), if_neg (by omega), if_neg (by omega), if_neg (by omega)]
                          exact ⟨own_badr hnx (own_ixn hp0) hlt, rfl⟩
                      ·
                        refine Go.iload_n 251 d2_250 rfl rfl ?_
                        refine Go.ireturn d2_251 rfl (by decide) (by decide) ?_
                        have hlt := c1
                        simp only [own_byE] at c2 c3 c6 c8 c71 c72 c76 c78
                        simp only [own_lt32, own_eq32, own_k0, own_k1, own_k2, own_k3, own_k4, own_k7, own_k8, own_k63, own_k127, own_k128, own_k143, own_k144, own_k159, own_k160, own_k191, own_k192, own_k194, own_k223, own_k224, own_k237, own_k239, own_k240, own_k244, own_k248, own_k255, own_k2048, own_k55296, own_k57343, own_k65536, own_k1114111, a1, a2, a3, a4, d2, d3] at c1 c2 c3 c6 c8 c71 c72 c74 c76 c78
                        have hnx : own_nx xs p t = (p ^^^ -1) := by
                          unfold own_nx
                          rw [if_neg (by omega), if_neg (by omega), if_neg (by omega), if_neg (by omega)]
                        exact ⟨own_badr hnx (own_ixn hp0) hlt, rfl⟩
                  ·
                    refine Go.iload_n 199 d2_198 rfl rfl ?_
                    refine Go.ireturn d2_199 rfl (by decide) (by decide) ?_
                    have hlt := c1
                    simp only [own_byE] at c2 c3 c6 c8 c71 c72
                    simp only [own_lt32, own_eq32, own_k0, own_k1, own_k2, own_k3, own_k4, own_k7, own_k8, own_k63, own_k127, own_k128, own_k143, own_k144, own_k159, own_k160, own_k191, own_k192, own_k194, own_k223, own_k224, own_k237, own_k239, own_k240, own_k244, own_k248, own_k255, own_k2048, own_k55296, own_k57343, own_k65536, own_k1114111, a1, a2, a3, a4, d2, d3] at c1 c2 c3 c6 c8 c71 c72 c74
                    have hnx : own_nx xs p t = (p ^^^ -1) := by
                      unfold own_nx
                      rw [if_neg (by omega), if_neg (by omega), if_neg (by omega), if_neg (by omega)]
                    exact ⟨own_badr hnx (own_ixn hp0) hlt, rfl⟩
                ·
                  refine Go.sipush 110 (159) d2_107 (by decide) rfl ?_
                  refine Go.goto 115 d2_110 (by decide) (by decide) ?_
                  refine Go.istore 117 #[.val (.ref a), .val (.int f), .val (.int t), .val (.int p), .val (.int ((xs.getD (Int32.toNatClampNeg p) 0) &&& (255 : Int32))), .val (.int (2 : Int32)), .val (.int (128 : Int32)), .val (.int (159 : Int32)), u8, u9] d2_115 rfl rfl ?_
                  refine Go.goto 180 d2_117 (by decide) (by decide) ?_
                  refine Go.iconst 181 (1) d2_180 (by decide) rfl ?_
                  refine Go.istoreS 183 #[.val (.ref a), .val (.int f), .val (.int t), .val (.int p), .val (.int ((xs.getD (Int32.toNatClampNeg p) 0) &&& (255 : Int32))), .val (.int (2 : Int32)), .val (.int (128 : Int32)), .val (.int (159 : Int32)), .val (.int (1 : Int32)), u9] d2_181 rfl hu8 rfl rfl ?_
                  refine Go.iload 185 d2_183 rfl rfl ?_
                  refine Go.iload 187 d2_185 rfl rfl ?_
                  refine Go.icmp_gt 258 190 d2_187 (by decide) (by decide) rfl (fun c => absurd c (by decide)) (fun _ => ?_)
                  refine Go.iload_n 191 d2_190 rfl rfl ?_
                  refine Go.iload 193 d2_191 rfl rfl ?_
                  refine Go.iadd 194 d2_193 rfl ?_
                  refine Go.iload_n 195 d2_194 rfl rfl ?_
                  refine Go.icmp_lt 200 198 d2_195 (by decide) (by decide) rfl (fun c87 => ?_) (fun c87 => ?_)
                  ·
                    refine Go.aload_n 201 d2_200 rfl rfl rfl ?_
                    refine Go.iload_n 202 d2_201 rfl rfl ?_
                    refine Go.iload 204 d2_202 rfl rfl ?_
                    refine Go.iadd 205 d2_204 rfl ?_
                    refine Go.baload (x := (xs.getD (Int32.toNatClampNeg (p + (1 : Int32))) 0)) ((Int32.toNatClampNeg (p + (1 : Int32)))) 206 d2_205 fa0 (own_ixn (by simp only [own_lt32, own_k0, own_k1, own_k2, own_k3, own_k4, own_k7, own_k8, own_k63, own_k127, own_k128, own_k143, own_k144, own_k159, own_k160, own_k191, own_k192, own_k194, own_k223, own_k224, own_k237, own_k239, own_k240, own_k244, own_k248, own_k255, own_k2048, own_k55296, own_k57343, own_k65536, own_k1114111, a1, a2, a3, a4, d2, d3] at c1 c87; simp only [a1, a2, a3, a4, d2, d3]; omega)) rfl (own_getq (own_ixl hl (by simp only [own_lt32, own_k0, own_k1, own_k2, own_k3, own_k4, own_k7, own_k8, own_k63, own_k127, own_k128, own_k143, own_k144, own_k159, own_k160, own_k191, own_k192, own_k194, own_k223, own_k224, own_k237, own_k239, own_k240, own_k244, own_k248, own_k255, own_k2048, own_k55296, own_k57343, own_k65536, own_k1114111, a1, a2, a3, a4, d2, d3] at c1 c87; simp only [a1, a2, a3, a4, d2, d3]; omega) (by simp only [own_lt32, own_k0, own_k1, own_k2, own_k3, own_k4, own_k7, own_k8, own_k63, own_k127, own_k128, own_k143, own_k144, own_k159, own_k160, own_k191, own_k192, own_k194, own_k223, own_k224, own_k237, own_k239, own_k240, own_k244, own_k248, own_k255, own_k2048, own_k55296, own_k57343, own_k65536, own_k1114111, a1, a2, a3, a4, d2, d3] at c1 c87; simp only [a1, a2, a3, a4, d2, d3]; omega))) rfl ?_
                    refine Go.sipush 209 (255) d2_206 (by decide) rfl ?_
                    refine Go.iand 210 d2_209 rfl ?_
                    refine Go.istoreS 212 #[.val (.ref a), .val (.int f), .val (.int t), .val (.int p), .val (.int ((xs.getD (Int32.toNatClampNeg p) 0) &&& (255 : Int32))), .val (.int (2 : Int32)), .val (.int (128 : Int32)), .val (.int (159 : Int32)), .val (.int (1 : Int32)), .val (.int ((xs.getD (Int32.toNatClampNeg (p + (1 : Int32))) 0) &&& (255 : Int32)))] d2_210 rfl hu9 rfl rfl ?_
                    refine Go.iload 214 d2_212 rfl rfl ?_
                    refine Go.iload 216 d2_214 rfl rfl ?_
                    refine Go.iconst 217 (1) d2_216 (by decide) rfl ?_
                    refine Go.icmp_ne 225 220 d2_217 (by decide) (by decide) rfl (fun c => absurd c (by decide)) (fun _ => ?_)
                    refine Go.iload 222 d2_220 rfl rfl ?_
                    refine Go.goto 228 d2_222 (by decide) (by decide) ?_
                    refine Go.icmp_lt 250 231 d2_228 (by decide) (by decide) rfl (fun c89 => ?_) (fun c89 => ?_)
                    ·
                      refine Go.iload_n 251 d2_250 rfl rfl ?_
                      refine Go.ireturn d2_251 rfl (by decide) (by decide) ?_
                      have hlt := c1
                      simp only [own_byE] at c2 c3 c6 c8 c71 c72 c89
                      simp only [own_lt32, own_eq32, own_k0, own_k1, own_k2, own_k3, own_k4, own_k7, own_k8, own_k63, own_k127, own_k128, own_k143, own_k144, own_k159, own_k160, own_k191, own_k192, own_k194, own_k223, own_k224, own_k237, own_k239, own_k240, own_k244, own_k248, own_k255, own_k2048, own_k55296, own_k57343, own_k65536, own_k1114111, a1, a2, a3, a4, d2, d3] at c1 c2 c3 c6 c8 c71 c72 c87 c89
                      have hnx : own_nx xs p t = (p ^^^ -1) := by
                        unfold own_nx
                        rw [if_neg (by omega), if_neg (by omega), if_neg (by omega), if_neg (by omega)]
                      exact ⟨own_badr hnx (own_ixn hp0) hlt, rfl⟩
                    ·
                      refine Go.iload 233 d2_231 rfl rfl ?_
                      refine Go.iload 235 d2_233 rfl rfl ?_
                      refine Go.iconst 236 (1) d2_235 (by decide) rfl ?_
                      refine Go.icmp_ne 244 239 d2_236 (by decide) (by decide) rfl (fun c => absurd c (by decide)) (fun _ => ?_)
                      refine Go.iload 241 d2_239 rfl rfl ?_
                      refine Go.goto 247 d2_241 (by decide) (by decide) ?_
                      refine Go.icmp_le 252 250 d2_247 (by decide) (by decide) rfl (fun c91 => ?_) (fun c91 => ?_)
                      ·
                        refine Go.iinc 255 (1) #[.val (.ref a), .val (.int f), .val (.int t), .val (.int p), .val (.int ((xs.getD (Int32.toNatClampNeg p) 0) &&& (255 : Int32))), .val (.int (2 : Int32)), .val (.int (128 : Int32)), .val (.int (159 : Int32)), .val (.int ((1 : Int32) + (1 : Int32))), .val (.int ((xs.getD (Int32.toNatClampNeg (p + (1 : Int32))) 0) &&& (255 : Int32)))] d2_252 (by decide) rfl rfl rfl ?_
                        refine Go.goto 183 d2_255 (by decide) (by decide) ?_
                        refine Go.iload 185 d2_183 rfl rfl ?_
                        refine Go.iload 187 d2_185 rfl rfl ?_
                        refine Go.icmp_gt 258 190 d2_187 (by decide) (by decide) rfl (fun c => absurd c (by decide)) (fun _ => ?_)
                        refine Go.iload_n 191 d2_190 rfl rfl ?_
                        refine Go.iload 193 d2_191 rfl rfl ?_
                        refine Go.iadd 194 d2_193 rfl ?_
                        refine Go.iload_n 195 d2_194 rfl rfl ?_
                        refine Go.icmp_lt 200 198 d2_195 (by decide) (by decide) rfl (fun c93 => ?_) (fun c93 => ?_)
                        ·
                          refine Go.aload_n 201 d2_200 rfl rfl rfl ?_
                          refine Go.iload_n 202 d2_201 rfl rfl ?_
                          refine Go.iload 204 d2_202 rfl rfl ?_
                          refine Go.iadd 205 d2_204 rfl ?_
                          refine Go.baload (x := (xs.getD (Int32.toNatClampNeg (p + (2 : Int32))) 0)) ((Int32.toNatClampNeg (p + (2 : Int32)))) 206 d2_205 fa0 (own_ixn (by simp only [own_lt32, own_k0, own_k1, own_k2, own_k3, own_k4, own_k7, own_k8, own_k63, own_k127, own_k128, own_k143, own_k144, own_k159, own_k160, own_k191, own_k192, own_k194, own_k223, own_k224, own_k237, own_k239, own_k240, own_k244, own_k248, own_k255, own_k2048, own_k55296, own_k57343, own_k65536, own_k1114111, a1, a2, a3, a4, d2, d3] at c1 c87 c93; simp only [a1, a2, a3, a4, d2, d3]; omega)) (congrArg (fun k => Int32.toNatClampNeg (p + k)) (by decide : ((1 : Int32) + (1 : Int32)) = (2 : Int32))) (own_getq (own_ixl hl (by simp only [own_lt32, own_k0, own_k1, own_k2, own_k3, own_k4, own_k7, own_k8, own_k63, own_k127, own_k128, own_k143, own_k144, own_k159, own_k160, own_k191, own_k192, own_k194, own_k223, own_k224, own_k237, own_k239, own_k240, own_k244, own_k248, own_k255, own_k2048, own_k55296, own_k57343, own_k65536, own_k1114111, a1, a2, a3, a4, d2, d3] at c1 c87 c93; simp only [a1, a2, a3, a4, d2, d3]; omega) (by simp only [own_lt32, own_k0, own_k1, own_k2, own_k3, own_k4, own_k7, own_k8, own_k63, own_k127, own_k128, own_k143, own_k144, own_k159, own_k160, own_k191, own_k192, own_k194, own_k223, own_k224, own_k237, own_k239, own_k240, own_k244, own_k248, own_k255, own_k2048, own_k55296, own_k57343, own_k65536, own_k1114111, a1, a2, a3, a4, d2, d3] at c1 c87 c93; simp only [a1, a2, a3, a4, d2, d3]; omega))) rfl ?_
                          refine Go.sipush 209 (255) d2_206 (by decide) rfl ?_
                          refine Go.iand 210 d2_209 rfl ?_
                          refine Go.istore 212 #[.val (.ref a), .val (.int f), .val (.int t), .val (.int p), .val (.int ((xs.getD (Int32.toNatClampNeg p) 0) &&& (255 : Int32))), .val (.int (2 : Int32)), .val (.int (128 : Int32)), .val (.int (159 : Int32)), .val (.int ((1 : Int32) + (1 : Int32))), .val (.int ((xs.getD (Int32.toNatClampNeg (p + (2 : Int32))) 0) &&& (255 : Int32)))] d2_210 rfl rfl ?_
                          refine Go.iload 214 d2_212 rfl rfl ?_
                          refine Go.iload 216 d2_214 rfl rfl ?_
                          refine Go.iconst 217 (1) d2_216 (by decide) rfl ?_
                          refine Go.icmp_ne 225 220 d2_217 (by decide) (by decide) rfl (fun _ => ?_) (fun c => absurd c (by decide))
                          refine Go.sipush 228 (128) d2_225 (by decide) rfl ?_
                          refine Go.icmp_lt 250 231 d2_228 (by decide) (by decide) rfl (fun c95 => ?_) (fun c95 => ?_)
                          ·
                            refine Go.iload_n 251 d2_250 rfl rfl ?_
                            refine Go.ireturn d2_251 rfl (by decide) (by decide) ?_
                            have hlt := c1
                            simp only [own_byE] at c2 c3 c6 c8 c71 c72 c89 c91 c95
                            simp only [own_lt32, own_eq32, own_k0, own_k1, own_k2, own_k3, own_k4, own_k7, own_k8, own_k63, own_k127, own_k128, own_k143, own_k144, own_k159, own_k160, own_k191, own_k192, own_k194, own_k223, own_k224, own_k237, own_k239, own_k240, own_k244, own_k248, own_k255, own_k2048, own_k55296, own_k57343, own_k65536, own_k1114111, a1, a2, a3, a4, d2, d3] at c1 c2 c3 c6 c8 c71 c72 c87 c89 c91 c93 c95
                            have hnx : own_nx xs p t = (p ^^^ -1) := by
                              unfold own_nx
                              rw [if_neg (by omega), if_neg (by omega), if_neg (by omega), if_neg (by omega)]
                            exact ⟨own_badr hnx (own_ixn hp0) hlt, rfl⟩
                          ·
                            refine Go.iload 233 d2_231 rfl rfl ?_
                            refine Go.iload 235 d2_233 rfl rfl ?_
                            refine Go.iconst 236 (1) d2_235 (by decide) rfl ?_
                            refine Go.icmp_ne 244 239 d2_236 (by decide) (by decide) rfl (fun _ => ?_) (fun c => absurd c (by decide))
                            refine Go.sipush 247 (191) d2_244 (by decide) rfl ?_
                            refine Go.icmp_le 252 250 d2_247 (by decide) (by decide) rfl (fun c97 => ?_) (fun c97 => ?_)
                            ·
                              refine Go.iinc 255 (1) #[.val (.ref a), .val (.int f), .val (.int t), .val (.int p), .val (.int ((xs.getD (Int32.toNatClampNeg p) 0) &&& (255 : Int32))), .val (.int (2 : Int32)), .val (.int (128 : Int32)), .val (.int (159 : Int32)), .val (.int (((1 : Int32) + (1 : Int32)) + (1 : Int32))), .val (.int ((xs.getD (Int32.toNatClampNeg (p + (2 : Int32))) 0) &&& (255 : Int32)))] d2_252 (by decide) rfl rfl rfl ?_
                              refine Go.goto 183 d2_255 (by decide) (by decide) ?_
                              refine Go.iload 185 d2_183 rfl rfl ?_
                              refine Go.iload 187 d2_185 rfl rfl ?_
                              refine Go.icmp_gt 258 190 d2_187 (by decide) (by decide) rfl (fun _ => ?_) (fun c => absurd c (by decide))
                              refine Go.iload_n 259 d2_258 rfl rfl ?_
                              refine Go.iload 261 d2_259 rfl rfl ?_
                              refine Go.iconst 262 (1) d2_261 (by decide) rfl ?_
                              refine Go.iadd 263 d2_262 rfl ?_
                              refine Go.iadd 264 d2_263 rfl ?_
                              refine Go.istore_n 265 #[.val (.ref a), .val (.int f), .val (.int t), .val (.int (p + ((2 : Int32) + (1 : Int32)))), .val (.int ((xs.getD (Int32.toNatClampNeg p) 0) &&& (255 : Int32))), .val (.int (2 : Int32)), .val (.int (128 : Int32)), .val (.int (159 : Int32)), .val (.int (((1 : Int32) + (1 : Int32)) + (1 : Int32))), .val (.int ((xs.getD (Int32.toNatClampNeg (p + (2 : Int32))) 0) &&& (255 : Int32)))] d2_264 rfl rfl ?_
                              refine Go.goto 2 d2_265 (by decide) (by decide) ?_
                              have hlt := c1
                              simp only [own_byE] at c2 c3 c6 c8 c71 c72 c89 c91 c95 c97
                              simp only [own_lt32, own_eq32, own_k0, own_k1, own_k2, own_k3, own_k4, own_k7, own_k8, own_k63, own_k127, own_k128, own_k143, own_k144, own_k159, own_k160, own_k191, own_k192, own_k194, own_k223, own_k224, own_k237, own_k239, own_k240, own_k244, own_k248, own_k255, own_k2048, own_k55296, own_k57343, own_k65536, own_k1114111, a1, a2, a3, a4, d2, d3] at c1 c2 c3 c6 c8 c71 c72 c87 c89 c91 c93 c95 c97
                              have hnx : own_nx xs p t = p + 3 := by
                                unfold own_nx
                                rw [if_neg (by omega), if_neg (by omega), if_pos (by omega)]
                              have ei : (p + ((2 : Int32) + (1 : Int32))) = p + 3 := congrArg (fun k => p + k) (by decide)
                              rw [ei]
                              have e9 : own_it xs t (n + 1) p = own_it xs t n (p + 3) := by rw [own_it_step (own_ixn hp0) hlt, hnx]
                              rw [e9]
                              exact (ih (p + 3) (by omega) (by omega) (by omega) (.val (.int ((xs.getD (Int32.toNatClampNeg p) 0) &&& (255 : Int32)))) (.val (.int (2 : Int32))) (.val (.int (128 : Int32))) (.val (.int (159 : Int32))) (.val (.int (((1 : Int32) + (1 : Int32)) + (1 : Int32)))) (.val (.int ((xs.getD (Int32.toNatClampNeg (p + (2 : Int32))) 0) &&& (255 : Int32)))) (Or.inr ⟨_, rfl, rfl⟩) (Or.inr ⟨_, rfl, rfl⟩) (Or.inr ⟨_, rfl, rfl⟩) (Or.inr ⟨_, rfl, rfl⟩) (Or.inr ⟨_, rfl, rfl⟩) (Or.inr ⟨_, rfl, rfl⟩)).le (by decide) (by decide)
                            ·
                              refine Go.iload_n 251 d2_250 rfl rfl ?_
                              refine Go.ireturn d2_251 rfl (by decide) (by decide) ?_
                              have hlt := c1
                              simp only [own_byE] at c2 c3 c6 c8 c71 c72 c89 c91 c95 c97
                              simp only [own_lt32, own_eq32, own_k0, own_k1, own_k2, own_k3, own_k4, own_k7, own_k8, own_k63, own_k127, own_k128, own_k143, own_k144, own_k159, own_k160, own_k191, own_k192, own_k194, own_k223, own_k224, own_k237, own_k239, own_k240, own_k244, own_k248, own_k255, own_k2048, own_k55296, own_k57343, own_k65536, own_k1114111, a1, a2, a3, a4, d2, d3] at c1 c2 c3 c6 c8 c71 c72 c87 c89 c91 c93 c95 c97
                              have hnx : own_nx xs p t = (p ^^^ -1) := by
                                unfold own_nx
                                rw [if_neg (by omega), if_neg (by omega), if_neg (by omega), if_neg (by omega)]
                              exact ⟨own_badr hnx (own_ixn hp0) hlt, rfl⟩
                        ·
                          refine Go.iload_n 199 d2_198 rfl rfl ?_
                          refine Go.ireturn d2_199 rfl (by decide) (by decide) ?_
                          have hlt := c1
                          simp only [own_byE] at c2 c3 c6 c8 c71 c72 c89 c91
                          simp only [own_lt32, own_eq32, own_k0, own_k1, own_k2, own_k3, own_k4, own_k7, own_k8, own_k63, own_k127, own_k128, own_k143, own_k144, own_k159, own_k160, own_k191, own_k192, own_k194, own_k223, own_k224, own_k237, own_k239, own_k240, own_k244, own_k248, own_k255, own_k2048, own_k55296, own_k57343, own_k65536, own_k1114111, a1, a2, a3, a4, d2, d3] at c1 c2 c3 c6 c8 c71 c72 c87 c89 c91 c93
                          have hnx : own_nx xs p t = (p ^^^ -1) := by
                            unfold own_nx
                            rw [if_neg (by omega), if_neg (by omega), if_neg (by omega), if_neg (by omega)]
                          exact ⟨own_badr hnx (own_ixn hp0) hlt, rfl⟩
                      ·
                        refine Go.iload_n 251 d2_250 rfl rfl ?_
                        refine Go.ireturn d2_251 rfl (by decide) (by decide) ?_
                        have hlt := c1
                        simp only [own_byE] at c2 c3 c6 c8 c71 c72 c89 c91
                        simp only [own_lt32, own_eq32, own_k0, own_k1, own_k2, own_k3, own_k4, own_k7, own_k8, own_k63, own_k127, own_k128, own_k143, own_k144, own_k159, own_k160, own_k191, own_k192, own_k194, own_k223, own_k224, own_k237, own_k239, own_k240, own_k244, own_k248, own_k255, own_k2048, own_k55296, own_k57343, own_k65536, own_k1114111, a1, a2, a3, a4, d2, d3] at c1 c2 c3 c6 c8 c71 c72 c87 c89 c91
                        have hnx : own_nx xs p t = (p ^^^ -1) := by
                          unfold own_nx
                          rw [if_neg (by omega), if_neg (by omega), if_neg (by omega), if_neg (by omega)]
                        exact ⟨own_badr hnx (own_ixn hp0) hlt, rfl⟩
                  ·
                    refine Go.iload_n 199 d2_198 rfl rfl ?_
                    refine Go.ireturn d2_199 rfl (by decide) (by decide) ?_
                    have hlt := c1
                    simp only [own_byE] at c2 c3 c6 c8 c71 c72
                    simp only [own_lt32, own_eq32, own_k0, own_k1, own_k2, own_k3, own_k4, own_k7, own_k8, own_k63, own_k127, own_k128, own_k143, own_k144, own_k159, own_k160, own_k191, own_k192, own_k194, own_k223, own_k224, own_k237, own_k239, own_k240, own_k244, own_k248, own_k255, own_k2048, own_k55296, own_k57343, own_k65536, own_k1114111, a1, a2, a3, a4, d2, d3] at c1 c2 c3 c6 c8 c71 c72 c87
                    have hnx : own_nx xs p t = (p ^^^ -1) := by
                      unfold own_nx
                      rw [if_neg (by omega), if_neg (by omega), if_neg (by omega), if_neg (by omega)]
                    exact ⟨own_badr hnx (own_ixn hp0) hlt, rfl⟩
              ·
                refine Go.sipush 92 (160) d2_89 (by decide) rfl ?_
                refine Go.goto 97 d2_92 (by decide) (by decide) ?_
                refine Go.istore 99 #[.val (.ref a), .val (.int f), .val (.int t), .val (.int p), .val (.int ((xs.getD (Int32.toNatClampNeg p) 0) &&& (255 : Int32))), .val (.int (2 : Int32)), .val (.int (160 : Int32)), .val (.int (191 : Int32)), u8, u9] d2_97 rfl rfl ?_
                refine Go.iload 101 d2_99 rfl rfl ?_
                refine Go.sipush 104 (237) d2_101 (by decide) rfl ?_
                refine Go.icmp_ne 113 107 d2_104 (by decide) (by decide) rfl (fun _ => ?_) (fun c => by exfalso; simp only [own_lt32, own_eq32, own_k0, own_k1, own_k2, own_k3, own_k4, own_k7, own_k8, own_k63, own_k127, own_k128, own_k143, own_k144, own_k159, own_k160, own_k191, own_k192, own_k194, own_k223, own_k224, own_k237, own_k239, own_k240, own_k244, own_k248, own_k255, own_k2048, own_k55296, own_k57343, own_k65536, own_k1114111] at c c2 c3 c6 c8 c71; omega)
                refine Go.iload 115 d2_113 rfl rfl ?_
                refine Go.istore 117 #[.val (.ref a), .val (.int f), .val (.int t), .val (.int p), .val (.int ((xs.getD (Int32.toNatClampNeg p) 0) &&& (255 : Int32))), .val (.int (2 : Int32)), .val (.int (160 : Int32)), .val (.int (191 : Int32)), u8, u9] d2_115 rfl rfl ?_
                refine Go.goto 180 d2_117 (by decide) (by decide) ?_
                refine Go.iconst 181 (1) d2_180 (by decide) rfl ?_
                refine Go.istoreS 183 #[.val (.ref a), .val (.int f), .val (.int t), .val (.int p), .val (.int ((xs.getD (Int32.toNatClampNeg p) 0) &&& (255 : Int32))), .val (.int (2 : Int32)), .val (.int (160 : Int32)), .val (.int (191 : Int32)), .val (.int (1 : Int32)), u9] d2_181 rfl hu8 rfl rfl ?_
                refine Go.iload 185 d2_183 rfl rfl ?_
                refine Go.iload 187 d2_185 rfl rfl ?_
                refine Go.icmp_gt 258 190 d2_187 (by decide) (by decide) rfl (fun c => absurd c (by decide)) (fun _ => ?_)
                refine Go.iload_n 191 d2_190 rfl rfl ?_
                refine Go.iload 193 d2_191 rfl rfl ?_
                refine Go.iadd 194 d2_193 rfl ?_
                refine Go.iload_n 195 d2_194 rfl rfl ?_
                refine Go.icmp_lt 200 198 d2_195 (by decide) (by decide) rfl (fun c101 => ?_) (fun c101 => ?_)
                ·
                  refine Go.aload_n 201 d2_200 rfl rfl rfl ?_
                  refine Go.iload_n 202 d2_201 rfl rfl ?_
                  refine Go.iload 204 d2_202 rfl rfl ?_
                  refine Go.iadd 205 d2_204 rfl ?_
                  refine Go.baload (x := (xs.getD (Int32.toNatClampNeg (p + (1 : Int32))) 0)) ((Int32.toNatClampNeg (p + (1 : Int32)))) 206 d2_205 fa0 (own_ixn (by simp only [own_lt32, own_k0, own_k1, own_k2, own_k3, own_k4, own_k7, own_k8, own_k63, own_k127, own_k128, own_k143, own_k144, own_k159, own_k160, own_k191, own_k192, own_k194, own_k223, own_k224, own_k237, own_k239, own_k240, own_k244, own_k248, own_k255, own_k2048, own_k55296, own_k57343, own_k65536, own_k1114111, a1, a2, a3, a4, d2, d3] at c1 c101; simp only [a1, a2, a3, a4, d2, d3]; omega)) rfl (own_getq (own_ixl hl (by simp only [own_lt32, own_k0, own_k1, own_k2, own_k3, own_k4, own_k7, own_k8, own_k63, own_k127, own_k128, own_k143, own_k144, own_k159, own_k160, own_k191, own_k192, own_k194, own_k223, own_k224, own_k237, own_k239, own_k240, own_k244, own_k248, own_k255, own_k2048, own_k55296, own_k57343, own_k65536, own_k1114111, a1, a2, a3, a4, d2, d3] at c1 c101; simp only [a1, a2, a3, a4, d2, d3]; omega) (by simp only [own_lt32, own_k0, own_k1, own_k2, own_k3, own_k4, own_k7, own_k8, own_k63, own_k127, own_k128, own_k143, own_k144, own_k159, own_k160, own_k191, own_k192, own_k194, own_k223, own_k224, own_k237, own_k239, own_k240, own_k244, own_k248, own_k255, own_k2048, own_k55296, own_k57343, own_k65536, own_k1114111, a1, a2, a3, a4, d2, d3] at c1 c101; simp only [a1, a2, a3, a4, d2, d3]; omega))) rfl ?_
                  refine Go.sipush 209 (255) d2_206 (by decide) rfl ?_
                  refine Go.iand 210 d2_209 rfl ?_
                  refine Go.istoreS 212 #[.val (.ref a), .val (.int f), .val (.int t), .val (.int p), .val (.int ((xs.getD (Int32.toNatClampNeg p) 0) &&& (255 : Int32))), .val (.int (2 : Int32)), .val (.int (160 : Int32)), .val (.int (191 : Int32)), .val (.int (1 : Int32)), .val (.int ((xs.getD (Int32.toNatClampNeg (p + (1 : Int32))) 0) &&& (255 : Int32)))] d2_210 rfl hu9 rfl rfl ?_
                  refine Go.iload 214 d2_212 rfl rfl ?_
                  refine Go.iload 216 d2_214 rfl rfl ?_
                  refine Go.iconst 217 (1) d2_216 (by decide) rfl ?_
                  refine Go.icmp_ne 225 220 d2_217 (by decide) (by decide) rfl (fun c => absurd c (by decide)) (fun _ => ?_)
                  refine Go.iload 222 d2_220 rfl rfl ?_
                  refine Go.goto 228 d2_222 (by decide) (by decide) ?_
                  refine Go.icmp_lt 250 231 d2_228 (by decide) (by decide) rfl (fun c103 => ?_) (fun c103 => ?_)
                  ·
                    refine Go.iload_n 251 d2_250 rfl rfl ?_
                    refine Go.ireturn d2_251 rfl (by decide) (by decide) ?_
                    have hlt := c1
                    simp only [own_byE] at c2 c3 c6 c8 c71 c103
                    simp only [own_lt32, own_eq32, own_k0, own_k1, own_k2, own_k3, own_k4, own_k7, own_k8, own_k63, own_k127, own_k128, own_k143, own_k144, own_k159, own_k160, own_k191, own_k192, own_k194, own_k223, own_k224, own_k237, own_k239, own_k240, own_k244, own_k248, own_k255, own_k2048, own_k55296, own_k57343, own_k65536, own_k1114111, a1, a2, a3, a4, d2, d3] at c1 c2 c3 c6 c8 c71 c101 c103
                    have hnx : own_nx xs p t = (p ^^^ -1) := by
                      unfold own_nx
                      rw [if_neg (by omega), if_neg (by omega), if_neg (by omega), if_neg (by omega)]
                    exact ⟨own_badr hnx (own_ixn hp0) hlt, rfl⟩
                  ·
                    refine Go.iload 233 d2_231 rfl rfl ?_
                    refine Go.iload 235 d2_233 rfl rfl ?_
                    refine Go.iconst 236 (1) d2_235 (by decide) rfl ?_
                    refine Go.icmp_ne 244 239 d2_236 (by decide) (by decide) rfl (fun c => absurd c (by decide)) (fun _ => ?_)
                    refine Go.iload 241 d2_239 rfl rfl ?_
                    refine Go.goto 247 d2_241 (by decide) (by decide) ?_
                    refine Go.icmp_le 252 250 d2_247 (by decide) (by decide) rfl (fun c105 => ?_) (fun c105 => ?_)
                    ·
                      refine Go.iinc 255 (1) #[.val (.ref a), .val (.int f), .val (.int t), .val (.int p), .val (.int ((xs.getD (Int32.toNatClampNeg p) 0) &&& (255 : Int32))), .val (.int (2 : Int32)), .val (.int (160 : Int32)), .val (.int (191 : Int32)), .val (.int ((1 : Int32) + (1 : Int32))), .val (.int ((xs.getD (Int32.toNatClampNeg (p + (1 : Int32))) 0) &&& (255 : Int32)))] d2_252 (by decide) rfl rfl rfl ?_
                      refine Go.goto 183 d2_255 (by decide) (by decide) ?_
                      refine Go.iload 185 d2_183 rfl rfl ?_
                      refine Go.iload 187 d2_185 rfl rfl ?_
                      refine Go.icmp_gt 258 190 d2_187 (by decide) (by decide) rfl (fun c => absurd c (by decide)) (fun _ => ?_)
                      refine Go.iload_n 191 d2_190 rfl rfl ?_
                      refine Go.iload 193 d2_191 rfl rfl ?_
                      refine Go.iadd 194 d2_193 rfl ?_
                      refine Go.iload_n 195 d2_194 rfl rfl ?_
                      refine Go.icmp_lt 200 198 d2_195 (by decide) (by decide) rfl (fun c107 => ?_) (fun c107 => ?_)
                      ·
                        refine Go.aload_n 201 d2_200 rfl rfl rfl ?_
                        refine Go.iload_n 202 d2_201 rfl rfl ?_
                        refine Go.iload 204 d2_202 rfl rfl ?_
                        refine Go.iadd 205 d2_204 rfl ?_
                        refine Go.baload (x := (xs.getD (Int32.toNatClampNeg (p + (2 : Int32))) 0)) ((Int32.toNatClampNeg (p + (2 : Int32)))) 206 d2_205 fa0 (own_ixn (by simp only [own_lt32, own_k0, own_k1, own_k2, own_k3, own_k4, own_k7, own_k8, own_k63, own_k127, own_k128, own_k143, own_k144, own_k159, own_k160, own_k191, own_k192, own_k194, own_k223, own_k224, own_k237, own_k239, own_k240, own_k244, own_k248, own_k255, own_k2048, own_k55296, own_k57343, own_k65536, own_k1114111, a1, a2, a3, a4, d2, d3] at c1 c101 c107; simp only [a1, a2, a3, a4, d2, d3]; omega)) (congrArg (fun k => Int32.toNatClampNeg (p + k)) (by decide : ((1 : Int32) + (1 : Int32)) = (2 : Int32))) (own_getq (own_ixl hl (by simp only [own_lt32, own_k0, own_k1, own_k2, own_k3, own_k4, own_k7, own_k8, own_k63, own_k127, own_k128, own_k143, own_k144, own_k159, own_k160, own_k191, own_k192, own_k194, own_k223, own_k224, own_k237, own_k239, own_k240, own_k244, own_k248, own_k255, own_k2048, own_k55296, own_k57343, own_k65536, own_k1114111, a1, a2, a3, a4, d2, d3] at c1 c101 c107; simp only [a1, a2, a3, a4, d2, d3]; omega) (by simp only [own_lt32, own_k0, own_k1, own_k2, own_k3, own_k4, own_k7, own_k8, own_k63, own_k127, own_k128, own_k143, own_k144, own_k159, own_k160, own_k191, own_k192, own_k194, own_k223, own_k224, own_k237, own_k239, own_k240, own_k244, own_k248, own_k255, own_k2048, own_k55296, own_k57343, own_k65536, own_k1114111, a1, a2, a3, a4, d2, d3] at c1 c101 c107; simp only [a1, a2, a3, a4, d2, d3]; omega))) rfl ?_
                        refine Go.sipush 209 (255) d2_206 (by decide) rfl ?_
                        refine Go.iand 210 d2_209 rfl ?_
                        refine Go.istore 212 #[.val (.ref a), .val (.int f), .val (.int t), .val (.int p), .val (.int ((xs.getD (Int32.toNatClampNeg p) 0) &&& (255 : Int32))), .val (.int (2 : Int32)), .val (.int (160 : Int32)), .val (.int (191 : Int32)), .val (.int ((1 : Int32) + (1 : Int32))), .val (.int ((xs.getD (Int32.toNatClampNeg (p + (2 : Int32))) 0) &&& (255 : Int32)))] d2_210 rfl rfl ?_
                        refine Go.iload 214 d2_212 rfl rfl ?_
                        refine Go.iload 216 d2_214 rfl rfl ?_
                        refine Go.iconst 217 (1) d2_216 (by decide) rfl ?_
                        refine Go.icmp_ne 225 220 d2_217 (by decide) (by decide) rfl (fun _ => ?_) (fun c => absurd c (by decide))
                        refine Go.sipush 228 (128) d2_225 (by decide) rfl ?_
                        refine Go.icmp_lt 250 231 d2_228 (by decide) (by decide) rfl (fun c109 => ?_) (fun c109 => ?_)
                        ·
                          refine Go.iload_n 251 d2_250 rfl rfl ?_
                          refine Go.ireturn d2_251 rfl (by decide) (by decide) ?_
                          have hlt := c1
                          simp only [own_byE] at c2 c3 c6 c8 c71 c103 c105 c109
                          simp only [own_lt32, own_eq32, own_k0, own_k1, own_k2, own_k3, own_k4, own_k7, own_k8, own_k63, own_k127, own_k128, own_k143, own_k144, own_k159, own_k160, own_k191, own_k192, own_k194, own_k223, own_k224, own_k237, own_k239, own_k240, own_k244, own_k248, own_k255, own_k2048, own_k55296, own_k57343, own_k65536, own_k1114111, a1, a2, a3, a4, d2, d3] at c1 c2 c3 c6 c8 c71 c101 c103 c105 c107 c109
                          have hnx : own_nx xs p t = (p ^^^ -1) := by
                            unfold own_nx
                            rw [if_neg (by omega), if_neg (by omega), if_neg (by omega), if_neg (by omega)]
                          exact ⟨own_badr hnx (own_ixn hp0) hlt, rfl⟩
                        ·
                          refine Go.iload 233 d2_231 rfl rfl ?_
                          refine Go.iload 235 d2_233 rfl rfl ?_
                          refine Go.iconst 236 (1) d2_235 (by decide) rfl ?_
                          refine Go.icmp_ne 244 239 d2_236 (by decide) (by decide) rfl (fun _ => ?_) (fun c => absurd c (by decide))
                          refine Go.sipush 247 (191) d2_244 (by decide) rfl ?_
                          refine Go.icmp_le 252 250 d2_247 (by decide) (by decide) rfl (fun c111 => ?_) (fun c111 => ?_)
                          ·
                            refine Go.iinc 255 (1) #[.val (.ref a), .val (.int f), .val (.int t), .val (.int p), .val (.int ((xs.getD (Int32.toNatClampNeg p) 0) &&& (255 : Int32))), .val (.int (2 : Int32)), .val (.int (160 : Int32)), .val (.int (191 : Int32)), .val (.int (((1 : Int32) + (1 : Int32)) + (1 : Int32))), .val (.int ((xs.getD (Int32.toNatClampNeg (p + (2 : Int32))) 0) &&& (255 : Int32)))] d2_252 (by decide) rfl rfl rfl ?_
                            refine Go.goto 183 d2_255 (by decide) (by decide) ?_
                            refine Go.iload 185 d2_183 rfl rfl ?_
                            refine Go.iload 187 d2_185 rfl rfl ?_
                            refine Go.icmp_gt 258 190 d2_187 (by decide) (by decide) rfl (fun _ => ?_) (fun c => absurd c (by decide))
                            refine Go.iload_n 259 d2_258 rfl rfl ?_
                            refine Go.iload 261 d2_259 rfl rfl ?_
                            refine Go.iconst 262 (1) d2_261 (by decide) rfl ?_
                            refine Go.iadd 263 d2_262 rfl ?_
                            refine Go.iadd 264 d2_263 rfl ?_
                            refine Go.istore_n 265 #[.val (.ref a), .val (.int f), .val (.int t), .val (.int (p + ((2 : Int32) + (1 : Int32)))), .val (.int ((xs.getD (Int32.toNatClampNeg p) 0) &&& (255 : Int32))), .val (.int (2 : Int32)), .val (.int (160 : Int32)), .val (.int (191 : Int32)), .val (.int (((1 : Int32) + (1 : Int32)) + (1 : Int32))), .val (.int ((xs.getD (Int32.toNatClampNeg (p + (2 : Int32))) 0) &&& (255 : Int32)))] d2_264 rfl rfl ?_
                            refine Go.goto 2 d2_265 (by decide) (by decide) ?_
                            have hlt := c1
                            simp only [own_byE] at c2 c3 c6 c8 c71 c103 c105 c109 c111
                            simp only [own_lt32, own_eq32, own_k0, own_k1, own_k2, own_k3, own_k4, own_k7, own_k8, own_k63, own_k127, own_k128, own_k143, own_k144, own_k159, own_k160, own_k191, own_k192, own_k194, own_k223, own_k224, own_k237, own_k239, own_k240, own_k244, own_k248, own_k255, own_k2048, own_k55296, own_k57343, own_k65536, own_k1114111, a1, a2, a3, a4, d2, d3] at c1 c2 c3 c6 c8 c71 c101 c103 c105 c107 c109 c111
                            have hnx : own_nx xs p t = p + 3 := by
                              unfold own_nx
                              rw [if_neg (by omega), if_neg (by omega), if_pos (by omega)]
                            have ei : (p + ((2 : Int32) + (1 : Int32))) = p + 3 := congrArg (fun k => p + k) (by decide)
                            rw [ei]
                            have e9 : own_it xs t (n + 1) p = own_it xs t n (p + 3) := by rw [own_it_step (own_ixn hp0) hlt, hnx]
                            rw [e9]
                            exact (ih (p + 3) (by omega) (by omega) (by omega) (.val (.int ((xs.getD (Int32.toNatClampNeg p) 0) &&& (255 : Int32)))) (.val (.int (2 : Int32))) (.val (.int (160 : Int32))) (.val (.int (191 : Int32))) (.val (.int (((1 : Int32) + (1 : Int32)) + (1 : Int32)))) (.val (.int ((xs.getD (Int32.toNatClampNeg (p + (2 : Int32))) 0) &&& (255 : Int32)))) (Or.inr ⟨_, rfl, rfl⟩) (Or.inr ⟨_, rfl, rfl⟩) (Or.inr ⟨_, rfl, rfl⟩) (Or.inr ⟨_, rfl, rfl⟩) (Or.inr ⟨_, rfl, rfl⟩) (Or.inr ⟨_, rfl, rfl⟩)).le (by decide) (by decide)
                          ·
                            refine Go.iload_n 251 d2_250 rfl rfl ?_
                            refine Go.ireturn d2_251 rfl (by decide) (by decide) ?_
                            have hlt := c1
                            simp only [own_byE] at c2 c3 c6 c8 c71 c103 c105 c109 c111
                            simp only [own_lt32, own_eq32, own_k0, own_k1, own_k2, own_k3, own_k4, own_k7, own_k8, own_k63, own_k127, own_k128, own_k143, own_k144, own_k159, own_k160, own_k191, own_k192, own_k194, own_k223, own_k224, own_k237, own_k239, own_k240, own_k244, own_k248, own_k255, own_k2048, own_k55296, own_k57343, own_k65536, own_k1114111, a1, a2, a3, a4, d2, d3] at c1 c2 c3 c6 c8 c71 c101 c103 c105 c107 c109 c111
                            have hnx : own_nx xs p t = (p ^^^ -1) := by
                              unfold own_nx
                              rw [if_neg (by omega), if_neg (by omega), if_neg (by omega), if_neg (by omega)]
                            exact ⟨own_badr hnx (own_ixn hp0) hlt, rfl⟩
                      ·
                        refine Go.iload_n 199 d2_198 rfl rfl ?_
                        refine Go.ireturn d2_199 rfl (by decide) (by decide) ?_
                        have hlt := c1
                        simp only [own_byE] at c2 c3 c6 c8 c71 c103 c105
                        simp only [own_lt32, own_eq32, own_k0, own_k1, own_k2, own_k3, own_k4, own_k7, own_k8, own_k63, own_k127, own_k128, own_k143, own_k144, own_k159, own_k160, own_k191, own_k192, own_k194, own_k223, own_k224, own_k237, own_k239, own_k240, own_k244, own_k248, own_k255, own_k2048, own_k55296, own_k57343, own_k65536, own_k1114111, a1, a2, a3, a4, d2, d3] at c1 c2 c3 c6 c8 c71 c101 c103 c105 c107
                        have hnx : own_nx xs p t = (p ^^^ -1) := by
                          unfold own_nx
                          rw [if_neg (by omega), if_neg (by omega), if_neg (by omega), if_neg (by omega)]
                        exact ⟨own_badr hnx (own_ixn hp0) hlt, rfl⟩
                    ·
                      refine Go.iload_n 251 d2_250 rfl rfl ?_
                      refine Go.ireturn d2_251 rfl (by decide) (by decide) ?_
                      have hlt := c1
                      simp only [own_byE] at c2 c3 c6 c8 c71 c103 c105
                      simp only [own_lt32, own_eq32, own_k0, own_k1, own_k2, own_k3, own_k4, own_k7, own_k8, own_k63, own_k127, own_k128, own_k143, own_k144, own_k159, own_k160, own_k191, own_k192, own_k194, own_k223, own_k224, own_k237, own_k239, own_k240, own_k244, own_k248, own_k255, own_k2048, own_k55296, own_k57343, own_k65536, own_k1114111, a1, a2, a3, a4, d2, d3] at c1 c2 c3 c6 c8 c71 c101 c103 c105
                      have hnx : own_nx xs p t = (p ^^^ -1) := by
                        unfold own_nx
                        rw [if_neg (by omega), if_neg (by omega), if_neg (by omega), if_neg (by omega)]
                      exact ⟨own_badr hnx (own_ixn hp0) hlt, rfl⟩
                ·
                  refine Go.iload_n 199 d2_198 rfl rfl ?_
                  refine Go.ireturn d2_199 rfl (by decide) (by decide) ?_
                  have hlt := c1
                  simp only [own_byE] at c2 c3 c6 c8 c71
                  simp only [own_lt32, own_eq32, own_k0, own_k1, own_k2, own_k3, own_k4, own_k7, own_k8, own_k63, own_k127, own_k128, own_k143, own_k144, own_k159, own_k160, own_k191, own_k192, own_k194, own_k223, own_k224, own_k237, own_k239, own_k240, own_k244, own_k248, own_k255, own_k2048, own_k55296, own_k57343, own_k65536, own_k1114111, a1, a2, a3, a4, d2, d3] at c1 c2 c3 c6 c8 c71 c101
                  have hnx : own_nx xs p t = (p ^^^ -1) := by
                    unfold own_nx
                    rw [if_neg (by omega), if_neg (by omega), if_neg (by omega), if_neg (by omega)]
                  exact ⟨own_badr hnx (own_ixn hp0) hlt, rfl⟩
          ·
            refine Go.iconst 57 (1) d2_56 (by decide) rfl ?_
            refine Go.istoreS 59 #[.val (.ref a), .val (.int f), .val (.int t), .val (.int p), .val (.int ((xs.getD (Int32.toNatClampNeg p) 0) &&& (255 : Int32))), .val (.int (1 : Int32)), .val (.int (128 : Int32)), .val (.int (191 : Int32)), u8, u9] d2_57 rfl hu5 rfl rfl ?_
            refine Go.goto 180 d2_59 (by decide) (by decide) ?_
            refine Go.iconst 181 (1) d2_180 (by decide) rfl ?_
            refine Go.istoreS 183 #[.val (.ref a), .val (.int f), .val (.int t), .val (.int p), .val (.int ((xs.getD (Int32.toNatClampNeg p) 0) &&& (255 : Int32))), .val (.int (1 : Int32)), .val (.int (128 : Int32)), .val (.int (191 : Int32)), .val (.int (1 : Int32)), u9] d2_181 rfl hu8 rfl rfl ?_
            refine Go.iload 185 d2_183 rfl rfl ?_
            refine Go.iload 187 d2_185 rfl rfl ?_
            refine Go.icmp_gt 258 190 d2_187 (by decide) (by decide) rfl (fun c => absurd c (by decide)) (fun _ => ?_)
            refine Go.iload_n 191 d2_190 rfl rfl ?_
            refine Go.iload 193 d2_191 rfl rfl ?_
            refine Go.iadd 194 d2_193 rfl ?_
            refine Go.iload_n 195 d2_194 rfl rfl ?_
            refine Go.icmp_lt 200 198 d2_195 (by decide) (by decide) rfl (fun c114 => ?_) (fun c114 => ?_)
            ·
              refine Go.aload_n 201 d2_200 rfl rfl rfl ?_
              refine Go.iload_n 202 d2_201 rfl rfl ?_
              refine Go.iload 204 d2_202 rfl rfl ?_
              refine Go.iadd 205 d2_204 rfl ?_
              refine Go.baload (x := (xs.getD (Int32.toNatClampNeg (p + (1 : Int32))) 0)) ((Int32.toNatClampNeg (p + (1 : Int32)))) 206 d2_205 fa0 (own_ixn (by simp only [own_lt32, own_k0, own_k1, own_k2, own_k3, own_k4, own_k7, own_k8, own_k63, own_k127, own_k128, own_k143, own_k144, own_k159, own_k160, own_k191, own_k192, own_k194, own_k223, own_k224, own_k237, own_k239, own_k240, own_k244, own_k248, own_k255, own_k2048, own_k55296, own_k57343, own_k65536, own_k1114111, a1, a2, a3, a4, d2, d3] at c1 c114; simp only [a1, a2, a3, a4, d2, d3]; omega)) rfl (own_getq (own_ixl hl (by simp only [own_lt32, own_k0, own_k1, own_k2, own_k3, own_k4, own_k7, own_k8, own_k63, own_k127, own_k128, own_k143, own_k144, own_k159, own_k160, own_k191, own_k192, own_k194, own_k223, own_k224, own_k237, own_k239, own_k240, own_k244, own_k248, own_k255, own_k2048, own_k55296, own_k57343, own_k65536, own_k1114111, a1, a2, a3, a4, d2, d3] at c1 c114; simp only [a1, a2, a3, a4, d2, d3]; omega) (by simp only [own_lt32, own_k0, own_k1, own_k2, own_k3, own_k4, own_k7, own_k8, own_k63, own_k127, own_k128, own_k143, own_k144, own_k159, own_k160, own_k191, own_k192, own_k194, own_k223, own_k224, own_k237, own_k239, own_k240, own_k244, own_k248, own_k255, own_k2048, own_k55296, own_k57343, own_k65536, own_k1114111, a1, a2, a3, a4, d2, d3] at c1 c114; simp only [a1, a2, a3, a4, d2, d3]; omega))) rfl ?_
              refine Go.sipush 209 (255) d2_206 (by decide) rfl ?_
              refine Go.iand 210 d2_209 rfl ?_
              refine Go.istoreS 212 #[.val (.ref a), .val (.int f), .val (.int t), .val (.int p), .val (.int ((xs.getD (Int32.toNatClampNeg p) 0) &&& (255 : Int32))), .val (.int (1 : Int32)), .val (.int (128 : Int32)), .val (.int (191 : Int32)), .val (.int (1 : Int32)), .val (.int ((xs.getD (Int32.toNatClampNeg (p + (1 : Int32))) 0) &&& (255 : Int32)))] d2_210 rfl hu9 rfl rfl ?_
              refine Go.iload 214 d2_212 rfl rfl ?_
              refine Go.iload 216 d2_214 rfl rfl ?_
              refine Go.iconst 217 (1) d2_216 (by decide) rfl ?_
              refine Go.icmp_ne 225 220 d2_217 (by decide) (by decide) rfl (fun c => absurd c (by decide)) (fun _ => ?_)
              refine Go.iload 222 d2_220 rfl rfl ?_
              refine Go.goto 228 d2_222 (by decide) (by decide) ?_
              refine Go.icmp_lt 250 231 d2_228 (by decide) (by decide) rfl (fun c116 => ?_) (fun c116 => ?_)
              ·
                refine Go.iload_n 251 d2_250 rfl rfl ?_
                refine Go.ireturn d2_251 rfl (by decide) (by decide) ?_
                have hlt := c1
                simp only [own_byE] at c2 c3 c6 c116
                simp only [own_lt32, own_eq32, own_k0, own_k1, own_k2, own_k3, own_k4, own_k7, own_k8, own_k63, own_k127, own_k128, own_k143, own_k144, own_k159, own_k160, own_k191, own_k192, own_k194, own_k223, own_k224, own_k237, own_k239, own_k240, own_k244, own_k248, own_k255, own_k2048, own_k55296, own_k57343, own_k65536, own_k1114111, a1, a2, a3, a4, d2, d3] at c1 c2 c3 c6 c114 c116
                have hnx : own_nx xs p t = (p ^^^ -1) := by
                  unfold own_nx
                  rw [if_neg (by omega), if_neg (by omega), if_neg (by omega), if_neg (by omega)]
                exact ⟨own_badr hnx (own_ixn hp0) hlt, rfl⟩
              ·
                refine Go.iload 233 d2_231 rfl rfl ?_
                refine Go.iload 235 d2_233 rfl rfl ?_
                refine Go.iconst 236 (1) d2_235 (by decide) rfl ?_
                refine Go.icmp_ne 244 239 d2_236 (by decide) (by decide) rfl (fun c => absurd c (by decide)) (fun _ => ?_)
                refine Go.iload 241 d2_239 rfl rfl ?_
                refine Go.goto 247 d2_241 (by decide) (by decide) ?_
                refine Go.icmp_le 252 250 d2_247 (by decide) (by decide) rfl (fun c118 => ?_) (fun c118 => ?_)
                ·
                  refine Go.iinc 255 (1) #[.val (.ref a), .val (.int f), .val (.int t), .val (.int p), .val (.int ((xs.getD (Int32.toNatClampNeg p) 0) &&& (255 : Int32))), .val (.int (1 : Int32)), .val (.int (128 : Int32)), .val (.int (191 : Int32)), .val (.int ((1 : Int32) + (1 : Int32))), .val (.int ((xs.getD (Int32.toNatClampNeg (p + (1 : Int32))) 0) &&& (255 : Int32)))] d2_252 (by decide) rfl rfl rfl ?_
                  refine Go.goto 183 d2_255 (by decide) (by decide) ?_
                  refine Go.iload 185 d2_183 rfl rfl ?_
                  refine Go.iload 187 d2_185 rfl rfl ?_
                  refine Go.icmp_gt 258 190 d2_187 (by decide) (by decide) rfl (fun _ => ?_) (fun c => absurd c (by decide))
                  refine Go.iload_n 259 d2_258 rfl rfl ?_
                  refine Go.iload 261 d2_259 rfl rfl ?_
                  refine Go.iconst 262 (1) d2_261 (by decide) rfl ?_
                  refine Go.iadd 263 d2_262 rfl ?_
                  refine Go.iadd 264 d2_263 rfl ?_
                  refine Go.istore_n 265 #[.val (.ref a), .val (.int f), .val (.int t), .val (.int (p + ((1 : Int32) + (1 : Int32)))), .val (.int ((xs.getD (Int32.toNatClampNeg p) 0) &&& (255 : Int32))), .val (.int (1 : Int32)), .val (.int (128 : Int32)), .val (.int (191 : Int32)), .val (.int ((1 : Int32) + (1 : Int32))), .val (.int ((xs.getD (Int32.toNatClampNeg (p + (1 : Int32))) 0) &&& (255 : Int32)))] d2_264 rfl rfl ?_
                  refine Go.goto 2 d2_265 (by decide) (by decide) ?_
                  have hlt := c1
                  simp only [own_byE] at c2 c3 c6 c116 c118
                  simp only [own_lt32, own_eq32, own_k0, own_k1, own_k2, own_k3, own_k4, own_k7, own_k8, own_k63, own_k127, own_k128, own_k143, own_k144, own_k159, own_k160, own_k191, own_k192, own_k194, own_k223, own_k224, own_k237, own_k239, own_k240, own_k244, own_k248, own_k255, own_k2048, own_k55296, own_k57343, own_k65536, own_k1114111, a1, a2, a3, a4, d2, d3] at c1 c2 c3 c6 c114 c116 c118
                  have hnx : own_nx xs p t = p + 2 := by
                    unfold own_nx
                    rw [if_neg (by omega), if_pos (by omega)]
                  have ei : (p + ((1 : Int32) + (1 : Int32))) = p + 2 := congrArg (fun k => p + k) (by decide)
                  rw [ei]
                  have e9 : own_it xs t (n + 1) p = own_it xs t n (p + 2) := by rw [own_it_step (own_ixn hp0) hlt, hnx]
                  rw [e9]
                  exact (ih (p + 2) (by omega) (by omega) (by omega) (.val (.int ((xs.getD (Int32.toNatClampNeg p) 0) &&& (255 : Int32)))) (.val (.int (1 : Int32))) (.val (.int (128 : Int32))) (.val (.int (191 : Int32))) (.val (.int ((1 : Int32) + (1 : Int32)))) (.val (.int ((xs.getD (Int32.toNatClampNeg (p + (1 : Int32))) 0) &&& (255 : Int32)))) (Or.inr ⟨_, rfl, rfl⟩) (Or.inr ⟨_, rfl, rfl⟩) (Or.inr ⟨_, rfl, rfl⟩) (Or.inr ⟨_, rfl, rfl⟩) (Or.inr ⟨_, rfl, rfl⟩) (Or.inr ⟨_, rfl, rfl⟩)).le (by decide) (by decide)
                ·
                  refine Go.iload_n 251 d2_250 rfl rfl ?_
                  refine Go.ireturn d2_251 rfl (by decide) (by decide) ?_
                  have hlt := c1
                  simp only [own_byE] at c2 c3 c6 c116 c118
                  simp only [own_lt32, own_eq32, own_k0, own_k1, own_k2, own_k3, own_k4, own_k7, own_k8, own_k63, own_k127, own_k128, own_k143, own_k144, own_k159, own_k160, own_k191, own_k192, own_k194, own_k223, own_k224, own_k237, own_k239, own_k240, own_k244, own_k248, own_k255, own_k2048, own_k55296, own_k57343, own_k65536, own_k1114111, a1, a2, a3, a4, d2, d3] at c1 c2 c3 c6 c114 c116 c118
                  have hnx : own_nx xs p t = (p ^^^ -1) := by
                    unfold own_nx
                    rw [if_neg (by omega), if_neg (by omega), if_neg (by omega), if_neg (by omega)]
                  exact ⟨own_badr hnx (own_ixn hp0) hlt, rfl⟩
            ·
              refine Go.iload_n 199 d2_198 rfl rfl ?_
              refine Go.ireturn d2_199 rfl (by decide) (by decide) ?_
              have hlt := c1
              simp only [own_byE] at c2 c3 c6
              simp only [own_lt32, own_eq32, own_k0, own_k1, own_k2, own_k3, own_k4, own_k7, own_k8, own_k63, own_k127, own_k128, own_k143, own_k144, own_k159, own_k160, own_k191, own_k192, own_k194, own_k223, own_k224, own_k237, own_k239, own_k240, own_k244, own_k248, own_k255, own_k2048, own_k55296, own_k57343, own_k65536, own_k1114111, a1, a2, a3, a4, d2, d3] at c1 c2 c3 c6 c114
              have hnx : own_nx xs p t = (p ^^^ -1) := by
                unfold own_nx
                rw [if_neg (by omega), if_neg (by omega), if_neg (by omega), if_neg (by omega)]
              exact ⟨own_badr hnx (own_ixn hp0) hlt, rfl⟩
      ·
        refine Go.iinc 27 (1) #[.val (.ref a), .val (.int f), .val (.int t), .val (.int (p + (1 : Int32))), .val (.int ((xs.getD (Int32.toNatClampNeg p) 0) &&& (255 : Int32))), u5, u6, u7, u8, u9] d2_24 (by decide) rfl rfl rfl ?_
        refine Go.goto 2 d2_27 (by decide) (by decide) ?_
        have hlt := c1
        simp only [own_byE] at c2
        simp only [own_lt32, own_eq32, own_k0, own_k1, own_k2, own_k3, own_k4, own_k7, own_k8, own_k63, own_k127, own_k128, own_k143, own_k144, own_k159, own_k160, own_k191, own_k192, own_k194, own_k223, own_k224, own_k237, own_k239, own_k240, own_k244, own_k248, own_k255, own_k2048, own_k55296, own_k57343, own_k65536, own_k1114111, a1, a2, a3, a4, d2, d3] at c1 c2
        have hnx : own_nx xs p t = p + 1 := by
          unfold own_nx
          rw [if_pos (by omega)]
        have ei : (p + (1 : Int32)) = p + 1 := congrArg (fun k => p + k) (by decide)
        rw [ei]
        have e9 : own_it xs t (n + 1) p = own_it xs t n (p + 1) := by rw [own_it_step (own_ixn hp0) hlt, hnx]
        rw [e9]
        exact (ih (p + 1) (by omega) (by omega) (by omega) (.val (.int ((xs.getD (Int32.toNatClampNeg p) 0) &&& (255 : Int32)))) (u5) (u6) (u7) (u8) (u9) (Or.inr ⟨_, rfl, rfl⟩) hu5 hu6 hu7 hu8 hu9).le (by decide) (by decide)

theorem ef_k_fn (m : MethodId) (x0 : Addr) (x1 : Int32) (x2 : Int32) : entryFrame m #[(.ref x0), (.int x1), (.int x2)] 10 = mkF m 0 #[.val (.ref x0), .val (.int x1), .val (.int x2), .unset, .unset, .unset, .unset, .unset, .unset, .unset] [] := by first | (simp [entryFrame, mkF, argsToLocals, Value.category]; done) | rfl

set_option maxRecDepth 65536 in
set_option maxHeartbeats 40000000 in
theorem k_fn {l : Launch} {Z : State} {a0 : Array Value} (hw : ∀ d ∈ tables_1, d.before a0 Z = true) {xs : List Int32} (h : Heap) (hz : Z.heap.size ≤ h.size) (a : Addr) (p : Int32) (t : Int32) (fa0 : Ari Z h a .byte xs) (hl : xs.length = 8) (ht : t.toInt ≤ 8) (hp0 : 0 ≤ p.toInt) (hpt0 : p.toInt ≤ t.toInt)   : Go l Z (⟨"io/mereline/Csv", "firstNotUtf8", "([BII)I"⟩ : MethodName) prog_70_method_9_code 10 (Option.some Jvm.ClassFile.FieldType.int) ({ frames := 0, cells := 0, slots := 0, locals := 0 } : Room) (QI fun rz h' => rz = (own_res (own_it xs t 8 p)) ∧ h' = h) 0 0 h 0 #[.val (.ref a), .val (.int p), .val (.int t), .unset, .unset, .unset, .unset, .unset, .unset, .unset] [] := by
  refine Go.iload_n 1 d2_0 rfl rfl ?_
  refine Go.istore_n 2 #[.val (.ref a), .val (.int p), .val (.int t), .val (.int p), .unset, .unset, .unset, .unset, .unset, .unset] d2_1 rfl rfl ?_
  exact (k_loop hw h a p t xs fa0 hl ht 8 p hp0 hpt0 (by omega) .unset .unset .unset .unset .unset .unset (Or.inl rfl) (Or.inl rfl) (Or.inl rfl) (Or.inl rfl) (Or.inl rfl) (Or.inl rfl)).le (by decide) (by decide)

theorem d1_0 : decode method_3_code 0 = .ok (.lload_n 0, 1) := by decide +kernel
theorem d1_1 : decode method_3_code 1 = .ok (.bipush 8, 2) := by decide +kernel
theorem d1_3 : decode method_3_code 3 = .ok (.iload_n 3, 1) := by decide +kernel
theorem d1_4 : decode method_3_code 4 = .ok (.imul, 1) := by decide +kernel
theorem d1_5 : decode method_3_code 5 = .ok (.lushr, 1) := by decide +kernel
theorem d1_6 : decode method_3_code 6 = .ok (.l2i, 1) := by decide +kernel
theorem d1_7 : decode method_3_code 7 = .ok (.sipush 255, 3) := by decide +kernel
theorem d1_10 : decode method_3_code 10 = .ok (.iand, 1) := by decide +kernel
theorem d1_11 : decode method_3_code 11 = .ok (.istore 4, 2) := by decide +kernel
theorem d1_13 : decode method_3_code 13 = .ok (.iload_n 2, 1) := by decide +kernel
theorem d1_14 : decode method_3_code 14 = .ok (.iload_n 3, 1) := by decide +kernel
theorem d1_15 : decode method_3_code 15 = .ok (.iushr, 1) := by decide +kernel
theorem d1_16 : decode method_3_code 16 = .ok (.iconst 1, 1) := by decide +kernel
theorem d1_17 : decode method_3_code 17 = .ok (.iand, 1) := by decide +kernel
theorem d1_18 : decode method_3_code 18 = .ok (.ifCond .eq 14, 3) := by decide +kernel
theorem d1_21 : decode method_3_code 21 = .ok (.iload 4, 2) := by decide +kernel
theorem d1_23 : decode method_3_code 23 = .ok (.bipush 63, 2) := by decide +kernel
theorem d1_25 : decode method_3_code 25 = .ok (.iand, 1) := by decide +kernel
theorem d1_26 : decode method_3_code 26 = .ok (.sipush 128, 3) := by decide +kernel
theorem d1_29 : decode method_3_code 29 = .ok (.ior, 1) := by decide +kernel
theorem d1_30 : decode method_3_code 30 = .ok (.istore 4, 2) := by decide +kernel
theorem d1_32 : decode method_3_code 32 = .ok (.iload 4, 2) := by decide +kernel
theorem d1_34 : decode method_3_code 34 = .ok (.i2b, 1) := by decide +kernel
theorem d1_35 : decode method_3_code 35 = .ok (.ireturn, 1) := by decide +kernel

theorem pd1 : parseMethodDescriptor "(JII)B" = some ⟨[.long, .int, .int], some .byte⟩ := by decide +kernel
theorem pl1 : plainFor (⟨"io/mereline/CsvFirstNotUtf8PinLaw", "mk", "(JII)B"⟩ : MethodName) = true := by first | exact plainFor_of_name (by first | (simp [plainName, overriddenIn]; done) | decide +kernel) | decide +kernel

theorem ef_k_mk (m : MethodId) (x0 : Int64) (x1 : Int32) (x2 : Int32) : entryFrame m #[(.long x0), (.int x1), (.int x2)] 5 = mkF m 0 #[.val (.long x0), .second, .val (.int x1), .val (.int x2), .unset] [] := by first | (simp [entryFrame, mkF, argsToLocals, Value.category]; done) | rfl

set_option maxRecDepth 65536 in
set_option maxHeartbeats 40000000 in
theorem k_mk {l : Launch} {Z : State} {a0 : Array Value} (hw : ∀ d ∈ tables_1, d.before a0 Z = true)  (h : Heap) (hz : Z.heap.size ≤ h.size) (b : Int64) (s : Int32) (k : Int32)     : Go l Z (⟨"io/mereline/CsvFirstNotUtf8PinLaw", "mk", "(JII)B"⟩ : MethodName) method_3_code 5 (Option.some Jvm.ClassFile.FieldType.byte) ({ frames := 0, cells := 0, slots := 0, locals := 0 } : Room) (QI fun rz h' => True ∧ h' = h) 0 0 h 0 #[.val (.long b), .second, .val (.int s), .val (.int k), .unset] [] := by
  refine Go.lload_n 1 d1_0 rfl rfl ?_
  refine Go.bipush 3 (8) d1_1 (by decide) rfl ?_
  refine Go.iload_n 4 d1_3 rfl rfl ?_
  refine Go.imul 5 d1_4 rfl ?_
  refine Go.lushr 6 d1_5 rfl ?_
  refine Go.l2i 7 d1_6 rfl ?_
  refine Go.sipush 10 (255) d1_7 (by decide) rfl ?_
  refine Go.iand 11 d1_10 rfl ?_
  refine Go.istore 13 #[.val (.long b), .second, .val (.int s), .val (.int k), .val (.int ((Int64.toInt32 (XT.ushrL b ((8 : Int32) * k))) &&& (255 : Int32)))] d1_11 rfl rfl ?_
  refine Go.iload_n 14 d1_13 rfl rfl ?_
  refine Go.iload_n 15 d1_14 rfl rfl ?_
  refine Go.iushr 16 d1_15 rfl ?_
  refine Go.iconst 17 (1) d1_16 (by decide) rfl ?_
  refine Go.iand 18 d1_17 rfl ?_
  refine Go.if_eq 32 21 d1_18 (by decide) (by decide) rfl (fun c1 => ?_) (fun c1 => ?_)
  ·
    refine Go.iload 34 d1_32 rfl rfl ?_
    refine Go.i2b 35 d1_34 rfl ?_
    refine Go.nreturn (t := .byte) (z' := nar .byte (Int8.toInt32 (Int32.toInt8 ((Int64.toInt32 (XT.ushrL b ((8 : Int32) * k))) &&& (255 : Int32))))) d1_35 rfl (by simp) rfl (by decide) (by decide) ?_
    exact ⟨trivial, rfl⟩
  ·
    refine Go.iload 23 d1_21 rfl rfl ?_
    refine Go.bipush 25 (63) d1_23 (by decide) rfl ?_
    refine Go.iand 26 d1_25 rfl ?_
    refine Go.sipush 29 (128) d1_26 (by decide) rfl ?_
    refine Go.ior 30 d1_29 rfl ?_
    refine Go.istore 32 #[.val (.long b), .second, .val (.int s), .val (.int k), .val (.int ((((Int64.toInt32 (XT.ushrL b ((8 : Int32) * k))) &&& (255 : Int32)) &&& (63 : Int32)) ||| (128 : Int32)))] d1_30 rfl rfl ?_
    refine Go.iload 34 d1_32 rfl rfl ?_
    refine Go.i2b 35 d1_34 rfl ?_
    refine Go.nreturn (t := .byte) (z' := nar .byte (Int8.toInt32 (Int32.toInt8 ((((Int64.toInt32 (XT.ushrL b ((8 : Int32) * k))) &&& (255 : Int32)) &&& (63 : Int32)) ||| (128 : Int32))))) d1_35 rfl (by simp) rfl (by decide) (by decide) ?_
    exact ⟨trivial, rfl⟩

theorem ef_law0 (m : MethodId) (x0 : Int64) (x1 : Int32) (x2 : Int32) (x3 : Int32) : entryFrame m #[(.long x0), (.int x1), (.int x2), (.int x3)] maxLocals = mkF m 0 #[.val (.long x0), .second, .val (.int x1), .val (.int x2), .val (.int x3), .unset, .unset, .unset] [] := by first | (simp [entryFrame, mkF, argsToLocals, Value.category, maxLocals]; done) | rfl

set_option maxRecDepth 65536 in
set_option maxHeartbeats 40000000 in
theorem law0 {l : Launch} {Z : State} {a0 : Array Value} (hw : ∀ d ∈ tables_1, d.before a0 Z = true)  (h : Heap) (hz : Z.heap.size ≤ h.size) (i0 : Int64) (i1 : Int32) (i2 : Int32) (i3 : Int32)     : Go l Z x code maxLocals ret room_1 (QI fun z h' => z = 1) 0 0 h 0 #[.val (.long i0), .second, .val (.int i1), .val (.int i2), .val (.int i3), .unset, .unset, .unset] [] := by
  refine Go.bipush 2 (8) at_0 (by decide) rfl ?_
  refine Go.newI (cap := 8) (xs := [0, 0, 0, 0, 0, 0, 0, 0]) 4 at_2 (tw0 hw) rfl (by decide) (by decide) (by decide) rfl (by decide) (by decide) rfl (fun a1 h2 q3 E4 A5 => ?_)
  have ge6 : Z.heap.size ≤ a1 := (Eq.symm q3) ▸ hz
  have zs7 : Z.heap.size ≤ h2.size := Nat.le_trans hz E4.1
  refine Go.astore 6 #[.val (.long i0), .second, .val (.int i1), .val (.int i2), .val (.int i3), .val (.ref a1), .unset, .unset] at_4 rfl rfl rfl ?_
  refine Go.aload 8 at_6 rfl rfl rfl ?_
  refine Go.iconst 9 (0) at_8 (by decide) rfl ?_
  refine Go.lload_n 10 at_9 rfl rfl ?_
  refine Go.iload_n 11 at_10 rfl rfl ?_
  refine Go.iconst 12 (0) at_11 (by decide) rfl ?_
  refine Go.callSI [.long i0, .int i1, .int (0 : Int32)] [.int (0 : Int32), .ref a1] 15 at_12 (tw1 hw) (tw2 hw) (tw3 hw) (tw4 hw) pl1 (by decide) (lenOf pd1 rfl) rfl (fun m => ef_k_mk m i0 i1 (0 : Int32)) _ (k_mk hw h2 zs7 i0 i1 (0 : Int32)) 2 rfl (Nat.le_of_eq rfl) (by decide) (by decide) (by decide) (by decide) rfl ?_
  rintro z8 h9 ⟨p11, hhz8⟩
  rw [hhz8]
  refine Go.bastore (0) ([(nar .byte z8), 0, 0, 0, 0, 0, 0, 0]) 16 at_15 A5 (by decide) (by decide) (by decide : (0 : Nat) < 8) rfl ge6 rfl (fun h12 W13 A14 => ?_)
  have zs15 : Z.heap.size ≤ h12.size := W13.size ▸ zs7
  refine Go.aload 18 at_16 rfl rfl rfl ?_
  refine Go.iconst 19 (1) at_18 (by decide) rfl ?_
  refine Go.lload_n 20 at_19 rfl rfl ?_
  refine Go.iload_n 21 at_20 rfl rfl ?_
  refine Go.iconst 22 (1) at_21 (by decide) rfl ?_
  refine Go.callSI [.long i0, .int i1, .int (1 : Int32)] [.int (1 : Int32), .ref a1] 25 at_22 (tw1 hw) (tw2 hw) (tw3 hw) (tw4 hw) pl1 (by decide) (lenOf pd1 rfl) rfl (fun m => ef_k_mk m i0 i1 (1 : Int32)) _ (k_mk hw h12 zs15 i0 i1 (1 : Int32)) 2 rfl (Nat.le_of_eq rfl) (by decide) (by decide) (by decide) (by decide) rfl ?_
  rintro z16 h17 ⟨p19, hhz16⟩
  rw [hhz16]
  refine Go.bastore (1) ([(nar .byte z8), (nar .byte z16), 0, 0, 0, 0, 0, 0]) 26 at_25 A14 (by decide) (by decide) (by decide : (1 : Nat) < 8) rfl ge6 rfl (fun h20 W21 A22 => ?_)
  have zs23 : Z.heap.size ≤ h20.size := W21.size ▸ zs15
  refine Go.aload 28 at_26 rfl rfl rfl ?_
  refine Go.iconst 29 (2) at_28 (by decide) rfl ?_
  refine Go.lload_n 30 at_29 rfl rfl ?_
  refine Go.iload_n 31 at_30 rfl rfl ?_
  refine Go.iconst 32 (2) at_31 (by decide) rfl ?_
  refine Go.callSI [.long i0, .int i1, .int (2 : Int32)] [.int (2 : Int32), .ref a1] 35 at_32 (tw1 hw) (tw2 hw) (tw3 hw) (tw4 hw) pl1 (by decide) (lenOf pd1 rfl) rfl (fun m => ef_k_mk m i0 i1 (2 : Int32)) _ (k_mk hw h20 zs23 i0 i1 (2 : Int32)) 2 rfl (Nat.le_of_eq rfl) (by decide) (by decide) (by decide) (by decide) rfl ?_
  rintro z24 h25 ⟨p27, hhz24⟩
  rw [hhz24]
  refine Go.bastore (2) ([(nar .byte z8), (nar .byte z16), (nar .byte z24), 0, 0, 0, 0, 0]) 36 at_35 A22 (by decide) (by decide) (by decide : (2 : Nat) < 8) rfl ge6 rfl (fun h28 W29 A30 => ?_)
  have zs31 : Z.heap.size ≤ h28.size := W29.size ▸ zs23
  refine Go.aload 38 at_36 rfl rfl rfl ?_
  refine Go.iconst 39 (3) at_38 (by decide) rfl ?_
  refine Go.lload_n 40 at_39 rfl rfl ?_
  refine Go.iload_n 41 at_40 rfl rfl ?_
  refine Go.iconst 42 (3) at_41 (by decide) rfl ?_
  refine Go.callSI [.long i0, .int i1, .int (3 : Int32)] [.int (3 : Int32), .ref a1] 45 at_42 (tw1 hw) (tw2 hw) (tw3 hw) (tw4 hw) pl1 (by decide) (lenOf pd1 rfl) rfl (fun m => ef_k_mk m i0 i1 (3 : Int32)) _ (k_mk hw h28 zs31 i0 i1 (3 : Int32)) 2 rfl (Nat.le_of_eq rfl) (by decide) (by decide) (by decide) (by decide) rfl ?_
  rintro z32 h33 ⟨p35, hhz32⟩
  rw [hhz32]
  refine Go.bastore (3) ([(nar .byte z8), (nar .byte z16), (nar .byte z24), (nar .byte z32), 0, 0, 0, 0]) 46 at_45 A30 (by decide) (by decide) (by decide : (3 : Nat) < 8) rfl ge6 rfl (fun h36 W37 A38 => ?_)
  have zs39 : Z.heap.size ≤ h36.size := W37.size ▸ zs31
  refine Go.aload 48 at_46 rfl rfl rfl ?_
  refine Go.iconst 49 (4) at_48 (by decide) rfl ?_
  refine Go.lload_n 50 at_49 rfl rfl ?_
  refine Go.iload_n 51 at_50 rfl rfl ?_
  refine Go.iconst 52 (4) at_51 (by decide) rfl ?_
  refine Go.callSI [.long i0, .int i1, .int (4 : Int32)] [.int (4 : Int32), .ref a1] 55 at_52 (tw1 hw) (tw2 hw) (tw3 hw) (tw4 hw) pl1 (by decide) (lenOf pd1 rfl) rfl (fun m => ef_k_mk m i0 i1 (4 : Int32)) _ (k_mk hw h36 zs39 i0 i1 (4 : Int32)) 2 rfl (Nat.le_of_eq rfl) (by decide) (by decide) (by decide) (by decide) rfl ?_
  rintro z40 h41 ⟨p43, hhz40⟩
  rw [hhz40]
  refine Go.bastore (4) ([(nar .byte z8), (nar .byte z16), (nar .byte z24), (nar .byte z32), (nar .byte z40), 0, 0, 0]) 56 at_55 A38 (by decide) (by decide) (by decide : (4 : Nat) < 8) rfl ge6 rfl (fun h44 W45 A46 => ?_)
  have zs47 : Z.heap.size ≤ h44.size := W45.size ▸ zs39
  refine Go.aload 58 at_56 rfl rfl rfl ?_
  refine Go.iconst 59 (5) at_58 (by decide) rfl ?_
  refine Go.lload_n 60 at_59 rfl rfl ?_
  refine Go.iload_n 61 at_60 rfl rfl ?_
  refine Go.iconst 62 (5) at_61 (by decide) rfl ?_
  refine Go.callSI [.long i0, .int i1, .int (5 : Int32)] [.int (5 : Int32), .ref a1] 65 at_62 (tw1 hw) (tw2 hw) (tw3 hw) (tw4 hw) pl1 (by decide) (lenOf pd1 rfl) rfl (fun m => ef_k_mk m i0 i1 (5 : Int32)) _ (k_mk hw h44 zs47 i0 i1 (5 : Int32)) 2 rfl (Nat.le_of_eq rfl) (by decide) (by decide) (by decide) (by decide) rfl ?_
  rintro z48 h49 ⟨p51, hhz48⟩
  rw [hhz48]
  refine Go.bastore (5) ([(nar .byte z8), (nar .byte z16), (nar .byte z24), (nar .byte z32), (nar .byte z40), (nar .byte z48), 0, 0]) 66 at_65 A46 (by decide) (by decide) (by decide : (5 : Nat) < 8) rfl ge6 rfl (fun h52 W53 A54 => ?_)
  have zs55 : Z.heap.size ≤ h52.size := W53.size ▸ zs47
  refine Go.aload 68 at_66 rfl rfl rfl ?_
  refine Go.bipush 70 (6) at_68 (by decide) rfl ?_
  refine Go.lload_n 71 at_70 rfl rfl ?_
  refine Go.iload_n 72 at_71 rfl rfl ?_
  refine Go.bipush 74 (6) at_72 (by decide) rfl ?_
  refine Go.callSI [.long i0, .int i1, .int (6 : Int32)] [.int (6 : Int32), .ref a1] 77 at_74 (tw1 hw) (tw2 hw) (tw3 hw) (tw4 hw) pl1 (by decide) (lenOf pd1 rfl) rfl (fun m => ef_k_mk m i0 i1 (6 : Int32)) _ (k_mk hw h52 zs55 i0 i1 (6 : Int32)) 2 rfl (Nat.le_of_eq rfl) (by decide) (by decide) (by decide) (by decide) rfl ?_
  rintro z56 h57 ⟨p59, hhz56⟩
  rw [hhz56]
  refine Go.bastore (6) ([(nar .byte z8), (nar .byte z16), (nar .byte z24), (nar .byte z32), (nar .byte z40), (nar .byte z48), (nar .byte z56), 0]) 78 at_77 A54 (by decide) (by decide) (by decide : (6 : Nat) < 8) rfl ge6 rfl (fun h60 W61 A62 => ?_)
  have zs63 : Z.heap.size ≤ h60.size := W61.size ▸ zs55
  refine Go.aload 80 at_78 rfl rfl rfl ?_
  refine Go.bipush 82 (7) at_80 (by decide) rfl ?_
  refine Go.lload_n 83 at_82 rfl rfl ?_
  refine Go.iload_n 84 at_83 rfl rfl ?_
  refine Go.bipush 86 (7) at_84 (by decide) rfl ?_
  refine Go.callSI [.long i0, .int i1, .int (7 : Int32)] [.int (7 : Int32), .ref a1] 89 at_86 (tw1 hw) (tw2 hw) (tw3 hw) (tw4 hw) pl1 (by decide) (lenOf pd1 rfl) rfl (fun m => ef_k_mk m i0 i1 (7 : Int32)) _ (k_mk hw h60 zs63 i0 i1 (7 : Int32)) 2 rfl (Nat.le_of_eq rfl) (by decide) (by decide) (by decide) (by decide) rfl ?_
  rintro z64 h65 ⟨p67, hhz64⟩
  rw [hhz64]
  refine Go.bastore (7) ([(nar .byte z8), (nar .byte z16), (nar .byte z24), (nar .byte z32), (nar .byte z40), (nar .byte z48), (nar .byte z56), (nar .byte z64)]) 90 at_89 A62 (by decide) (by decide) (by decide : (7 : Nat) < 8) rfl ge6 rfl (fun h68 W69 A70 => ?_)
  have zs71 : Z.heap.size ≤ h68.size := W69.size ▸ zs63
  refine Go.iload_n 91 at_90 rfl rfl ?_
  refine Go.ldc 93 at_91 (tw5 hw) rfl ?_
  refine Go.iand 94 at_93 rfl ?_
  refine Go.bipush 96 (9) at_94 (by decide) rfl ?_
  refine Go.irem 97 at_96 (by decide) rfl ?_
  refine Go.nameI (fun v72 e73 => ?_)
  refine Go.istore 99 #[.val (.long i0), .second, .val (.int i1), .val (.int i2), .val (.int i3), .val (.ref a1), .val (.int v72), .unset] at_97 rfl rfl ?_
  refine Go.iload 101 at_99 rfl rfl ?_
  refine Go.iload 103 at_101 rfl rfl ?_
  refine Go.ldc 105 at_103 (tw5 hw) rfl ?_
  refine Go.iand 106 at_105 rfl ?_
  refine Go.bipush 108 (9) at_106 (by decide) rfl ?_
  refine Go.iload 110 at_108 rfl rfl ?_
  refine Go.isub 111 at_110 rfl ?_
  refine Go.irem 112 at_111 (by rw [e73]; exact (own_ft i2 i3).1) rfl ?_
  refine Go.iadd 113 at_112 rfl ?_
  refine Go.nameI (fun v74 e75 => ?_)
  refine Go.istore 115 #[.val (.long i0), .second, .val (.int i1), .val (.int i2), .val (.int i3), .val (.ref a1), .val (.int v72), .val (.int v74)] at_113 rfl rfl ?_
  obtain ⟨-, o1, o2, o3⟩ := own_ft i2 i3
  rw [← e73] at o1 o2 o3
  rw [← e75] at o2 o3
  refine Go.aload 117 at_115 rfl rfl rfl ?_
  refine Go.iload 119 at_117 rfl rfl ?_
  refine Go.iload 121 at_119 rfl rfl ?_
  refine Go.callSIp [.ref a1, .int v72, .int v74] [] 124 at_121 (tw6 hw) (tw7 hw) (tw8 hw) (tw9 hw) pl2 (by decide) (lenOf pd2 rfl) rfl (fun m => ef_k_fn m a1 v72 v74) _ (k_fn hw h68 zs71 a1 v72 v74 A70 rfl o3 o1 o2) 0 rfl (Nat.le_of_eq rfl) (by decide) (by decide) (by decide) (by decide) rfl ?_
  refine Go.aload 126 at_124 rfl rfl rfl ?_
  refine Go.iload 128 at_126 rfl rfl ?_
  refine Go.iload 130 at_128 rfl rfl ?_
  refine Go.callSIp [.ref a1, .int v72, .int v74] [.int (own_res (own_it [(nar .byte z8), (nar .byte z16), (nar .byte z24), (nar .byte z32), (nar .byte z40), (nar .byte z48), (nar .byte z56), (nar .byte z64)] v74 8 v72))] 133 at_130 (tw10 hw) (tw11 hw) (tw3 hw) (tw12 hw) pl3 (by decide) (lenOf pd3 rfl) rfl (fun m => ef_k_ref m a1 v72 v74) _ (k_ref hw h68 zs71 a1 v72 v74 A70 rfl o3) 1 rfl (Nat.le_of_eq rfl) (by decide) (by decide) (by decide) (by decide) rfl ?_
  refine Go.icmp_ne 140 136 at_133 (by decide) (by decide) rfl (fun c82 => ?_) (fun c82 => ?_)
  ·
    refine Go.iconst 141 (0) at_140 (by decide) rfl ?_
    refine Go.nreturn (t := .boolean) (z' := (0 : Int32)) at_141 rfl (by simp) (by decide) (by decide) (by decide) ?_
    exact absurd rfl c82
  ·
    refine Go.iconst 137 (1) at_136 (by decide) rfl ?_
    refine Go.goto 141 at_137 (by decide) (by decide) ?_
    refine Go.nreturn (t := .boolean) (z' := (1 : Int32)) at_141 rfl (by simp) (by decide) (by decide) (by decide) ?_
    rfl
set_option maxRecDepth 65536 in
set_option maxHeartbeats 40000000 in
theorem comes_1 {Post : Tables → Env → Array Value → State → Outcome → State → Prop} (hpost : ∀ tb e args s v u, (limb_1_1.after args s (.returned v) u = true ∧ limb_1_2.after args s (.returned v) u = true ∧ True) → FrameEnd s (.returned v) u (Jvm.fieldLocs frame_1_writes args s ++ Jvm.arrayLocs frame_1_arrays args s ++ Jvm.staticLocs frame_1_statics s) 16 128 → Post tb e args s (.returned v) u) :
    ArmFor flags0 classFile x code maxLocals ret World_1 tables_1 room_1 Calls_1 rest_1 Pre_1 Post := by
  intro l hfl _ _ p e ha hc hk s m args below hf hA hF happ hP
  obtain ⟨hcalls, hrest, hpre⟩ := hP
  obtain ⟨-, -, -, hnamed, -, -, -, hat⟩ := (Spec.applies_iff hf).mp happ
  obtain ⟨hg, hn⟩ := and_e (Cond.before_iff.mp (show (Jvm.Cond.and given_1 narrow_1).before args s = true from hpre))
  obtain ⟨h1, g0⟩ := and_e hg
  obtain ⟨w0, w1, w2, w3, rfl⟩ : ∃ w0 w1 w2 w3 : Value, args = #[w0, w1, w2, w3] := by
    have hs : args.size = 4 := by simpa [Cond.value, given_1] using h1
    obtain ⟨L⟩ := args
    match L, hs with
    | [w0, w1, w2, w3], _ => exact ⟨w0, w1, w2, w3, rfl⟩
  have hw := fun d (hd : d ∈ tables_1) => atoms_spec (ws := Jvm.Cond.code x code maxLocals ret :: tables_1) hat d (List.mem_cons_of_mem _ hd)
  obtain ⟨b0, g1⟩ := and_e g0
  obtain ⟨i0, ei0⟩ := isL_v b0
  obtain rfl : w0 = (.long i0) := Option.some.inj ei0
  obtain ⟨b1, g2⟩ := and_e g1
  obtain ⟨i1, ei1⟩ := is_v b1
  obtain rfl : w1 = (.int i1) := Option.some.inj ei1
  obtain ⟨b2, g3⟩ := and_e g2
  obtain ⟨i2, ei2⟩ := is_v b2
  obtain rfl : w2 = (.int i2) := Option.some.inj ei2
  have b3 := g3
  obtain ⟨i3, ei3⟩ := is_v b3
  obtain rfl : w3 = (.int i3) := Option.some.inj ei3
  have G := law0 (l := l) hw s.heap (Nat.le_refl _) i0 i1 i2 i3
  obtain ⟨n, o, h1, h2, h3, _, L, rfl, ⟨⟨z, rfl, rfl⟩, N⟩, hq⟩ := Go.met (as' := #[.long i0, .int i1, .int i2, .int i3]) (plainFor_of_name pnx) (fun m => ef_law0 m i0 i1 i2 i3) G tables_1 p e ha hc hk s m _ below hf ((Spec.applies_iff_loose hf).mp happ).1 ⟨rfl, State.Warmed39.refl s, rfl⟩ trivial
  refine ⟨n, _, h1, h2, h3, hpost _ _ _ _ _ _ ⟨Cond.after_iff.mpr rfl, Cond.after_iff.mpr (eq_i res_at (Term.int_eval (1)) rfl), trivial⟩ ⟨hq.1, hq.2.1, (hq.2.2.sift fun y hy => Or.inr (N y hy)).mono (by decide) (by decide)⟩⟩
theorem main_1_1 : Claimed_1_1 := comes_1 fun _ _ _ _ _ _ h hF => ⟨h.1, hF⟩
theorem main_1_2 : Claimed_1_2 := comes_1 fun _ _ _ _ _ _ h hF => ⟨h.2.1, hF⟩
end Jvm.Pilot.@@N@@
namespace Jvm.Pilot.@@N@@
open Jvm Jvm.ClassFile Sem Op Lib Jvm.Free Jvm.Stand Jvm.Pilot.@@N@@.Jvm.D
/-! MADE BY PROGRAM (witnessworld.py) out of the Statement's table words and the real class files: 9 classes; the members and pool entries that the words name. The judged class is class 1, her method 1. -/
namespace start1
open Jvm.ClassFile
def u (s : String) : CpInfo := .utf8 (stringToUtf16 s)
/-- a pool by its gaps: so many unusable entries, then the entry; so many at the end -/
def gap : Nat → List CpInfo → List CpInfo
  | 0, r => r
  | n + 1, r => .unusable :: gap n r
def poolList (es : List (Nat × CpInfo)) (last : Nat) : List CpInfo := es.foldr (fun e r => gap e.1 (e.2 :: r)) (gap last [])
def pool (es : List (Nat × CpInfo)) (last : Nat) : Array CpInfo := ⟨poolList es last⟩
def fileOf (pool : Array CpInfo) (this : Nat) (attrs : Array Attribute := #[]) (ms : Array MethodInfo := #[]) (fl : Nat := 33) (sup : Nat := 0) (ifs : Array Nat := #[]) (fds : Array FieldInfo := #[]) : ClassFile where
  minorVersion := 0
  majorVersion := 65
  constantPool := pool
  accessFlags := fl
  thisClass := this
  superClass := sup
  interfaces := ifs
  fields := fds
  methods := ms
  attributes := attrs
def plain (name : String) (sup : Option ClassId) : Class where
  name := name
  kind := .ordinary
  loader := none
  accessFlags := 33
  super := sup
  interfaces := #[]
  cf := none
  fields := #[]
  methods := #[]
  instanceTypes := #[]
  staticTypes := #[]
  resolved := #[]
  callSites := []
  init := .initialized
  statics := none
  mirror := none

def pool0 : Array CpInfo := pool [(5, u "<init>"), (0, u "()V"), (1, .class_ 10), (1, u "java/lang/Object")] 113

def k0m0 : Method := { name := "<init>", desc := "()V", sig := { parameters := [], returnType := none }, accessFlags := 1, code := none }
/-- java/lang/Object -/
def k0 : Class := { plain "java/lang/Object" none with
  accessFlags := 33
  interfaces := #[]
  cf := some (fileOf pool0 8 #[] #[{ accessFlags := 1, nameIndex := 5, descriptorIndex := 6, attributes := #[] }] 33 0 #[] #[])
  fields := #[]
  methods := #[k0m0]
  instanceTypes := #[]
  staticTypes := #[]
  resolved := Array.replicate 124 none
  statics := none }

def pool1 : Array CpInfo := pool [(2, .class_ 4), (1, u "java/lang/Object"), (0, u "<init>"), (0, u "()V"), (0, .methodref 8 9), (0, .class_ 10), (0, .nameAndType 11 12), (0, u "io/mereline/CsvFirstNotUtf8PinLaw"), (0, u "mk"), (0, u "(JII)B"), (0, .integer 2147483647), (0, .methodref 15 16), (0, .class_ 17), (0, .nameAndType 18 19), (0, u "io/mereline/Csv"), (0, u "firstNotUtf8"), (0, u "([BII)I"), (0, .methodref 8 21), (0, .nameAndType 22 19), (0, u "ref"), (0, .methodref 8 24), (0, .nameAndType 25 19), (0, u "adv"), (0, .methodref 8 27), (0, .nameAndType 28 19), (0, u "next"), (0, .integer 65536), (0, .integer 1114111), (0, .integer 55296), (0, .integer 57343), (2, u "law"), (0, u "(JIII)Z")] 5

def k1m0 : Method := { name := "<init>", desc := "()V", sig := { parameters := [], returnType := none }, accessFlags := 2, code := none }
def k1c1 : Code := { maxStack := 6, maxLocals := 8, code := code, exceptionTable := #[], attributes := #[] }
def k1m1 : Method := { name := "law", desc := "(JIII)Z", sig := { parameters := [.long, .int, .int, .int], returnType := some .boolean }, accessFlags := 9, code := some k1c1 }
def k1c2 : Code := { maxStack := 4, maxLocals := 5, code := method_3_code, exceptionTable := #[], attributes := #[] }
def k1m2 : Method := { name := "mk", desc := "(JII)B", sig := { parameters := [.long, .int, .int], returnType := some .byte }, accessFlags := 10, code := some k1c2 }
def k1c3 : Code := { maxStack := 3, maxLocals := 4, code := method_4_code, exceptionTable := #[], attributes := #[] }
def k1m3 : Method := { name := "ref", desc := "([BII)I", sig := { parameters := [(.array .byte), .int, .int], returnType := some .int }, accessFlags := 10, code := some k1c3 }
def k1c4 : Code := { maxStack := 3, maxLocals := 3, code := method_5_code, exceptionTable := #[], attributes := #[] }
def k1m4 : Method := { name := "adv", desc := "([BII)I", sig := { parameters := [(.array .byte), .int, .int], returnType := some .int }, accessFlags := 10, code := some k1c4 }
def k1c5 : Code := { maxStack := 3, maxLocals := 8, code := method_6_code, exceptionTable := #[], attributes := #[] }
def k1m5 : Method := { name := "next", desc := "([BII)I", sig := { parameters := [(.array .byte), .int, .int], returnType := some .int }, accessFlags := 10, code := some k1c5 }
/-- io/mereline/CsvFirstNotUtf8PinLaw -/
def k1 : Class := { plain "io/mereline/CsvFirstNotUtf8PinLaw" (some 0) with
  accessFlags := 49
  interfaces := #[]
  cf := some (fileOf pool1 8 #[] #[{ accessFlags := 2, nameIndex := 5, descriptorIndex := 6, attributes := #[] }, { accessFlags := 9, nameIndex := 35, descriptorIndex := 36, attributes := #[] }, { accessFlags := 10, nameIndex := 11, descriptorIndex := 12, attributes := #[] }, { accessFlags := 10, nameIndex := 22, descriptorIndex := 19, attributes := #[] }, { accessFlags := 10, nameIndex := 25, descriptorIndex := 19, attributes := #[] }, { accessFlags := 10, nameIndex := 28, descriptorIndex := 19, attributes := #[] }] 49 2 #[] #[])
  fields := #[]
  methods := #[k1m0, k1m1, k1m2, k1m3, k1m4, k1m5]
  instanceTypes := #[]
  staticTypes := #[]
  resolved := Array.replicate 42 none
  statics := none }

def pool2 : Array CpInfo := pool [(2, .class_ 4), (1, u "java/lang/Object"), (0, u "<init>"), (0, u "()V"), (25, .class_ 34), (1, u "io/mereline/Csv"), (71, u "firstNotUtf8"), (0, u "([BII)I"), (3, .class_ 112), (0, u "io/mereline/Csv$Reader"), (0, .class_ 114), (0, u "io/mereline/Csv$Record")] 17

def k2m0 : Method := { name := "<init>", desc := "()V", sig := { parameters := [], returnType := none }, accessFlags := 2, code := none }
def k2c1 : Code := { maxStack := 3, maxLocals := 10, code := prog_70_method_9_code, exceptionTable := #[], attributes := #[] }
def k2m1 : Method := { name := "firstNotUtf8", desc := "([BII)I", sig := { parameters := [(.array .byte), .int, .int], returnType := some .int }, accessFlags := 8, code := some k2c1 }
/-- io/mereline/Csv -/
def k2 : Class := { plain "io/mereline/Csv" (some 0) with
  accessFlags := 48
  interfaces := #[]
  cf := some (fileOf pool2 32 #[.nestMembers #[111, 113]] #[{ accessFlags := 2, nameIndex := 5, descriptorIndex := 6, attributes := #[] }, { accessFlags := 8, nameIndex := 106, descriptorIndex := 107, attributes := #[] }] 48 2 #[] #[])
  fields := #[]
  methods := #[k2m0, k2m1]
  instanceTypes := #[]
  staticTypes := #[]
  resolved := Array.replicate 132 none
  statics := none }

def pool3 : Array CpInfo := pool [(1, u "java/lang/Cloneable"), (0, .class_ 1), (0, u "java/lang/Object"), (0, .class_ 3)] 3

/-- java/lang/Cloneable -/
def k3 : Class := { plain "java/lang/Cloneable" (some 0) with
  accessFlags := 1537
  interfaces := #[]
  cf := some (fileOf pool3 2 #[] #[] 1537 4 #[] #[])
  fields := #[]
  methods := #[]
  instanceTypes := #[]
  staticTypes := #[]
  resolved := Array.replicate 8 none
  statics := none }

def pool4 : Array CpInfo := pool [(1, u "java/io/Serializable"), (0, .class_ 1), (0, u "java/lang/Object"), (0, .class_ 3)] 3

/-- java/io/Serializable -/
def k4 : Class := { plain "java/io/Serializable" (some 0) with
  accessFlags := 1537
  interfaces := #[]
  cf := some (fileOf pool4 2 #[] #[] 1537 4 #[] #[])
  fields := #[]
  methods := #[]
  instanceTypes := #[]
  staticTypes := #[]
  resolved := Array.replicate 8 none
  statics := none }

/-- the primitive byte -/
def k5 : Class := { plain "byte" none with kind := .primitive 'B', accessFlags := 0x411 }
/-- [B -/
def k6 : Class := { plain "[B" (some 0) with kind := .array 5 .byte, interfaces := #[3, 4], accessFlags := 1041 }

/-- the primitive int -/
def k7 : Class := { plain "int" none with kind := .primitive 'I', accessFlags := 0x411 }
/-- [I -/
def k8 : Class := { plain "[I" (some 0) with kind := .array 7 .int, interfaces := #[3, 4], accessFlags := 1041 }

def heap : Heap := #[]
def classes : Array Class := #[k0, k1, k2, k3, k4, k5, k6, k7, k8]
def interned : List (Array UInt16 × Addr) := []
def slotsUsed : Nat := 0
def theMethod : MethodId := ⟨1, 1⟩
def args0 : Array Value := #[.long 5, .int 6, .int 7, .int 3]
def aboutOver (below : List Frame) : State where
  vm := { classes := classes, interned := interned.toArray }
  heap := heap
  slotsUsed := slotsUsed
  threads := #[{ frames := .invoking theMethod args0 :: below }]
def below0 : List Frame := [.native { method := ⟨0, 0⟩, args := #[] }]
def about1 : State := aboutOver below0
def p0 : Program := .bare "" "" ""
def e0 : Env := launch0.env 0 0 0
theorem w_frames : about1.frames = Frame.invoking theMethod args0 :: below0 := rfl
set_option maxRecDepth 65536 in
theorem w_args : argsFit about1.vm theMethod args0 = true := by decide +kernel
set_option maxRecDepth 65536 in
theorem w_heap : heapFits about1 = true := by decide +kernel
set_option maxRecDepth 65536 in
theorem w_runnable : about1.curStatus? = some .runnable := by decide +kernel
set_option maxRecDepth 65536 in
theorem w_alone : about1.alone = true := by decide +kernel
set_option maxRecDepth 65536 in
theorem w_named : about1.methodNamed? x = some theMethod := by decide +kernel
set_option maxRecDepth 65536 in
theorem w_hears : about1.hears theMethod below0 = true := by decide +kernel
set_option maxRecDepth 65536 in
theorem w_ripe : about1.ripe theMethod args0 below0 = true := by decide +kernel
theorem w_running : about1.status = .running := rfl
set_option maxRecDepth 65536 in
theorem w_room : about1.hasRoom e0.platform room_1 = true :=
  launch0.hasRoom_least _ room_1 (by decide +kernel) (by decide +kernel) (by decide +kernel) (by decide +kernel) (by decide +kernel) (by decide +kernel)
theorem allAtoms_all (ts : List Jvm.Cond) (a : Array Jvm.Value) (st : Jvm.State) : (allAtoms ts).before a st = ts.all (fun c => c.before a st) := by
  induction ts with
  | nil => rfl
  | cons c t ih =>
    show (Jvm.Cond.and c (allAtoms t)).before a st = _
    rw [Jvm.Cond.before_and, ih, List.all_cons]
def words1 : List Jvm.Cond := Jvm.Cond.code x code maxLocals ret :: tables_1
/-- a 'code' word, met by the world's own term for the bytes: nothing is compared byte by byte -/
theorem code_word {y : MethodName} {bytes : ByteArray} {mx : Nat} {rt : Option FieldType} {a : Array Value} {s : State} {m : MethodId} {meth : Method} {c : Code} (h1 : s.methodNamed? y = some m) (h2 : s.vm.method? m = some meth) (h3 : meth.code = some c) (h4 : c.code = bytes)
    (h5 : (c.maxLocals == mx && c.exceptionTable.isEmpty && decide (c.maxStack ≤ mostOperands) && decide (meth.sig.returnType = rt) && !meth.locks && decide (parseMethodDescriptor y.desc = some meth.sig)) = true) : (Jvm.Cond.code y bytes mx rt).before a s = true := by
  simp only [Bool.and_eq_true, beq_iff_eq, Bool.not_eq_true', decide_eq_true_eq] at h5
  obtain ⟨⟨⟨⟨⟨g1, g2⟩, g3⟩, g4⟩, g5⟩, g6⟩ := h5
  simp [Cond.before, Cond.holds, Cond.value, h1, h2, h3, h4, g1, g2, g3, g4, g5, g6]
def isCode : Jvm.Cond → Bool
  | .code _ _ _ _ => true
  | _ => false
theorem all_split {L : List Jvm.Cond} {P : Jvm.Cond → Bool} (h1 : L.all (fun c => isCode c || P c) = true) (h2 : ∀ c ∈ L.filter isCode, P c = true) : L.all P = true := by
  refine List.all_eq_true.mpr fun c hc => ?_
  have h := List.all_eq_true.mp h1 c hc
  rcases Bool.eq_false_or_eq_true (isCode c) with hi | hi
  · exact h2 c (List.mem_filter.mpr ⟨hc, hi⟩)
  · simpa [hi] using h
set_option maxRecDepth 65536 in
theorem w_c0 : (Jvm.Cond.code x code maxLocals ret).before args0 about1 = true := code_word (m := ⟨1, 1⟩) (meth := k1m1) (c := k1c1) (by decide +kernel) rfl rfl rfl (by decide +kernel)
set_option maxRecDepth 65536 in
theorem w_c1 : (Jvm.Cond.code ({ cls := "io/mereline/CsvFirstNotUtf8PinLaw", name := "mk", desc := "(JII)B" } : Jvm.MethodName) method_3_code (5 : Nat) (Option.some Jvm.ClassFile.FieldType.byte)).before args0 about1 = true := code_word (m := ⟨1, 2⟩) (meth := k1m2) (c := k1c2) (by decide +kernel) rfl rfl rfl (by decide +kernel)
set_option maxRecDepth 65536 in
theorem w_c2 : (Jvm.Cond.code ({ cls := "io/mereline/Csv", name := "firstNotUtf8", desc := "([BII)I" } : Jvm.MethodName) prog_70_method_9_code (10 : Nat) (Option.some Jvm.ClassFile.FieldType.int)).before args0 about1 = true := code_word (m := ⟨2, 1⟩) (meth := k2m1) (c := k2c1) (by decide +kernel) rfl rfl rfl (by decide +kernel)
set_option maxRecDepth 65536 in
theorem w_c3 : (Jvm.Cond.code ({ cls := "io/mereline/CsvFirstNotUtf8PinLaw", name := "ref", desc := "([BII)I" } : Jvm.MethodName) method_4_code (4 : Nat) (Option.some Jvm.ClassFile.FieldType.int)).before args0 about1 = true := code_word (m := ⟨1, 3⟩) (meth := k1m3) (c := k1c3) (by decide +kernel) rfl rfl rfl (by decide +kernel)
set_option maxRecDepth 65536 in
theorem w_c4 : (Jvm.Cond.code ({ cls := "io/mereline/CsvFirstNotUtf8PinLaw", name := "adv", desc := "([BII)I" } : Jvm.MethodName) method_5_code (3 : Nat) (Option.some Jvm.ClassFile.FieldType.int)).before args0 about1 = true := code_word (m := ⟨1, 4⟩) (meth := k1m4) (c := k1c4) (by decide +kernel) rfl rfl rfl (by decide +kernel)
set_option maxRecDepth 65536 in
theorem w_c5 : (Jvm.Cond.code ({ cls := "io/mereline/CsvFirstNotUtf8PinLaw", name := "next", desc := "([BII)I" } : Jvm.MethodName) method_6_code (8 : Nat) (Option.some Jvm.ClassFile.FieldType.int)).before args0 about1 = true := code_word (m := ⟨1, 5⟩) (meth := k1m5) (c := k1c5) (by decide +kernel) rfl rfl rfl (by decide +kernel)
def codes1 : List Jvm.Cond := [Jvm.Cond.code x code maxLocals ret, Jvm.Cond.code ({ cls := "io/mereline/CsvFirstNotUtf8PinLaw", name := "mk", desc := "(JII)B" } : Jvm.MethodName) method_3_code (5 : Nat) (Option.some Jvm.ClassFile.FieldType.byte), Jvm.Cond.code ({ cls := "io/mereline/Csv", name := "firstNotUtf8", desc := "([BII)I" } : Jvm.MethodName) prog_70_method_9_code (10 : Nat) (Option.some Jvm.ClassFile.FieldType.int), Jvm.Cond.code ({ cls := "io/mereline/CsvFirstNotUtf8PinLaw", name := "ref", desc := "([BII)I" } : Jvm.MethodName) method_4_code (4 : Nat) (Option.some Jvm.ClassFile.FieldType.int), Jvm.Cond.code ({ cls := "io/mereline/CsvFirstNotUtf8PinLaw", name := "adv", desc := "([BII)I" } : Jvm.MethodName) method_5_code (3 : Nat) (Option.some Jvm.ClassFile.FieldType.int), Jvm.Cond.code ({ cls := "io/mereline/CsvFirstNotUtf8PinLaw", name := "next", desc := "([BII)I" } : Jvm.MethodName) method_6_code (8 : Nat) (Option.some Jvm.ClassFile.FieldType.int)]
set_option maxRecDepth 65536 in
theorem codes_eq : words1.filter isCode = codes1 := rfl
theorem w_codes : ∀ c ∈ words1.filter isCode, c.before args0 about1 = true := by
  rw [codes_eq]
  intro c hc
  simp only [codes1, List.mem_cons, List.not_mem_nil, or_false] at hc
  rcases hc with rfl | rfl | rfl | rfl | rfl | rfl
  · exact w_c0
  · exact w_c1
  · exact w_c2
  · exact w_c3
  · exact w_c4
  · exact w_c5
set_option maxRecDepth 65536 in
theorem w_t1 : words1.all (fun c => isCode c || c.before args0 about1) = true := by decide +kernel
theorem w_tables : (allAtoms (Jvm.Cond.code x code maxLocals ret :: tables_1)).before args0 about1 = true := by
  rw [allAtoms_all]
  show words1.all (fun c => c.before args0 about1) = true
  refine all_split ?_ w_codes
  rw [w_t1]
set_option maxRecDepth 65536 in
theorem w_case : (Jvm.Cond.and given_1 narrow_1).before args0 about1 = true := by decide +kernel
theorem w_applies : (headSpec (Jvm.Cond.code x code maxLocals ret :: tables_1) room_1).applies x e0.platform about1 = true :=
  (Spec.applies_iff w_frames).mpr ⟨w_running, w_runnable, w_alone, w_named, w_hears, w_ripe, w_room, w_tables⟩
theorem atStart : AtStart classFile x code maxLocals ret World_1 tables_1 room_1 Calls_1 rest_1 Pre_1 launch0 p0 e0 about1 theMethod args0 below0 :=
  ⟨lists_1, trivial, launch0.admits_env _ _ _, launch0.least_env, fairChoices_fair.cas, fairChoices_fair.clock, w_frames, w_args, w_heap, w_applies, trivial, trivial, w_case⟩
end start1
theorem witness_1 : WitnessClaimed_1 := ⟨start1.p0, start1.e0, start1.about1, start1.theMethod, start1.args0, start1.below0, start1.atStart⟩
end Jvm.Pilot.@@N@@
