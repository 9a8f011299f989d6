import JvmDerived
import JvmDerived.Pilot.@@N@@Statement
import JvmDerived.Pilot.@@N@@Code
set_option linter.unusedVariables false
set_option linter.unusedSimpArgs false

namespace Jvm.OwnGo
open Sem ClassFile Op Lib Jvm.Stand Jvm.Free Jvm.LawKit Jvm.RoadKit
/-- what is known of a body while it is walked -/
def Cx (Z : State) (y : MethodName) (code : ByteArray) (ml : Nat) (ret : Option FieldType) (p : Program) (s : State) (m : MethodId) (meth : Method) (c : Code) : Prop :=
  p.tables.exec = Jvm.exec ∧ c.code = code ∧ Z.Warmed39 s.vm ∧ s.vm.findClass y.cls = some m.cls ∧ c.maxLocals = ml ∧ meth.sig.returnType = ret ∧ meth.locks = false ∧ meth.name = y.name
/-- the start that the last Stand is over: the start itself, or (w) the start with tables that have interned -/
def OkW (w : Bool) (s s' T' : State) : Prop := s' = s ∨ (w = true ∧ ∃ (vm : Vm) (k1 : Nat), s' = s.setVm vm ∧ s.Since vm k1 ∧ k1 ≤ T'.heap.size)
/-- from the frame (pc, Ls, st) over the heap h, with at most k cells and n slots made so far, the body of y returns with Q -/
def GoB (w : Bool) (l : Launch) (Z : State) (y : MethodName) (code : ByteArray) (ml : Nat) (ret : Option FieldType) (R : Room) (Q : Option Value → Heap → Prop) (k n : Nat) (h : Heap) (pc : Nat) (Ls : Array Slot) (st : List Value) : Prop :=
  ∀ (p : Program) (e : Env) (s : State) (m : MethodId) (args : Array Value) (below : List Frame) (meth : Method) (c : Code), Cx Z y code ml ret p s m meth c →
  ∀ (T : State) (L : List Loc) (k' n' : Nat), Stand p l e R s m args below meth c T L k' n' → k' ≤ k → n' ≤ n → Fr Z.heap.size L → T.heap = h →
  ∃ (s' : State) (v : Option Value) (T' : State) (L' : List Loc) (k'' n'' : Nat), OkW w s s' T' ∧ Stand p l e R s' m args below meth c T' L' k'' n'' ∧ k'' ≤ R.cells ∧ n'' ≤ R.slots ∧ Fr Z.heap.size L' ∧ Q v T'.heap ∧ (ret = none → v = none) ∧
    ∀ fs, (∀ (f : JFrame) (acts : List Action), f.method = m → f.locked = none → f.entered = [] → (doReturn e (T'.setTop f) acts v).1 = T'.setFrames fs) → Steps p.tables e below (T.setTop (mkF m pc Ls st)) (T'.setFrames fs)
abbrev Go (l : Launch) (Z : State) (y : MethodName) (code : ByteArray) (ml : Nat) (ret : Option FieldType) (R : Room) (Q : Option Value → Heap → Prop) (k n : Nat) (h : Heap) (pc : Nat) (Ls : Array Slot) (st : List Value) : Prop := GoB false l Z y code ml ret R Q k n h pc Ls st
/-- the shapes of an answer -/
def QI (P : Int32 → Heap → Prop) (v : Option Value) (h : Heap) : Prop := ∃ z : Int32, v = some (.int z) ∧ P z h
def QJ (P : Int64 → Heap → Prop) (v : Option Value) (h : Heap) : Prop := ∃ z : Int64, v = some (.long z) ∧ P z h
def QR (P : Value → Heap → Prop) (v : Option Value) (h : Heap) : Prop := ∃ z : Value, v = some z ∧ P z h
def QV (P : Heap → Prop) (v : Option Value) (h : Heap) : Prop := v = none ∧ P h
section Laws
variable {wf : Bool} {l : Launch} {Z : State} {y : MethodName} {code : ByteArray} {ml : Nat} {ret : Option FieldType} {R : Room} {Q : Option Value → Heap → Prop} {k n : Nat} {h : Heap} {pc : Nat} {Ls : Array Slot} {st : List Value} {a0 : Array Value}
theorem GoB.pure {pc' : Nat} {Ls' : Array Slot} {st' : List Value} (g : GoB wf l Z y code ml ret R Q k n h pc' Ls' st')
    (f : ∀ (p : Program) (e : Env) (s : State) (m : MethodId) (args : Array Value) (below : List Frame) (meth : Method) (c : Code), Cx Z y code ml ret p s m meth c → ∀ (T : State) (L : List Loc) (k' n' : Nat), Stand p l e R s m args below meth c T L k' n' → T.heap = h → ∀ target, Steps p.tables e below (T.setTop (mkF m pc' Ls' st')) target → Steps p.tables e below (T.setTop (mkF m pc Ls st)) target) :
    GoB wf l Z y code ml ret R Q k n h pc Ls st := by
  intro p e s m args below meth c K T L k' n' X h1 h2 N hT
  obtain ⟨s', v, T', L', k'', n'', ok', X', b1, b2, N', q, hv, stp⟩ := g p e s m args below meth c K T L k' n' X h1 h2 N hT
  exact ⟨s', v, T', L', k'', n'', ok', X', b1, b2, N', q, hv, fun fs hl => f p e s m args below meth c K T L k' n' X hT _ (stp fs hl)⟩
/-- a step that moves the state: by a law that hands out the new Stand -/
theorem GoB.move {pc' : Nat} {Ls' : Array Slot} {st' : List Value} {kk nn : Nat} {P : Heap → Prop} (g : ∀ h', P h' → GoB wf l Z y code ml ret R Q kk nn h' pc' Ls' st')
    (f : ∀ (p : Program) (e : Env) (s : State) (m : MethodId) (args : Array Value) (below : List Frame) (meth : Method) (c : Code), Cx Z y code ml ret p s m meth c → ∀ (T : State) (L : List Loc) (k' n' : Nat), Stand p l e R s m args below meth c T L k' n' → k' ≤ k → n' ≤ n → Fr Z.heap.size L → T.heap = h →
      ∃ (T' : State) (L' : List Loc) (k'' n'' : Nat), Stand p l e R s m args below meth c T' L' k'' n'' ∧ k'' ≤ kk ∧ n'' ≤ nn ∧ Fr Z.heap.size L' ∧ P T'.heap ∧ ∀ target, Steps p.tables e below (T'.setTop (mkF m pc' Ls' st')) target → Steps p.tables e below (T.setTop (mkF m pc Ls st)) target) :
    GoB wf l Z y code ml ret R Q k n h pc Ls st := by
  intro p e s m args below meth c K T L k' n' X h1 h2 N hT
  obtain ⟨T1, L1, k1, n1, X1, c1, c2, N1, p1, s1⟩ := f p e s m args below meth c K T L k' n' X h1 h2 N hT
  obtain ⟨s', v, T', L', k'', n'', ok', X', b1, b2, N', q, hv, stp⟩ := g _ p1 p e s m args below meth c K T1 L1 k1 n1 X1 c1 c2 N1 rfl
  exact ⟨s', v, T', L', k'', n'', ok', X', b1, b2, N', q, hv, fun fs hl => s1 _ (stp fs hl)⟩
theorem GoB.le {k₀ n₀ : Nat} (g : GoB wf l Z y code ml ret R Q k n h pc Ls st) (hk : k₀ ≤ k) (hn : n₀ ≤ n) : GoB wf l Z y code ml ret R Q k₀ n₀ h pc Ls st :=
  fun p e s m args below meth c K T L k' n' X h1 h2 N hT => g p e s m args below meth c K T L k' n' X (Nat.le_trans h1 hk) (Nat.le_trans h2 hn) N hT
theorem GoB.mono {Q' : Option Value → Heap → Prop} (g : GoB wf l Z y code ml ret R Q k n h pc Ls st) (hq : ∀ v h', Q v h' → Q' v h') : GoB wf l Z y code ml ret R Q' k n h pc Ls st := by
  intro p e s m args below meth c K T L k' n' X h1 h2 N hT
  obtain ⟨s', v, T', L', k'', n'', ok', X', b1, b2, N', q, r⟩ := g p e s m args below meth c K T L k' n' X h1 h2 N hT
  exact ⟨s', v, T', L', k'', n'', ok', X', b1, b2, N', hq _ _ q, r⟩
theorem Go.nameI {x : Int32} (g : ∀ v : Int32, v = x → GoB wf l Z y code ml ret R Q k n h pc Ls (.int v :: st)) : GoB wf l Z y code ml ret R Q k n h pc Ls (.int x :: st) := g x rfl
theorem Go.nameJ {x : Int64} (g : ∀ v : Int64, v = x → GoB wf l Z y code ml ret R Q k n h pc Ls (.long v :: st)) : GoB wf l Z y code ml ret R Q k n h pc Ls (.long x :: st) := g x rfl

theorem Go.iadd {x z : Int32} (q : Nat) (hd : decode code pc = .ok (.iadd, 1))  (hq : pc + 1 = q) (g : GoB wf l Z y code ml ret R Q k n h q Ls (.int (x + z) :: st)) : GoB wf l Z y code ml ret R Q k n h pc Ls (.int z :: .int x :: st) := by
  subst hq; exact g.pure fun p e s m args below meth c K T L k' n' X hT t r => XS.iadd X.here K.1 rfl (hb K.2.1 hd) rfl  r
theorem Go.isub {x z : Int32} (q : Nat) (hd : decode code pc = .ok (.isub, 1))  (hq : pc + 1 = q) (g : GoB wf l Z y code ml ret R Q k n h q Ls (.int (x - z) :: st)) : GoB wf l Z y code ml ret R Q k n h pc Ls (.int z :: .int x :: st) := by
  subst hq; exact g.pure fun p e s m args below meth c K T L k' n' X hT t r => XS.isub X.here K.1 rfl (hb K.2.1 hd) rfl  r
theorem Go.iand {x z : Int32} (q : Nat) (hd : decode code pc = .ok (.iand, 1))  (hq : pc + 1 = q) (g : GoB wf l Z y code ml ret R Q k n h q Ls (.int (x &&& z) :: st)) : GoB wf l Z y code ml ret R Q k n h pc Ls (.int z :: .int x :: st) := by
  subst hq; exact g.pure fun p e s m args below meth c K T L k' n' X hT t r => XS.iand X.here K.1 rfl (hb K.2.1 hd) rfl  r
theorem Go.imul {x z : Int32} (q : Nat) (hd : decode code pc = .ok (.imul, 1))  (hq : pc + 1 = q) (g : GoB wf l Z y code ml ret R Q k n h q Ls (.int (x * z) :: st)) : GoB wf l Z y code ml ret R Q k n h pc Ls (.int z :: .int x :: st) := by
  subst hq; exact g.pure fun p e s m args below meth c K T L k' n' X hT t r => XS.imul X.here K.1 rfl (hb K.2.1 hd) rfl  r
theorem Go.ixor {x z : Int32} (q : Nat) (hd : decode code pc = .ok (.ixor, 1))  (hq : pc + 1 = q) (g : GoB wf l Z y code ml ret R Q k n h q Ls (.int (x ^^^ z) :: st)) : GoB wf l Z y code ml ret R Q k n h pc Ls (.int z :: .int x :: st) := by
  subst hq; exact g.pure fun p e s m args below meth c K T L k' n' X hT t r => XT.ixor X.here K.1 rfl (hb K.2.1 hd) rfl  r
theorem Go.ior {x z : Int32} (q : Nat) (hd : decode code pc = .ok (.ior, 1))  (hq : pc + 1 = q) (g : GoB wf l Z y code ml ret R Q k n h q Ls (.int (x ||| z) :: st)) : GoB wf l Z y code ml ret R Q k n h pc Ls (.int z :: .int x :: st) := by
  subst hq; exact g.pure fun p e s m args below meth c K T L k' n' X hT t r => XT.ior X.here K.1 rfl (hb K.2.1 hd) rfl  r
theorem Go.ishl {x z : Int32} (q : Nat) (hd : decode code pc = .ok (.ishl, 1))  (hq : pc + 1 = q) (g : GoB wf l Z y code ml ret R Q k n h q Ls (.int (x <<< (z &&& 31)) :: st)) : GoB wf l Z y code ml ret R Q k n h pc Ls (.int z :: .int x :: st) := by
  subst hq; exact g.pure fun p e s m args below meth c K T L k' n' X hT t r => XT.ishl X.here K.1 rfl (hb K.2.1 hd) rfl  r
theorem Go.ishr {x z : Int32} (q : Nat) (hd : decode code pc = .ok (.ishr, 1))  (hq : pc + 1 = q) (g : GoB wf l Z y code ml ret R Q k n h q Ls (.int (x >>> (z &&& 31)) :: st)) : GoB wf l Z y code ml ret R Q k n h pc Ls (.int z :: .int x :: st) := by
  subst hq; exact g.pure fun p e s m args below meth c K T L k' n' X hT t r => XT.ishr X.here K.1 rfl (hb K.2.1 hd) rfl  r
theorem Go.iushr {x z : Int32} (q : Nat) (hd : decode code pc = .ok (.iushr, 1))  (hq : pc + 1 = q) (g : GoB wf l Z y code ml ret R Q k n h q Ls (.int (XT.ushr x z) :: st)) : GoB wf l Z y code ml ret R Q k n h pc Ls (.int z :: .int x :: st) := by
  subst hq; exact g.pure fun p e s m args below meth c K T L k' n' X hT t r => XT.iushr X.here K.1 rfl (hb K.2.1 hd) rfl  r
theorem Go.idiv {x z : Int32} (q : Nat) (hd : decode code pc = .ok (.idiv, 1)) (hz : z ≠ 0) (hq : pc + 1 = q) (g : GoB wf l Z y code ml ret R Q k n h q Ls (.int (x / z) :: st)) : GoB wf l Z y code ml ret R Q k n h pc Ls (.int z :: .int x :: st) := by
  subst hq; exact g.pure fun p e s m args below meth c K T L k' n' X hT t r => XS.idiv X.here K.1 rfl (hb K.2.1 hd) rfl hz r
theorem Go.irem {x z : Int32} (q : Nat) (hd : decode code pc = .ok (.irem, 1)) (hz : z ≠ 0) (hq : pc + 1 = q) (g : GoB wf l Z y code ml ret R Q k n h q Ls (.int (x % z) :: st)) : GoB wf l Z y code ml ret R Q k n h pc Ls (.int z :: .int x :: st) := by
  subst hq; exact g.pure fun p e s m args below meth c K T L k' n' X hT t r => iremM X K.1 rfl (hb K.2.1 hd) rfl hz r
theorem Go.ineg {x : Int32} (q : Nat) (hd : decode code pc = .ok (.ineg, 1))  (hq : pc + 1 = q) (g : GoB wf l Z y code ml ret R Q k n h q Ls (.int (-x) :: st)) : GoB wf l Z y code ml ret R Q k n h pc Ls (.int x :: st) := by
  subst hq; exact g.pure fun p e s m args below meth c K T L k' n' X hT t r => XS.ineg X.here K.1 rfl (hb K.2.1 hd) rfl  r
theorem Go.ladd {x z : Int64} (q : Nat) (hd : decode code pc = .ok (.ladd, 1))  (hq : pc + 1 = q) (g : GoB wf l Z y code ml ret R Q k n h q Ls (.long (x + z) :: st)) : GoB wf l Z y code ml ret R Q k n h pc Ls (.long z :: .long x :: st) := by
  subst hq; exact g.pure fun p e s m args below meth c K T L k' n' X hT t r => XT.ladd X.here K.1 rfl (hb K.2.1 hd) rfl  r
theorem Go.lsub {x z : Int64} (q : Nat) (hd : decode code pc = .ok (.lsub, 1))  (hq : pc + 1 = q) (g : GoB wf l Z y code ml ret R Q k n h q Ls (.long (x - z) :: st)) : GoB wf l Z y code ml ret R Q k n h pc Ls (.long z :: .long x :: st) := by
  subst hq; exact g.pure fun p e s m args below meth c K T L k' n' X hT t r => XT.lsub X.here K.1 rfl (hb K.2.1 hd) rfl  r
theorem Go.lmul {x z : Int64} (q : Nat) (hd : decode code pc = .ok (.lmul, 1))  (hq : pc + 1 = q) (g : GoB wf l Z y code ml ret R Q k n h q Ls (.long (x * z) :: st)) : GoB wf l Z y code ml ret R Q k n h pc Ls (.long z :: .long x :: st) := by
  subst hq; exact g.pure fun p e s m args below meth c K T L k' n' X hT t r => XT.lmul X.here K.1 rfl (hb K.2.1 hd) rfl  r
theorem Go.land {x z : Int64} (q : Nat) (hd : decode code pc = .ok (.land, 1))  (hq : pc + 1 = q) (g : GoB wf l Z y code ml ret R Q k n h q Ls (.long (x &&& z) :: st)) : GoB wf l Z y code ml ret R Q k n h pc Ls (.long z :: .long x :: st) := by
  subst hq; exact g.pure fun p e s m args below meth c K T L k' n' X hT t r => XT.land X.here K.1 rfl (hb K.2.1 hd) rfl  r
theorem Go.lor {x z : Int64} (q : Nat) (hd : decode code pc = .ok (.lor, 1))  (hq : pc + 1 = q) (g : GoB wf l Z y code ml ret R Q k n h q Ls (.long (x ||| z) :: st)) : GoB wf l Z y code ml ret R Q k n h pc Ls (.long z :: .long x :: st) := by
  subst hq; exact g.pure fun p e s m args below meth c K T L k' n' X hT t r => XT.lor X.here K.1 rfl (hb K.2.1 hd) rfl  r
theorem Go.lxor {x z : Int64} (q : Nat) (hd : decode code pc = .ok (.lxor, 1))  (hq : pc + 1 = q) (g : GoB wf l Z y code ml ret R Q k n h q Ls (.long (x ^^^ z) :: st)) : GoB wf l Z y code ml ret R Q k n h pc Ls (.long z :: .long x :: st) := by
  subst hq; exact g.pure fun p e s m args below meth c K T L k' n' X hT t r => XT.lxor X.here K.1 rfl (hb K.2.1 hd) rfl  r
theorem Go.ldiv {x z : Int64} (q : Nat) (hd : decode code pc = .ok (.ldiv, 1)) (hz : z ≠ 0) (hq : pc + 1 = q) (g : GoB wf l Z y code ml ret R Q k n h q Ls (.long (x / z) :: st)) : GoB wf l Z y code ml ret R Q k n h pc Ls (.long z :: .long x :: st) := by
  subst hq; exact g.pure fun p e s m args below meth c K T L k' n' X hT t r => XT.ldiv X.here K.1 rfl (hb K.2.1 hd) rfl hz r
theorem Go.lrem {x z : Int64} (q : Nat) (hd : decode code pc = .ok (.lrem, 1)) (hz : z ≠ 0) (hq : pc + 1 = q) (g : GoB wf l Z y code ml ret R Q k n h q Ls (.long (x - (x / z) * z) :: st)) : GoB wf l Z y code ml ret R Q k n h pc Ls (.long z :: .long x :: st) := by
  subst hq; exact g.pure fun p e s m args below meth c K T L k' n' X hT t r => XT.lrem X.here K.1 rfl (hb K.2.1 hd) rfl hz r
theorem Go.lneg {x : Int64} (q : Nat) (hd : decode code pc = .ok (.lneg, 1))  (hq : pc + 1 = q) (g : GoB wf l Z y code ml ret R Q k n h q Ls (.long (-x) :: st)) : GoB wf l Z y code ml ret R Q k n h pc Ls (.long x :: st) := by
  subst hq; exact g.pure fun p e s m args below meth c K T L k' n' X hT t r => XT.lneg X.here K.1 rfl (hb K.2.1 hd) rfl  r
theorem Go.lshl {x : Int64} {z : Int32} (q : Nat) (hd : decode code pc = .ok (.lshl, 1))  (hq : pc + 1 = q) (g : GoB wf l Z y code ml ret R Q k n h q Ls (.long (x <<< (z.toInt64 &&& 63)) :: st)) : GoB wf l Z y code ml ret R Q k n h pc Ls (.int z :: .long x :: st) := by
  subst hq; exact g.pure fun p e s m args below meth c K T L k' n' X hT t r => XT.lshl X.here K.1 rfl (hb K.2.1 hd) rfl  r
theorem Go.lshr {x : Int64} {z : Int32} (q : Nat) (hd : decode code pc = .ok (.lshr, 1))  (hq : pc + 1 = q) (g : GoB wf l Z y code ml ret R Q k n h q Ls (.long (x >>> (z.toInt64 &&& 63)) :: st)) : GoB wf l Z y code ml ret R Q k n h pc Ls (.int z :: .long x :: st) := by
  subst hq; exact g.pure fun p e s m args below meth c K T L k' n' X hT t r => XT.lshr X.here K.1 rfl (hb K.2.1 hd) rfl  r
theorem Go.lushr {x : Int64} {z : Int32} (q : Nat) (hd : decode code pc = .ok (.lushr, 1))  (hq : pc + 1 = q) (g : GoB wf l Z y code ml ret R Q k n h q Ls (.long (XT.ushrL x z) :: st)) : GoB wf l Z y code ml ret R Q k n h pc Ls (.int z :: .long x :: st) := by
  subst hq; exact g.pure fun p e s m args below meth c K T L k' n' X hT t r => XT.lushr X.here K.1 rfl (hb K.2.1 hd) rfl  r
theorem Go.lcmp {x z : Int64} (q : Nat) (hd : decode code pc = .ok (.lcmp, 1))  (hq : pc + 1 = q) (g : GoB wf l Z y code ml ret R Q k n h q Ls (.int (XT.cmpL x z) :: st)) : GoB wf l Z y code ml ret R Q k n h pc Ls (.long z :: .long x :: st) := by
  subst hq; exact g.pure fun p e s m args below meth c K T L k' n' X hT t r => XT.lcmp X.here K.1 rfl (hb K.2.1 hd) rfl  r
theorem Go.i2l {x : Int32} (q : Nat) (hd : decode code pc = .ok (.i2l, 1))  (hq : pc + 1 = q) (g : GoB wf l Z y code ml ret R Q k n h q Ls (.long x.toInt64 :: st)) : GoB wf l Z y code ml ret R Q k n h pc Ls (.int x :: st) := by
  subst hq; exact g.pure fun p e s m args below meth c K T L k' n' X hT t r => XT.i2l X.here K.1 rfl (hb K.2.1 hd) rfl  r
theorem Go.l2i {x : Int64} (q : Nat) (hd : decode code pc = .ok (.l2i, 1))  (hq : pc + 1 = q) (g : GoB wf l Z y code ml ret R Q k n h q Ls (.int x.toInt32 :: st)) : GoB wf l Z y code ml ret R Q k n h pc Ls (.long x :: st) := by
  subst hq; exact g.pure fun p e s m args below meth c K T L k' n' X hT t r => XT.l2i X.here K.1 rfl (hb K.2.1 hd) rfl  r
theorem Go.i2b {x : Int32} (q : Nat) (hd : decode code pc = .ok (.i2b, 1))  (hq : pc + 1 = q) (g : GoB wf l Z y code ml ret R Q k n h q Ls (.int x.toInt8.toInt32 :: st)) : GoB wf l Z y code ml ret R Q k n h pc Ls (.int x :: st) := by
  subst hq; exact g.pure fun p e s m args below meth c K T L k' n' X hT t r => XT.i2b X.here K.1 rfl (hb K.2.1 hd) rfl  r
theorem Go.i2c {x : Int32} (q : Nat) (hd : decode code pc = .ok (.i2c, 1))  (hq : pc + 1 = q) (g : GoB wf l Z y code ml ret R Q k n h q Ls (.int x.toUInt32.toUInt16.toUInt32.toInt32 :: st)) : GoB wf l Z y code ml ret R Q k n h pc Ls (.int x :: st) := by
  subst hq; exact g.pure fun p e s m args below meth c K T L k' n' X hT t r => XT.i2c X.here K.1 rfl (hb K.2.1 hd) rfl  r
theorem Go.i2s {x : Int32} (q : Nat) (hd : decode code pc = .ok (.i2s, 1))  (hq : pc + 1 = q) (g : GoB wf l Z y code ml ret R Q k n h q Ls (.int x.toInt16.toInt32 :: st)) : GoB wf l Z y code ml ret R Q k n h pc Ls (.int x :: st) := by
  subst hq; exact g.pure fun p e s m args below meth c K T L k' n' X hT t r => XT.i2s X.here K.1 rfl (hb K.2.1 hd) rfl  r
theorem Go.pop {x : Value} (q : Nat) (hd : decode code pc = .ok (.pop, 1)) (hc : x.category = 1) (hq : pc + 1 = q) (g : GoB wf l Z y code ml ret R Q k n h q Ls (st)) : GoB wf l Z y code ml ret R Q k n h pc Ls (x :: st) := by
  subst hq; exact g.pure fun p e s m args below meth c K T L k' n' X hT t r => XT.pop X.here K.1 rfl (hb K.2.1 hd) rfl hc r
theorem Go.dup {x : Value} (q : Nat) (hd : decode code pc = .ok (.dup, 1)) (hc : x.category = 1) (hq : pc + 1 = q) (g : GoB wf l Z y code ml ret R Q k n h q Ls (x :: x :: st)) : GoB wf l Z y code ml ret R Q k n h pc Ls (x :: st) := by
  subst hq; exact g.pure fun p e s m args below meth c K T L k' n' X hT t r => XS.dup X.here K.1 rfl (hb K.2.1 hd) rfl hc r
theorem Go.dupX1 {x z : Value} (q : Nat) (hd : decode code pc = .ok (.dup_x1, 1)) (hc : x.category = 1) (hc' : z.category = 1) (hq : pc + 1 = q) (g : GoB wf l Z y code ml ret R Q k n h q Ls (x :: z :: x :: st)) : GoB wf l Z y code ml ret R Q k n h pc Ls (x :: z :: st) := by
  subst hq; exact g.pure fun p e s m args below meth c K T L k' n' X hT t r => XT.dupX1 X.here K.1 rfl (hb K.2.1 hd) rfl hc hc' r
theorem Go.dup2 {x z : Value} (q : Nat) (hd : decode code pc = .ok (.dup2, 1)) (hc : x.category = 1) (hc' : z.category = 1) (hq : pc + 1 = q) (g : GoB wf l Z y code ml ret R Q k n h q Ls (x :: z :: x :: z :: st)) : GoB wf l Z y code ml ret R Q k n h pc Ls (x :: z :: st) := by
  subst hq; exact g.pure fun p e s m args below meth c K T L k' n' X hT t r => XT.dup2 X.here K.1 rfl (hb K.2.1 hd) rfl hc hc' r
theorem Go.dup2L {x : Int64} (q : Nat) (hd : decode code pc = .ok (.dup2, 1))  (hq : pc + 1 = q) (g : GoB wf l Z y code ml ret R Q k n h q Ls (.long x :: .long x :: st)) : GoB wf l Z y code ml ret R Q k n h pc Ls (.long x :: st) := by
  subst hq; exact g.pure fun p e s m args below meth c K T L k' n' X hT t r => XT.dup2L X.here K.1 rfl (hb K.2.1 hd) rfl  r
theorem Go.iconst {i : Int} (q : Nat) (v : Int32) (hd : decode code pc = .ok (.iconst i, 1)) (hv : Int32.ofInt i = v) (hq : pc + 1 = q) (g : GoB wf l Z y code ml ret R Q k n h q Ls (.int v :: st)) : GoB wf l Z y code ml ret R Q k n h pc Ls st := by
  subst hq; exact g.pure fun p e s m args below meth c K T L k' n' X hT t r => XT.iconstV X.here K.1 rfl v (hb K.2.1 hd) hv r
theorem Go.bipush {i : Int} (q : Nat) (v : Int32) (hd : decode code pc = .ok (.bipush i, 2)) (hv : (Int8.ofInt i).toInt32 = v) (hq : pc + 2 = q) (g : GoB wf l Z y code ml ret R Q k n h q Ls (.int v :: st)) : GoB wf l Z y code ml ret R Q k n h pc Ls st := by
  subst hq; exact g.pure fun p e s m args below meth c K T L k' n' X hT t r => XT.bipushV X.here K.1 rfl v (hb K.2.1 hd) hv r
theorem Go.sipush {i : Int} (q : Nat) (v : Int32) (hd : decode code pc = .ok (.sipush i, 3)) (hv : (Int16.ofInt i).toInt32 = v) (hq : pc + 3 = q) (g : GoB wf l Z y code ml ret R Q k n h q Ls (.int v :: st)) : GoB wf l Z y code ml ret R Q k n h pc Ls st := by
  subst hq; exact g.pure fun p e s m args below meth c K T L k' n' X hT t r => XT.sipushV X.here K.1 rfl v (hb K.2.1 hd) hv r
theorem Go.lconst {i : Fin 2} (q : Nat) (v : Int64) (hd : decode code pc = .ok (.lconst i, 1)) (hv : Int64.ofNat i = v) (hq : pc + 1 = q) (g : GoB wf l Z y code ml ret R Q k n h q Ls (.long v :: st)) : GoB wf l Z y code ml ret R Q k n h pc Ls st := by
  subst hq; exact g.pure fun p e s m args below meth c K T L k' n' X hT t r => XT.lconstV X.here K.1 rfl v (hb K.2.1 hd) hv r
theorem Go.aconst_null (q : Nat) (hd : decode code pc = .ok (.aconst_null, 1)) (hq : pc + 1 = q) (g : GoB wf l Z y code ml ret R Q k n h q Ls (.null :: st)) : GoB wf l Z y code ml ret R Q k n h pc Ls st := by
  subst hq; exact g.pure fun p e s m args below meth c K T L k' n' X hT t r => XS.aconstNull X.here K.1 rfl (hb K.2.1 hd) r
theorem Go.ldc {i : Nat} {v : Int32} (q : Nat) (hd : decode code pc = .ok (.ldc i, 2)) (w : (Cond.constant y.cls i v).before a0 Z = true) (hq : pc + 2 = q) (g : GoB wf l Z y code ml ret R Q k n h q Ls (.int v :: st)) : GoB wf l Z y code ml ret R Q k n h pc Ls st := by
  subst hq; exact g.pure fun p e s m args below meth c K T L k' n' X hT t r => X.ldcI K.1 K.2.2.2.1 (mvT K.2.2.1 w) rfl (hb K.2.1 hd) r
theorem Go.ldc_w {i : Nat} {v : Int32} (q : Nat) (hd : decode code pc = .ok (.ldc_w i, 3)) (w : (Cond.constant y.cls i v).before a0 Z = true) (hq : pc + 3 = q) (g : GoB wf l Z y code ml ret R Q k n h q Ls (.int v :: st)) : GoB wf l Z y code ml ret R Q k n h pc Ls st := by
  subst hq; exact g.pure fun p e s m args below meth c K T L k' n' X hT t r => X.ldcWI K.1 K.2.2.2.1 (mvT K.2.2.1 w) rfl (hb K.2.1 hd) r
theorem Go.ldc2_w {i : Nat} {v : Int64} (q : Nat) (hd : decode code pc = .ok (.ldc2_w i, 3)) (w : (Cond.constantLong y.cls i v).before a0 Z = true) (hq : pc + 3 = q) (g : GoB wf l Z y code ml ret R Q k n h q Ls (.long v :: st)) : GoB wf l Z y code ml ret R Q k n h pc Ls st := by
  subst hq; exact g.pure fun p e s m args below meth c K T L k' n' X hT t r => X.ldc2J K.1 K.2.2.2.1 (mvT K.2.2.1 w) rfl (hb K.2.1 hd) r
theorem Go.iload {i : Nat} {v : Int32} (q : Nat) (hd : decode code pc = .ok (.iload i, 2)) (hl : Ls[i]? = some (.val (.int v))) (hq : pc + 2 = q) (g : GoB wf l Z y code ml ret R Q k n h q Ls (.int v :: st)) : GoB wf l Z y code ml ret R Q k n h pc Ls st := by
  subst hq; exact g.pure fun p e s m args below meth c K T L k' n' X hT t r => XS.iload X.here K.1 rfl (hb K.2.1 hd) hl r
theorem Go.iload_n {i : Fin 4} {v : Int32} (q : Nat) (hd : decode code pc = .ok (.iload_n i, 1)) (hl : Ls[i.val]? = some (.val (.int v))) (hq : pc + 1 = q) (g : GoB wf l Z y code ml ret R Q k n h q Ls (.int v :: st)) : GoB wf l Z y code ml ret R Q k n h pc Ls st := by
  subst hq; exact g.pure fun p e s m args below meth c K T L k' n' X hT t r => XS.iloadN X.here K.1 rfl (hb K.2.1 hd) hl r
theorem Go.lload {i : Nat} {v : Int64} (q : Nat) (hd : decode code pc = .ok (.lload i, 2)) (hl : Ls[i]? = some (.val (.long v))) (hq : pc + 2 = q) (g : GoB wf l Z y code ml ret R Q k n h q Ls (.long v :: st)) : GoB wf l Z y code ml ret R Q k n h pc Ls st := by
  subst hq; exact g.pure fun p e s m args below meth c K T L k' n' X hT t r => XT.lload X.here K.1 rfl (hb K.2.1 hd) hl r
theorem Go.lload_n {i : Fin 4} {v : Int64} (q : Nat) (hd : decode code pc = .ok (.lload_n i, 1)) (hl : Ls[i.val]? = some (.val (.long v))) (hq : pc + 1 = q) (g : GoB wf l Z y code ml ret R Q k n h q Ls (.long v :: st)) : GoB wf l Z y code ml ret R Q k n h pc Ls st := by
  subst hq; exact g.pure fun p e s m args below meth c K T L k' n' X hT t r => XT.lloadN X.here K.1 rfl (hb K.2.1 hd) hl r
theorem Go.aload {i : Nat} {v : Value} (q : Nat) (hd : decode code pc = .ok (.aload i, 2)) (hl : Ls[i]? = some (.val v)) (hv : v.isRef = true) (hq : pc + 2 = q) (g : GoB wf l Z y code ml ret R Q k n h q Ls (v :: st)) : GoB wf l Z y code ml ret R Q k n h pc Ls st := by
  subst hq; exact g.pure fun p e s m args below meth c K T L k' n' X hT t r => XS.aload X.here K.1 rfl (hb K.2.1 hd) hl hv r
theorem Go.aload_n {i : Fin 4} {v : Value} (q : Nat) (hd : decode code pc = .ok (.aload_n i, 1)) (hl : Ls[i.val]? = some (.val v)) (hv : v.isRef = true) (hq : pc + 1 = q) (g : GoB wf l Z y code ml ret R Q k n h q Ls (v :: st)) : GoB wf l Z y code ml ret R Q k n h pc Ls st := by
  subst hq; exact g.pure fun p e s m args below meth c K T L k' n' X hT t r => XS.aloadN X.here K.1 rfl (hb K.2.1 hd) hl hv r
theorem Go.istore {i : Nat} {v : Int32} (q : Nat) (Ls' : Array Slot) (hd : decode code pc = .ok (.istore i, 2)) (hl : storeLocals Ls i (.int v) = some Ls') (hq : pc + 2 = q) (g : GoB wf l Z y code ml ret R Q k n h q Ls' st) : GoB wf l Z y code ml ret R Q k n h pc Ls (.int v :: st) := by
  subst hq; exact g.pure fun p e s m args below meth c K T L k' n' X hT t r => XS.istore X.here K.1 rfl (hb K.2.1 hd) rfl hl r
theorem Go.istore_n {i : Fin 4} {v : Int32} (q : Nat) (Ls' : Array Slot) (hd : decode code pc = .ok (.istore_n i, 1)) (hl : storeLocals Ls i.val (.int v) = some Ls') (hq : pc + 1 = q) (g : GoB wf l Z y code ml ret R Q k n h q Ls' st) : GoB wf l Z y code ml ret R Q k n h pc Ls (.int v :: st) := by
  subst hq; exact g.pure fun p e s m args below meth c K T L k' n' X hT t r => XS.istoreN X.here K.1 rfl (hb K.2.1 hd) rfl hl r
theorem Go.lstore {i : Nat} {v : Int64} (q : Nat) (Ls' : Array Slot) (hd : decode code pc = .ok (.lstore i, 2)) (hl : storeLocals Ls i (.long v) = some Ls') (hq : pc + 2 = q) (g : GoB wf l Z y code ml ret R Q k n h q Ls' st) : GoB wf l Z y code ml ret R Q k n h pc Ls (.long v :: st) := by
  subst hq; exact g.pure fun p e s m args below meth c K T L k' n' X hT t r => XT.lstore X.here K.1 rfl (hb K.2.1 hd) rfl hl r
theorem Go.lstore_n {i : Fin 4} {v : Int64} (q : Nat) (Ls' : Array Slot) (hd : decode code pc = .ok (.lstore_n i, 1)) (hl : storeLocals Ls i.val (.long v) = some Ls') (hq : pc + 1 = q) (g : GoB wf l Z y code ml ret R Q k n h q Ls' st) : GoB wf l Z y code ml ret R Q k n h pc Ls (.long v :: st) := by
  subst hq; exact g.pure fun p e s m args below meth c K T L k' n' X hT t r => XT.lstoreN X.here K.1 rfl (hb K.2.1 hd) rfl hl r
theorem Go.astore {i : Nat} {v : Value} (q : Nat) (Ls' : Array Slot) (hd : decode code pc = .ok (.astore i, 2)) (hv : v.isRef = true) (hl : storeLocals Ls i v = some Ls') (hq : pc + 2 = q) (g : GoB wf l Z y code ml ret R Q k n h q Ls' st) : GoB wf l Z y code ml ret R Q k n h pc Ls (v :: st) := by
  subst hq; exact g.pure fun p e s m args below meth c K T L k' n' X hT t r => XS.astore X.here K.1 rfl (hb K.2.1 hd) rfl hv hl r
theorem Go.astore_n {i : Fin 4} {v : Value} (q : Nat) (Ls' : Array Slot) (hd : decode code pc = .ok (.astore_n i, 1)) (hv : v.isRef = true) (hl : storeLocals Ls i.val v = some Ls') (hq : pc + 1 = q) (g : GoB wf l Z y code ml ret R Q k n h q Ls' st) : GoB wf l Z y code ml ret R Q k n h pc Ls (v :: st) := by
  subst hq; exact g.pure fun p e s m args below meth c K T L k' n' X hT t r => XS.astoreN X.here K.1 rfl (hb K.2.1 hd) rfl hv hl r
theorem Go.iinc {i : Nat} {cst : Int} {x : Int32} (q : Nat) (v : Int32) (Ls' : Array Slot) (hd : decode code pc = .ok (.iinc i cst, 3)) (hv : Int32.ofInt cst = v) (hl : Ls[i]? = some (.val (.int x))) (hl' : storeLocals Ls i (.int (x + v)) = some Ls') (hq : pc + 3 = q) (g : GoB wf l Z y code ml ret R Q k n h q Ls' st) : GoB wf l Z y code ml ret R Q k n h pc Ls st := by
  subst hq; exact g.pure fun p e s m args below meth c K T L k' n' X hT t r => XT.iincV X.here K.1 rfl v (hb K.2.1 hd) hv hl hl' r
theorem Go.goto {o : Int} (q : Nat) (hd : decode code pc = .ok (.goto o, 3)) (ho : 0 ≤ (pc : Int) + o) (hq : ((pc : Int) + o).toNat = q) (g : GoB wf l Z y code ml ret R Q k n h q Ls st) : GoB wf l Z y code ml ret R Q k n h pc Ls st :=
  g.pure fun p e s m args below meth c K T L k' n' X hT t r => XS.goto X.here K.1 rfl rfl (hb K.2.1 hd) ho hq r
theorem Go.icmp_eq {o : Int} {x z : Int32} (q1 q2 : Nat) (hd : decode code pc = .ok (.if_icmp .eq o, 3)) (ho : 0 ≤ (pc : Int) + o) (h1 : ((pc : Int) + o).toNat = q1) (h2 : pc + 3 = q2) (g1 : x = z → GoB wf l Z y code ml ret R Q k n h q1 Ls st) (g2 : ¬ x = z → GoB wf l Z y code ml ret R Q k n h q2 Ls st) : GoB wf l Z y code ml ret R Q k n h pc Ls (.int z :: .int x :: st) := by
  subst h2
  by_cases hc : x = z
  · exact (g1 hc).pure fun p e s m args below meth c K T L k' n' X hT t r => XS.icmpYes X.here K.1 rfl rfl (hb K.2.1 hd) rfl (XT.ii_eq_t hc) ho h1 r
  · exact (g2 (by first | exact hc | exact Decidable.not_not.mp hc)).pure fun p e s m args below meth c K T L k' n' X hT t r => XS.icmpNo X.here K.1 rfl (hb K.2.1 hd) rfl (XT.ii_eq_f (by first | exact hc | exact Decidable.not_not.mp hc)) r
theorem Go.lcmp_eq {o : Int} {x z : Int64} (q1 q2 : Nat) (hd : decode code pc = .ok (.ifCond .eq o, 3)) (ho : 0 ≤ (pc : Int) + o) (h1 : ((pc : Int) + o).toNat = q1) (h2 : pc + 3 = q2) (g1 : x = z → GoB wf l Z y code ml ret R Q k n h q1 Ls st) (g2 : ¬ x = z → GoB wf l Z y code ml ret R Q k n h q2 Ls st) : GoB wf l Z y code ml ret R Q k n h pc Ls (.int (XT.cmpL x z) :: st) := by
  subst h2
  by_cases hc : x = z
  · exact (g1 hc).pure fun p e s m args below meth c K T L k' n' X hT t r => XS.ifYes X.here K.1 rfl rfl (hb K.2.1 hd) rfl (XT.ll_eq_t hc) ho h1 r
  · exact (g2 (by first | exact hc | exact Decidable.not_not.mp hc)).pure fun p e s m args below meth c K T L k' n' X hT t r => XS.ifNo X.here K.1 rfl (hb K.2.1 hd) rfl (XT.ll_eq_f (by first | exact hc | exact Decidable.not_not.mp hc)) r
theorem Go.icmp_ne {o : Int} {x z : Int32} (q1 q2 : Nat) (hd : decode code pc = .ok (.if_icmp .ne o, 3)) (ho : 0 ≤ (pc : Int) + o) (h1 : ((pc : Int) + o).toNat = q1) (h2 : pc + 3 = q2) (g1 : ¬ x = z → GoB wf l Z y code ml ret R Q k n h q1 Ls st) (g2 : x = z → GoB wf l Z y code ml ret R Q k n h q2 Ls st) : GoB wf l Z y code ml ret R Q k n h pc Ls (.int z :: .int x :: st) := by
  subst h2
  by_cases hc : ¬ x = z
  · exact (g1 hc).pure fun p e s m args below meth c K T L k' n' X hT t r => XS.icmpYes X.here K.1 rfl rfl (hb K.2.1 hd) rfl (XT.ii_ne_t hc) ho h1 r
  · exact (g2 (by first | exact hc | exact Decidable.not_not.mp hc)).pure fun p e s m args below meth c K T L k' n' X hT t r => XS.icmpNo X.here K.1 rfl (hb K.2.1 hd) rfl (XT.ii_ne_f (by first | exact hc | exact Decidable.not_not.mp hc)) r
theorem Go.lcmp_ne {o : Int} {x z : Int64} (q1 q2 : Nat) (hd : decode code pc = .ok (.ifCond .ne o, 3)) (ho : 0 ≤ (pc : Int) + o) (h1 : ((pc : Int) + o).toNat = q1) (h2 : pc + 3 = q2) (g1 : ¬ x = z → GoB wf l Z y code ml ret R Q k n h q1 Ls st) (g2 : x = z → GoB wf l Z y code ml ret R Q k n h q2 Ls st) : GoB wf l Z y code ml ret R Q k n h pc Ls (.int (XT.cmpL x z) :: st) := by
  subst h2
  by_cases hc : ¬ x = z
  · exact (g1 hc).pure fun p e s m args below meth c K T L k' n' X hT t r => XS.ifYes X.here K.1 rfl rfl (hb K.2.1 hd) rfl (XT.ll_ne_t hc) ho h1 r
  · exact (g2 (by first | exact hc | exact Decidable.not_not.mp hc)).pure fun p e s m args below meth c K T L k' n' X hT t r => XS.ifNo X.here K.1 rfl (hb K.2.1 hd) rfl (XT.ll_ne_f (by first | exact hc | exact Decidable.not_not.mp hc)) r
theorem Go.icmp_lt {o : Int} {x z : Int32} (q1 q2 : Nat) (hd : decode code pc = .ok (.if_icmp .lt o, 3)) (ho : 0 ≤ (pc : Int) + o) (h1 : ((pc : Int) + o).toNat = q1) (h2 : pc + 3 = q2) (g1 : x < z → GoB wf l Z y code ml ret R Q k n h q1 Ls st) (g2 : ¬ x < z → GoB wf l Z y code ml ret R Q k n h q2 Ls st) : GoB wf l Z y code ml ret R Q k n h pc Ls (.int z :: .int x :: st) := by
  subst h2
  by_cases hc : x < z
  · exact (g1 hc).pure fun p e s m args below meth c K T L k' n' X hT t r => XS.icmpYes X.here K.1 rfl rfl (hb K.2.1 hd) rfl (XT.ii_lt_t hc) ho h1 r
  · exact (g2 (by first | exact hc | exact Decidable.not_not.mp hc)).pure fun p e s m args below meth c K T L k' n' X hT t r => XS.icmpNo X.here K.1 rfl (hb K.2.1 hd) rfl (XT.ii_lt_f (by first | exact hc | exact Decidable.not_not.mp hc)) r
theorem Go.lcmp_lt {o : Int} {x z : Int64} (q1 q2 : Nat) (hd : decode code pc = .ok (.ifCond .lt o, 3)) (ho : 0 ≤ (pc : Int) + o) (h1 : ((pc : Int) + o).toNat = q1) (h2 : pc + 3 = q2) (g1 : x < z → GoB wf l Z y code ml ret R Q k n h q1 Ls st) (g2 : ¬ x < z → GoB wf l Z y code ml ret R Q k n h q2 Ls st) : GoB wf l Z y code ml ret R Q k n h pc Ls (.int (XT.cmpL x z) :: st) := by
  subst h2
  by_cases hc : x < z
  · exact (g1 hc).pure fun p e s m args below meth c K T L k' n' X hT t r => XS.ifYes X.here K.1 rfl rfl (hb K.2.1 hd) rfl (XT.ll_lt_t hc) ho h1 r
  · exact (g2 (by first | exact hc | exact Decidable.not_not.mp hc)).pure fun p e s m args below meth c K T L k' n' X hT t r => XS.ifNo X.here K.1 rfl (hb K.2.1 hd) rfl (XT.ll_lt_f (by first | exact hc | exact Decidable.not_not.mp hc)) r
theorem Go.icmp_ge {o : Int} {x z : Int32} (q1 q2 : Nat) (hd : decode code pc = .ok (.if_icmp .ge o, 3)) (ho : 0 ≤ (pc : Int) + o) (h1 : ((pc : Int) + o).toNat = q1) (h2 : pc + 3 = q2) (g1 : ¬ x < z → GoB wf l Z y code ml ret R Q k n h q1 Ls st) (g2 : x < z → GoB wf l Z y code ml ret R Q k n h q2 Ls st) : GoB wf l Z y code ml ret R Q k n h pc Ls (.int z :: .int x :: st) := by
  subst h2
  by_cases hc : ¬ x < z
  · exact (g1 hc).pure fun p e s m args below meth c K T L k' n' X hT t r => XS.icmpYes X.here K.1 rfl rfl (hb K.2.1 hd) rfl (XT.ii_ge_t hc) ho h1 r
  · exact (g2 (by first | exact hc | exact Decidable.not_not.mp hc)).pure fun p e s m args below meth c K T L k' n' X hT t r => XS.icmpNo X.here K.1 rfl (hb K.2.1 hd) rfl (XT.ii_ge_f (by first | exact hc | exact Decidable.not_not.mp hc)) r
theorem Go.lcmp_ge {o : Int} {x z : Int64} (q1 q2 : Nat) (hd : decode code pc = .ok (.ifCond .ge o, 3)) (ho : 0 ≤ (pc : Int) + o) (h1 : ((pc : Int) + o).toNat = q1) (h2 : pc + 3 = q2) (g1 : ¬ x < z → GoB wf l Z y code ml ret R Q k n h q1 Ls st) (g2 : x < z → GoB wf l Z y code ml ret R Q k n h q2 Ls st) : GoB wf l Z y code ml ret R Q k n h pc Ls (.int (XT.cmpL x z) :: st) := by
  subst h2
  by_cases hc : ¬ x < z
  · exact (g1 hc).pure fun p e s m args below meth c K T L k' n' X hT t r => XS.ifYes X.here K.1 rfl rfl (hb K.2.1 hd) rfl (XT.ll_ge_t hc) ho h1 r
  · exact (g2 (by first | exact hc | exact Decidable.not_not.mp hc)).pure fun p e s m args below meth c K T L k' n' X hT t r => XS.ifNo X.here K.1 rfl (hb K.2.1 hd) rfl (XT.ll_ge_f (by first | exact hc | exact Decidable.not_not.mp hc)) r
theorem Go.icmp_gt {o : Int} {x z : Int32} (q1 q2 : Nat) (hd : decode code pc = .ok (.if_icmp .gt o, 3)) (ho : 0 ≤ (pc : Int) + o) (h1 : ((pc : Int) + o).toNat = q1) (h2 : pc + 3 = q2) (g1 : z < x → GoB wf l Z y code ml ret R Q k n h q1 Ls st) (g2 : ¬ z < x → GoB wf l Z y code ml ret R Q k n h q2 Ls st) : GoB wf l Z y code ml ret R Q k n h pc Ls (.int z :: .int x :: st) := by
  subst h2
  by_cases hc : z < x
  · exact (g1 hc).pure fun p e s m args below meth c K T L k' n' X hT t r => XS.icmpYes X.here K.1 rfl rfl (hb K.2.1 hd) rfl (XT.ii_gt_t hc) ho h1 r
  · exact (g2 (by first | exact hc | exact Decidable.not_not.mp hc)).pure fun p e s m args below meth c K T L k' n' X hT t r => XS.icmpNo X.here K.1 rfl (hb K.2.1 hd) rfl (XT.ii_gt_f (by first | exact hc | exact Decidable.not_not.mp hc)) r
theorem Go.lcmp_gt {o : Int} {x z : Int64} (q1 q2 : Nat) (hd : decode code pc = .ok (.ifCond .gt o, 3)) (ho : 0 ≤ (pc : Int) + o) (h1 : ((pc : Int) + o).toNat = q1) (h2 : pc + 3 = q2) (g1 : z < x → GoB wf l Z y code ml ret R Q k n h q1 Ls st) (g2 : ¬ z < x → GoB wf l Z y code ml ret R Q k n h q2 Ls st) : GoB wf l Z y code ml ret R Q k n h pc Ls (.int (XT.cmpL x z) :: st) := by
  subst h2
  by_cases hc : z < x
  · exact (g1 hc).pure fun p e s m args below meth c K T L k' n' X hT t r => XS.ifYes X.here K.1 rfl rfl (hb K.2.1 hd) rfl (XT.ll_gt_t hc) ho h1 r
  · exact (g2 (by first | exact hc | exact Decidable.not_not.mp hc)).pure fun p e s m args below meth c K T L k' n' X hT t r => XS.ifNo X.here K.1 rfl (hb K.2.1 hd) rfl (XT.ll_gt_f (by first | exact hc | exact Decidable.not_not.mp hc)) r
theorem Go.icmp_le {o : Int} {x z : Int32} (q1 q2 : Nat) (hd : decode code pc = .ok (.if_icmp .le o, 3)) (ho : 0 ≤ (pc : Int) + o) (h1 : ((pc : Int) + o).toNat = q1) (h2 : pc + 3 = q2) (g1 : ¬ z < x → GoB wf l Z y code ml ret R Q k n h q1 Ls st) (g2 : z < x → GoB wf l Z y code ml ret R Q k n h q2 Ls st) : GoB wf l Z y code ml ret R Q k n h pc Ls (.int z :: .int x :: st) := by
  subst h2
  by_cases hc : ¬ z < x
  · exact (g1 hc).pure fun p e s m args below meth c K T L k' n' X hT t r => XS.icmpYes X.here K.1 rfl rfl (hb K.2.1 hd) rfl (XT.ii_le_t hc) ho h1 r
  · exact (g2 (by first | exact hc | exact Decidable.not_not.mp hc)).pure fun p e s m args below meth c K T L k' n' X hT t r => XS.icmpNo X.here K.1 rfl (hb K.2.1 hd) rfl (XT.ii_le_f (by first | exact hc | exact Decidable.not_not.mp hc)) r
theorem Go.lcmp_le {o : Int} {x z : Int64} (q1 q2 : Nat) (hd : decode code pc = .ok (.ifCond .le o, 3)) (ho : 0 ≤ (pc : Int) + o) (h1 : ((pc : Int) + o).toNat = q1) (h2 : pc + 3 = q2) (g1 : ¬ z < x → GoB wf l Z y code ml ret R Q k n h q1 Ls st) (g2 : z < x → GoB wf l Z y code ml ret R Q k n h q2 Ls st) : GoB wf l Z y code ml ret R Q k n h pc Ls (.int (XT.cmpL x z) :: st) := by
  subst h2
  by_cases hc : ¬ z < x
  · exact (g1 hc).pure fun p e s m args below meth c K T L k' n' X hT t r => XS.ifYes X.here K.1 rfl rfl (hb K.2.1 hd) rfl (XT.ll_le_t hc) ho h1 r
  · exact (g2 (by first | exact hc | exact Decidable.not_not.mp hc)).pure fun p e s m args below meth c K T L k' n' X hT t r => XS.ifNo X.here K.1 rfl (hb K.2.1 hd) rfl (XT.ll_le_f (by first | exact hc | exact Decidable.not_not.mp hc)) r
theorem if0_eq_t {x : Int32} (h : x = 0) : ifCond.holds .eq x = true := by
  have e : ifCond.holds .eq x = if_icmp.holds .eq x 0 := rfl
  rw [e]; exact XT.ii_eq_t h
theorem if0_eq_f {x : Int32} (h : ¬ x = 0) : ifCond.holds .eq x = false := by
  have e : ifCond.holds .eq x = if_icmp.holds .eq x 0 := rfl
  rw [e]; exact XT.ii_eq_f h
theorem Go.if_eq {o : Int} {x : Int32} (q1 q2 : Nat) (hd : decode code pc = .ok (.ifCond .eq o, 3)) (ho : 0 ≤ (pc : Int) + o) (h1 : ((pc : Int) + o).toNat = q1) (h2 : pc + 3 = q2) (g1 : x = 0 → GoB wf l Z y code ml ret R Q k n h q1 Ls st) (g2 : ¬ x = 0 → GoB wf l Z y code ml ret R Q k n h q2 Ls st) : GoB wf l Z y code ml ret R Q k n h pc Ls (.int x :: st) := by
  subst h2
  by_cases hc : x = 0
  · exact (g1 hc).pure fun p e s m args below meth c K T L k' n' X hT t r => XS.ifYes X.here K.1 rfl rfl (hb K.2.1 hd) rfl (if0_eq_t hc) ho h1 r
  · exact (g2 (by first | exact hc | exact Decidable.not_not.mp hc)).pure fun p e s m args below meth c K T L k' n' X hT t r => XS.ifNo X.here K.1 rfl (hb K.2.1 hd) rfl (if0_eq_f (by first | exact hc | exact Decidable.not_not.mp hc)) r
theorem if0_ne_t {x : Int32} (h : ¬ x = 0) : ifCond.holds .ne x = true := by
  have e : ifCond.holds .ne x = if_icmp.holds .ne x 0 := rfl
  rw [e]; exact XT.ii_ne_t h
theorem if0_ne_f {x : Int32} (h : x = 0) : ifCond.holds .ne x = false := by
  have e : ifCond.holds .ne x = if_icmp.holds .ne x 0 := rfl
  rw [e]; exact XT.ii_ne_f h
theorem Go.if_ne {o : Int} {x : Int32} (q1 q2 : Nat) (hd : decode code pc = .ok (.ifCond .ne o, 3)) (ho : 0 ≤ (pc : Int) + o) (h1 : ((pc : Int) + o).toNat = q1) (h2 : pc + 3 = q2) (g1 : ¬ x = 0 → GoB wf l Z y code ml ret R Q k n h q1 Ls st) (g2 : x = 0 → GoB wf l Z y code ml ret R Q k n h q2 Ls st) : GoB wf l Z y code ml ret R Q k n h pc Ls (.int x :: st) := by
  subst h2
  by_cases hc : ¬ x = 0
  · exact (g1 hc).pure fun p e s m args below meth c K T L k' n' X hT t r => XS.ifYes X.here K.1 rfl rfl (hb K.2.1 hd) rfl (if0_ne_t hc) ho h1 r
  · exact (g2 (by first | exact hc | exact Decidable.not_not.mp hc)).pure fun p e s m args below meth c K T L k' n' X hT t r => XS.ifNo X.here K.1 rfl (hb K.2.1 hd) rfl (if0_ne_f (by first | exact hc | exact Decidable.not_not.mp hc)) r
theorem if0_lt_t {x : Int32} (h : x < 0) : ifCond.holds .lt x = true := by
  have e : ifCond.holds .lt x = if_icmp.holds .lt x 0 := rfl
  rw [e]; exact XT.ii_lt_t h
theorem if0_lt_f {x : Int32} (h : ¬ x < 0) : ifCond.holds .lt x = false := by
  have e : ifCond.holds .lt x = if_icmp.holds .lt x 0 := rfl
  rw [e]; exact XT.ii_lt_f h
theorem Go.if_lt {o : Int} {x : Int32} (q1 q2 : Nat) (hd : decode code pc = .ok (.ifCond .lt o, 3)) (ho : 0 ≤ (pc : Int) + o) (h1 : ((pc : Int) + o).toNat = q1) (h2 : pc + 3 = q2) (g1 : x < 0 → GoB wf l Z y code ml ret R Q k n h q1 Ls st) (g2 : ¬ x < 0 → GoB wf l Z y code ml ret R Q k n h q2 Ls st) : GoB wf l Z y code ml ret R Q k n h pc Ls (.int x :: st) := by
  subst h2
  by_cases hc : x < 0
  · exact (g1 hc).pure fun p e s m args below meth c K T L k' n' X hT t r => XS.ifYes X.here K.1 rfl rfl (hb K.2.1 hd) rfl (if0_lt_t hc) ho h1 r
  · exact (g2 (by first | exact hc | exact Decidable.not_not.mp hc)).pure fun p e s m args below meth c K T L k' n' X hT t r => XS.ifNo X.here K.1 rfl (hb K.2.1 hd) rfl (if0_lt_f (by first | exact hc | exact Decidable.not_not.mp hc)) r
theorem if0_ge_t {x : Int32} (h : ¬ x < 0) : ifCond.holds .ge x = true := by
  have e : ifCond.holds .ge x = if_icmp.holds .ge x 0 := rfl
  rw [e]; exact XT.ii_ge_t h
theorem if0_ge_f {x : Int32} (h : x < 0) : ifCond.holds .ge x = false := by
  have e : ifCond.holds .ge x = if_icmp.holds .ge x 0 := rfl
  rw [e]; exact XT.ii_ge_f h
theorem Go.if_ge {o : Int} {x : Int32} (q1 q2 : Nat) (hd : decode code pc = .ok (.ifCond .ge o, 3)) (ho : 0 ≤ (pc : Int) + o) (h1 : ((pc : Int) + o).toNat = q1) (h2 : pc + 3 = q2) (g1 : ¬ x < 0 → GoB wf l Z y code ml ret R Q k n h q1 Ls st) (g2 : x < 0 → GoB wf l Z y code ml ret R Q k n h q2 Ls st) : GoB wf l Z y code ml ret R Q k n h pc Ls (.int x :: st) := by
  subst h2
  by_cases hc : ¬ x < 0
  · exact (g1 hc).pure fun p e s m args below meth c K T L k' n' X hT t r => XS.ifYes X.here K.1 rfl rfl (hb K.2.1 hd) rfl (if0_ge_t hc) ho h1 r
  · exact (g2 (by first | exact hc | exact Decidable.not_not.mp hc)).pure fun p e s m args below meth c K T L k' n' X hT t r => XS.ifNo X.here K.1 rfl (hb K.2.1 hd) rfl (if0_ge_f (by first | exact hc | exact Decidable.not_not.mp hc)) r
theorem if0_gt_t {x : Int32} (h : 0 < x) : ifCond.holds .gt x = true := by
  have e : ifCond.holds .gt x = if_icmp.holds .gt x 0 := rfl
  rw [e]; exact XT.ii_gt_t h
theorem if0_gt_f {x : Int32} (h : ¬ 0 < x) : ifCond.holds .gt x = false := by
  have e : ifCond.holds .gt x = if_icmp.holds .gt x 0 := rfl
  rw [e]; exact XT.ii_gt_f h
theorem Go.if_gt {o : Int} {x : Int32} (q1 q2 : Nat) (hd : decode code pc = .ok (.ifCond .gt o, 3)) (ho : 0 ≤ (pc : Int) + o) (h1 : ((pc : Int) + o).toNat = q1) (h2 : pc + 3 = q2) (g1 : 0 < x → GoB wf l Z y code ml ret R Q k n h q1 Ls st) (g2 : ¬ 0 < x → GoB wf l Z y code ml ret R Q k n h q2 Ls st) : GoB wf l Z y code ml ret R Q k n h pc Ls (.int x :: st) := by
  subst h2
  by_cases hc : 0 < x
  · exact (g1 hc).pure fun p e s m args below meth c K T L k' n' X hT t r => XS.ifYes X.here K.1 rfl rfl (hb K.2.1 hd) rfl (if0_gt_t hc) ho h1 r
  · exact (g2 (by first | exact hc | exact Decidable.not_not.mp hc)).pure fun p e s m args below meth c K T L k' n' X hT t r => XS.ifNo X.here K.1 rfl (hb K.2.1 hd) rfl (if0_gt_f (by first | exact hc | exact Decidable.not_not.mp hc)) r
theorem if0_le_t {x : Int32} (h : ¬ 0 < x) : ifCond.holds .le x = true := by
  have e : ifCond.holds .le x = if_icmp.holds .le x 0 := rfl
  rw [e]; exact XT.ii_le_t h
theorem if0_le_f {x : Int32} (h : 0 < x) : ifCond.holds .le x = false := by
  have e : ifCond.holds .le x = if_icmp.holds .le x 0 := rfl
  rw [e]; exact XT.ii_le_f h
theorem Go.if_le {o : Int} {x : Int32} (q1 q2 : Nat) (hd : decode code pc = .ok (.ifCond .le o, 3)) (ho : 0 ≤ (pc : Int) + o) (h1 : ((pc : Int) + o).toNat = q1) (h2 : pc + 3 = q2) (g1 : ¬ 0 < x → GoB wf l Z y code ml ret R Q k n h q1 Ls st) (g2 : 0 < x → GoB wf l Z y code ml ret R Q k n h q2 Ls st) : GoB wf l Z y code ml ret R Q k n h pc Ls (.int x :: st) := by
  subst h2
  by_cases hc : ¬ 0 < x
  · exact (g1 hc).pure fun p e s m args below meth c K T L k' n' X hT t r => XS.ifYes X.here K.1 rfl rfl (hb K.2.1 hd) rfl (if0_le_t hc) ho h1 r
  · exact (g2 (by first | exact hc | exact Decidable.not_not.mp hc)).pure fun p e s m args below meth c K T L k' n' X hT t r => XS.ifNo X.here K.1 rfl (hb K.2.1 hd) rfl (if0_le_f (by first | exact hc | exact Decidable.not_not.mp hc)) r
theorem Go.ifnull_no {o : Int} {b : Addr} (q : Nat) (hd : decode code pc = .ok (.ifnull o, 3)) (hq : pc + 3 = q) (g : GoB wf l Z y code ml ret R Q k n h q Ls st) : GoB wf l Z y code ml ret R Q k n h pc Ls (.ref b :: st) := by
  subst hq; exact g.pure fun p e s m args below meth c K T L k' n' X hT t r => XS.ifnullNo X.here K.1 rfl (hb K.2.1 hd) rfl r
theorem Go.ifnull_yes {o : Int} (q : Nat) (hd : decode code pc = .ok (.ifnull o, 3)) (ho : 0 ≤ (pc : Int) + o) (hq : ((pc : Int) + o).toNat = q) (g : GoB wf l Z y code ml ret R Q k n h q Ls st) : GoB wf l Z y code ml ret R Q k n h pc Ls (.null :: st) :=
  g.pure fun p e s m args below meth c K T L k' n' X hT t r => XS.ifnullYes X.here K.1 rfl rfl (hb K.2.1 hd) rfl ho hq r
theorem Go.ifnonnull_yes {o : Int} {b : Addr} (q : Nat) (hd : decode code pc = .ok (.ifnonnull o, 3)) (ho : 0 ≤ (pc : Int) + o) (hq : ((pc : Int) + o).toNat = q) (g : GoB wf l Z y code ml ret R Q k n h q Ls st) : GoB wf l Z y code ml ret R Q k n h pc Ls (.ref b :: st) :=
  g.pure fun p e s m args below meth c K T L k' n' X hT t r => XT.ifnonnullYes X.here K.1 rfl rfl (hb K.2.1 hd) rfl ho hq r
theorem Go.ifnonnull_no {o : Int} (q : Nat) (hd : decode code pc = .ok (.ifnonnull o, 3)) (hq : pc + 3 = q) (g : GoB wf l Z y code ml ret R Q k n h q Ls st) : GoB wf l Z y code ml ret R Q k n h pc Ls (.null :: st) := by
  subst hq; exact g.pure fun p e s m args below meth c K T L k' n' X hT t r => XT.ifnonnullNo X.here K.1 rfl (hb K.2.1 hd) rfl r
theorem Go.acmp {cd : ACond} {o : Int} {x z : Value} (q : Nat) (same : Bool) (hd : decode code pc = .ok (.if_acmp cd o, 3)) (h1 : x.isRef = true) (h2 : z.isRef = true) (hs : decide (x = z) = same) (ho : 0 ≤ (pc : Int) + o) (hq : q = if acV cd same = true then ((pc : Int) + o).toNat else pc + 3) (g : GoB wf l Z y code ml ret R Q k n h q Ls st) : GoB wf l Z y code ml ret R Q k n h pc Ls (z :: x :: st) :=
  g.pure fun p e s m args below meth c K T L k' n' X hT t r => Jvm.RoadKit.acmp X K.1 rfl h1 h2 rfl (hb K.2.1 hd) rfl hs ho hq r
theorem Go.acmp_eq {o : Int} {x z : Addr} (q1 q2 : Nat) (hd : decode code pc = .ok (.if_acmp .eq o, 3)) (ho : 0 ≤ (pc : Int) + o) (h1 : ((pc : Int) + o).toNat = q1) (h2 : pc + 3 = q2) (g1 : x = z → GoB wf l Z y code ml ret R Q k n h q1 Ls st) (g2 : ¬ x = z → GoB wf l Z y code ml ret R Q k n h q2 Ls st) : GoB wf l Z y code ml ret R Q k n h pc Ls (.ref z :: .ref x :: st) := by
  subst h1 h2
  by_cases hc : x = z
  · exact Go.acmp _ true hd rfl rfl (by simp [hc]) ho rfl (by simpa [acV] using g1 hc)
  · exact Go.acmp _ false hd rfl rfl (by simp [hc]) ho rfl (by simpa [acV] using g2 hc)
theorem Go.acmp_ne {o : Int} {x z : Addr} (q1 q2 : Nat) (hd : decode code pc = .ok (.if_acmp .ne o, 3)) (ho : 0 ≤ (pc : Int) + o) (h1 : ((pc : Int) + o).toNat = q1) (h2 : pc + 3 = q2) (g1 : ¬ x = z → GoB wf l Z y code ml ret R Q k n h q1 Ls st) (g2 : x = z → GoB wf l Z y code ml ret R Q k n h q2 Ls st) : GoB wf l Z y code ml ret R Q k n h pc Ls (.ref z :: .ref x :: st) := by
  subst h1 h2
  by_cases hc : x = z
  · exact Go.acmp _ true hd rfl rfl (by simp [hc]) ho rfl (by simpa [acV] using g2 hc)
  · exact Go.acmp _ false hd rfl rfl (by simp [hc]) ho rfl (by simpa [acV] using g1 hc)

theorem Go.retV {v : Value} {t : FieldType} {i : Instr} (hd : decode code pc = .ok (i, 1)) (hret : ret = some t) (hn : narrow t v = v)
    (hi : (i = .ireturn ∧ (t = .int ∨ t = .boolean ∨ t = .byte ∨ t = .char ∨ t = .short) ∧ ∃ z, v = .int z) ∨ (i = .lreturn ∧ t = .long ∧ ∃ z, v = .long z) ∨ (i = .dreturn ∧ t = .double ∧ ∃ z, v = .double z) ∨ (i = .freturn ∧ t = .float ∧ ∃ z, v = .float z) ∨ (i = .areturn ∧ t.isReference = true ∧ v.isRef = true))
    (hk : k ≤ R.cells) (hN : n ≤ R.slots) (hQ : Q (some v) h) : GoB wf l Z y code ml ret R Q k n h pc Ls (v :: st) := by
  intro p e s m args below meth c K T L k' n' X h1 h2 N hT
  refine ⟨s, some v, T, L, k', n', Or.inl rfl, X, Nat.le_trans h1 hk, Nat.le_trans h2 hN, N, hT ▸ hQ, fun e => ?_, fun fs hl => ?_⟩
  · rw [hret] at e; cases e
  · exact retOut X K.1 (K.2.2.2.2.2.1.trans hret) hn hi (hb K.2.1 hd) hl
theorem Go.ireturn {z : Int32} {P : Int32 → Heap → Prop} (hd : decode code pc = .ok (.ireturn, 1)) (hret : ret = some .int) (hk : k ≤ R.cells) (hN : n ≤ R.slots) (hP : P z h) : GoB wf l Z y code ml ret R (QI P) k n h pc Ls (.int z :: st) :=
  Go.retV hd hret rfl (Or.inl ⟨rfl, Or.inl rfl, z, rfl⟩) hk hN ⟨z, rfl, hP⟩
theorem Go.lreturn {z : Int64} {P : Int64 → Heap → Prop} (hd : decode code pc = .ok (.lreturn, 1)) (hret : ret = some .long) (hk : k ≤ R.cells) (hN : n ≤ R.slots) (hP : P z h) : GoB wf l Z y code ml ret R (QJ P) k n h pc Ls (.long z :: st) :=
  Go.retV hd hret rfl (Or.inr (Or.inl ⟨rfl, rfl, z, rfl⟩)) hk hN ⟨z, rfl, hP⟩
theorem Go.areturn {z : Value} {t : FieldType} {P : Value → Heap → Prop} (hd : decode code pc = .ok (.areturn, 1)) (hret : ret = some t) (ht : t.isReference = true) (hz : z.isRef = true) (hk : k ≤ R.cells) (hN : n ≤ R.slots) (hP : P z h) : GoB wf l Z y code ml ret R (QR P) k n h pc Ls (z :: st) := by
  refine Go.retV hd hret ?_ (Or.inr (Or.inr (Or.inr (Or.inr ⟨rfl, ht, hz⟩)))) hk hN ⟨z, rfl, hP⟩
  cases t <;> cases z <;> first | rfl | (simp [Value.isRef] at hz)
/-- a boolean, byte, char or short: narrowed -/
theorem Go.nreturn {z z' : Int32} {t : FieldType} {P : Int32 → Heap → Prop} (hd : decode code pc = .ok (.ireturn, 1)) (hret : ret = some t) (ht : t = .boolean ∨ t = .byte ∨ t = .char ∨ t = .short) (hz : nar t z = z') (hk : k ≤ R.cells) (hN : n ≤ R.slots) (hP : P z' h) : GoB wf l Z y code ml ret R (QI P) k n h pc Ls (.int z :: st) := by
  subst hz
  intro p e s m args below meth c K T L k' n' X h1 h2 N hT
  refine ⟨s, some (.int (nar t z)), T, L, k', n', Or.inl rfl, X, Nat.le_trans h1 hk, Nat.le_trans h2 hN, N, ⟨_, rfl, hT ▸ hP⟩, fun e => ?_, fun fs hl => ?_⟩
  · rw [hret] at e; cases e
  · exact retN X K.1 (K.2.2.2.2.2.1.trans hret) ht (hb K.2.1 hd) hl
theorem Go.vreturn {P : Heap → Prop} (hd : decode code pc = .ok (.return_, 1)) (hret : ret = none) (hk : k ≤ R.cells) (hN : n ≤ R.slots) (hP : P h) : GoB wf l Z y code ml ret R (QV P) k n h pc Ls [] := by
  intro p e s m args below meth c K T L k' n' X h1 h2 N hT
  exact ⟨s, none, T, L, k', n', Or.inl rfl, X, Nat.le_trans h1 hk, Nat.le_trans h2 hN, N, ⟨rfl, hT ▸ hP⟩, fun _ => rfl, fun fs hl => X.returnOut K.1 (K.2.2.2.2.2.1.trans hret) (hb K.2.1 hd) hl⟩
/-- the whole body, as a contract -/
theorem Go.met {as' : Array Value} (hx : plainFor y = true) (hent : ∀ m, entryFrame m as' ml = mkF m 0 Ls []) (G : Go l Z y code ml ret R Q 0 0 h 0 Ls []) (ws : List Jvm.Cond) :
    MetFree l y (head1 (Jvm.Cond.code y code ml ret :: ws) R) (fun a U => a = as' ∧ Z.Warmed39 U.vm ∧ U.heap = h) (fun _ _ _ _ _ => True) (fun _ U o U' => ∃ v L, o = .returned v ∧ (Q v U'.heap ∧ Fr Z.heap.size L) ∧ FrameEnd U o U' L R.cells R.slots) := by
  refine MetFree.of_bodySF hx hisR ?_
  intro p e s m args below meth c s₁ Bd hml hP hK
  obtain ⟨rfl, hZ, hh⟩ := hP
  have X0 : Stand p l e R s m args below meth c s₁ [] 0 0 := Stand.of_body Bd
  have e0 : s₁.heap = h := by rw [← hh, Bd.state]; rfl
  have hnm := (name_of_methodNamed Bd.named Bd.method).1
  obtain ⟨s', v, T', L', k'', n'', ok', X', b1, b2, N', q, hv, stp⟩ := G p e s m args below meth c ⟨Bd.exec, Bd.bytes, hZ, findClass_of_methodNamed Bd.named, hml, Bd.returns, Bd.notSynchronized, hnm⟩ s₁ [] 0 0 X0 (Nat.le_refl _) (Nat.le_refl _) (Fr.nil _) e0
  obtain rfl : s' = s := ok'.elim id (fun q => absurd q.1 (by decide))
  obtain ⟨fs, hr, hrun, hended, hW, hsame⟩ := X'.leave (v := v) (fun hh => hv (by rw [← Bd.returns]; exact hh))
  refine ⟨_, _, castTop (hent m) (stp fs hr), hrun, hended, v, L', rfl, ⟨q, N'⟩, ⟨_, rfl⟩, hW, hsame.mono b1 b2⟩


theorem Go.getfield {i : Nat} {O nm d : String} {a : Addr} {v : Value} (q : Nat) (hd : decode code pc = .ok (.getfield i, 3)) (w : (Cond.fieldLink y.cls i O nm d).before a0 Z = true) (F : Fld Z h a O nm d v) (hq : pc + 3 = q) (g : GoB wf l Z y code ml ret R Q k n h q Ls (v :: st)) : GoB wf l Z y code ml ret R Q k n h pc Ls (.ref a :: st) := by
  subst hq
  refine GoB.move (P := fun h' => h' = h) (kk := k) (nn := n) (fun h' e => e ▸ g) ?_
  intro p e s m args below meth c K T L k' n' X h1 h2 N hT
  obtain ⟨T', X', e', s'⟩ := getF X K.1 K.2.2.1 K.2.2.2.1 (host := "") (Or.inl w) Via.refl hT F (g := mkF m pc Ls (.ref a :: st)) rfl rfl (hb K.2.1 hd)
  exact ⟨T', L, k', n', X', h1, h2, N, e', s'⟩
theorem Go.getfieldN {i : Nat} {O nm d host : String} {a : Addr} {v : Value} (q : Nat) (hd : decode code pc = .ok (.getfield i, 3)) (w : (Cond.fieldLinkNest y.cls i O nm d host).before a0 Z = true) (F : Fld Z h a O nm d v) (hq : pc + 3 = q) (g : GoB wf l Z y code ml ret R Q k n h q Ls (v :: st)) : GoB wf l Z y code ml ret R Q k n h pc Ls (.ref a :: st) := by
  subst hq
  refine GoB.move (P := fun h' => h' = h) (kk := k) (nn := n) (fun h' e => e ▸ g) ?_
  intro p e s m args below meth c K T L k' n' X h1 h2 N hT
  obtain ⟨T', X', e', s'⟩ := getF X K.1 K.2.2.1 K.2.2.2.1 (host := host) (Or.inr w) Via.refl hT F (g := mkF m pc Ls (.ref a :: st)) rfl rfl (hb K.2.1 hd)
  exact ⟨T', L, k', n', X', h1, h2, N, e', s'⟩
theorem Go.getfieldU {i : Nat} {R0 O nm d : String} {a : Addr} {v : Value} (q : Nat) (hd : decode code pc = .ok (.getfield i, 3)) (w : (Cond.fieldLink y.cls i R0 nm d).before a0 Z = true) (via : Via Z R0 O nm d) (F : Fld Z h a O nm d v) (hq : pc + 3 = q) (g : GoB wf l Z y code ml ret R Q k n h q Ls (v :: st)) : GoB wf l Z y code ml ret R Q k n h pc Ls (.ref a :: st) := by
  subst hq
  refine GoB.move (P := fun h' => h' = h) (kk := k) (nn := n) (fun h' e => e ▸ g) ?_
  intro p e s m args below meth c K T L k' n' X h1 h2 N hT
  obtain ⟨T', X', e', s'⟩ := getF X K.1 K.2.2.1 K.2.2.2.1 (host := "") (Or.inl w) via hT F (g := mkF m pc Ls (.ref a :: st)) rfl rfl (hb K.2.1 hd)
  exact ⟨T', L, k', n', X', h1, h2, N, e', s'⟩
theorem Go.getstatic {i : Nat} {O nm d : String} {v : Value} (q : Nat) (hd : decode code pc = .ok (.getstatic i, 3)) (w : (Cond.fieldLink y.cls i O nm d).before a0 Z = true) (F : Sta Z h O nm d v) (hq : pc + 3 = q) (g : GoB wf l Z y code ml ret R Q k n h q Ls (v :: st)) : GoB wf l Z y code ml ret R Q k n h pc Ls st := by
  subst hq
  refine GoB.move (P := fun h' => h' = h) (kk := k) (nn := n) (fun h' e => e ▸ g) ?_
  intro p e s m args below meth c K T L k' n' X h1 h2 N hT
  obtain ⟨T', X', e', s'⟩ := getS X K.1 K.2.2.1 (host := "") K.2.2.2.1 w Via.refl hT F (g := mkF m pc Ls st) rfl (hb K.2.1 hd)
  exact ⟨T', L, k', n', X', h1, h2, N, e', s'⟩
theorem Go.putfield {i kk : Nat} {C O nm d : String} {ty : FieldType} {a : Addr} {v old : Value} (q : Nat) (hd : decode code pc = .ok (.putfield i, 3)) (w : (Cond.fieldLink y.cls i O nm d).before a0 Z = true) (F : Fld Z h a O nm d old) (E : Exa Z h a C) (hL : (Cond.lays C O nm d).before a0 Z = true ∨ ((Cond.laysFinal C O nm d).before a0 Z = true ∧ y.cls = O ∧ y.name = "<init>"))
    (wi : (Cond.instantiable C kk).before a0 Z = true) (hty : parseFieldDescriptor d = some ty) (hn : narrow ty v = v) (hf : fits ty v = true) (hge : Z.heap.size ≤ a) (hq : pc + 3 = q)
    (g : ∀ h', Wr h h' a (Jvm.RoadKit.slotOf Z O nm d) v → GoB wf l Z y code ml ret R Q k n h' q Ls st) : GoB wf l Z y code ml ret R Q k n h pc Ls (v :: .ref a :: st) := by
  subst hq
  refine GoB.move (P := fun h' => Wr h h' a (Jvm.RoadKit.slotOf Z O nm d) v) (kk := k) (nn := n) g ?_
  intro p e s m args below meth c K T L k' n' X h1 h2 N hT
  obtain ⟨T', h', X', e', W', s'⟩ := putF X K.1 K.2.2.1 K.2.2.2.1 (host := "") (Or.inl w) Via.refl hT F E (hL.imp id fun ⟨a1, a2, a3⟩ => ⟨a1, a2, K.2.2.2.2.2.2.2.trans a3⟩) wi hty hn hf (g := mkF m pc Ls (v :: .ref a :: st)) rfl rfl (hb K.2.1 hd)
  exact ⟨T', _, k', n', X', h1, h2, Fr.snoc X' N hge, e' ▸ W', s'⟩
theorem Go.putfieldU {i kk : Nat} {R0 C O nm d : String} {ty : FieldType} {a : Addr} {v old : Value} (q : Nat) (hd : decode code pc = .ok (.putfield i, 3)) (w : (Cond.fieldLink y.cls i R0 nm d).before a0 Z = true) (via : Via Z R0 O nm d) (F : Fld Z h a O nm d old) (E : Exa Z h a C) (hL : (Cond.lays C O nm d).before a0 Z = true ∨ ((Cond.laysFinal C O nm d).before a0 Z = true ∧ y.cls = O ∧ y.name = "<init>"))
    (wi : (Cond.instantiable C kk).before a0 Z = true) (hty : parseFieldDescriptor d = some ty) (hn : narrow ty v = v) (hf : fits ty v = true) (hge : Z.heap.size ≤ a) (hq : pc + 3 = q)
    (g : ∀ h', Wr h h' a (Jvm.RoadKit.slotOf Z O nm d) v → GoB wf l Z y code ml ret R Q k n h' q Ls st) : GoB wf l Z y code ml ret R Q k n h pc Ls (v :: .ref a :: st) := by
  subst hq
  refine GoB.move (P := fun h' => Wr h h' a (Jvm.RoadKit.slotOf Z O nm d) v) (kk := k) (nn := n) g ?_
  intro p e s m args below meth c K T L k' n' X h1 h2 N hT
  obtain ⟨T', h', X', e', W', s'⟩ := putF X K.1 K.2.2.1 K.2.2.2.1 (host := "") (Or.inl w) via hT F E (hL.imp id fun ⟨a1, a2, a3⟩ => ⟨a1, a2, K.2.2.2.2.2.2.2.trans a3⟩) wi hty hn hf (g := mkF m pc Ls (v :: .ref a :: st)) rfl rfl (hb K.2.1 hd)
  exact ⟨T', _, k', n', X', h1, h2, Fr.snoc X' N hge, e' ▸ W', s'⟩
/-- a field that narrows (boolean, byte, char, short) -/
theorem Go.putfieldN {i kk : Nat} {C O nm d : String} {ty : FieldType} {a : Addr} {v v' old : Value} (q : Nat) (hd : decode code pc = .ok (.putfield i, 3)) (w : (Cond.fieldLink y.cls i O nm d).before a0 Z = true) (F : Fld Z h a O nm d old) (E : Exa Z h a C) (hL : (Cond.lays C O nm d).before a0 Z = true ∨ ((Cond.laysFinal C O nm d).before a0 Z = true ∧ y.cls = O ∧ y.name = "<init>"))
    (wi : (Cond.instantiable C kk).before a0 Z = true) (hty : parseFieldDescriptor d = some ty) (hn : narrow ty v = v') (hf : fits ty v' = true) (hge : Z.heap.size ≤ a) (hq : pc + 3 = q)
    (g : ∀ h', Wr h h' a (Jvm.RoadKit.slotOf Z O nm d) v' → GoB wf l Z y code ml ret R Q k n h' q Ls st) : GoB wf l Z y code ml ret R Q k n h pc Ls (v :: .ref a :: st) := by
  subst hq
  refine GoB.move (P := fun h' => Wr h h' a (Jvm.RoadKit.slotOf Z O nm d) v') (kk := k) (nn := n) g ?_
  intro p e s m args below meth c K T L k' n' X h1 h2 N hT
  obtain ⟨T', h', X', e', W', s'⟩ := putFN X K.1 K.2.2.1 K.2.2.2.1 w Via.refl hT F E (hL.imp id fun ⟨a1, a2, a3⟩ => ⟨a1, a2, K.2.2.2.2.2.2.2.trans a3⟩) wi hty hn hf (g := mkF m pc Ls (v :: .ref a :: st)) rfl rfl (hb K.2.1 hd)
  exact ⟨T', _, k', n', X', h1, h2, Fr.snoc X' N hge, e' ▸ W', s'⟩
theorem Go.new {i sz : Nat} {C : String} (q : Nat) (hd : decode code pc = .ok (.new i, 3)) (w : (Cond.classLink y.cls i C).before a0 Z = true) (wi : (Cond.instantiable C sz).before a0 Z = true) (wz : (Cond.initialized C).before a0 Z = true) (hk : k + 1 ≤ R.cells) (hN : n + sz ≤ R.slots) (hq : pc + 3 = q)
    (g : ∀ (a : Addr) h', a = h.size → Ext h h' → Exa Z h' a C → (∀ {O nm d : String} {ty : FieldType}, Laid Z a0 C O nm d → parseFieldDescriptor d = some ty → Fld Z h' a O nm d (defaultValue ty)) → GoB wf l Z y code ml ret R Q (k + 1) (n + sz) h' q Ls (.ref a :: st)) : GoB wf l Z y code ml ret R Q k n h pc Ls st := by
  subst hq
  refine GoB.move (P := fun h' => Ext h h' ∧ Exa Z h' h.size C ∧ (∀ {O nm d : String} {ty : FieldType}, Laid Z a0 C O nm d → parseFieldDescriptor d = some ty → Fld Z h' h.size O nm d (defaultValue ty))) (kk := k + 1) (nn := n + sz) (fun h' p => g h.size h' rfl p.1 p.2.1 p.2.2) ?_
  intro p e s m args below meth c K T L k' n' X h1 h2 N hT
  obtain ⟨T', h', X', e', E', A', D', -, s'⟩ := newO X K.1 K.2.2.1 K.2.2.2.1 w wi wz hT (g := mkF m pc Ls st) rfl (hb K.2.1 hd) (Nat.le_trans (Nat.add_le_add_right h1 1) hk) (Nat.le_trans (Nat.add_le_add_right h2 sz) hN)
  subst e'
  exact ⟨T', L, k' + 1, n' + sz, X', Nat.add_le_add_right h1 1, Nat.add_le_add_right h2 sz, N, ⟨E', A', D'⟩, s'⟩
theorem Go.initO {i : Nat} {a : Addr} (W : Nat) (q : Nat) (hd : decode code pc = .ok (.invokespecial i, 3)) (w1 : (Cond.methodLink y.cls i Lib.objectInit).before a0 Z = true) (w2 : (Cond.instanceMethod Lib.objectInit).before a0 Z = true) (w3 : (Cond.code Lib.objectInit ⟨#[0xb1]⟩ 1 none).before a0 Z = true)
    (hsz : Ls.size = ml) (hf : 1 ≤ R.frames) (hW : (st.map fun v => v.category).sum ≤ W) (hl : W + 12 ≤ R.locals) (hq : pc + 3 = q) (g : GoB wf l Z y code ml ret R Q k n h q Ls st) : GoB wf l Z y code ml ret R Q k n h pc Ls (.ref a :: st) := by
  subst hq
  refine GoB.move (P := fun h' => h' = h) (kk := k) (nn := n) (fun h' e => e ▸ g) ?_
  intro p e s m args below meth c K T L k' n' X h1 h2 N hT
  obtain ⟨T', X', e', s'⟩ := Jvm.RoadKit.initO X K.1 K.2.2.1 K.2.2.2.1 w1 w2 w3 hT (g := mkF m pc Ls (.ref a :: st)) rfl (hsz.trans K.2.2.2.2.1.symm) rfl (hb K.2.1 hd) hf (W := W) (by show 2 * 0 + _ ≤ _; rw [Nat.mul_zero, Nat.zero_add]; exact hW) hl
  exact ⟨T', L, k', n', X', h1, h2, N, e', s'⟩


section Calls
variable {y' : MethodName} {code' : ByteArray} {ml' : Nat} {ret' : Option FieldType} {R' : Room} {Q' : Option Value → Heap → Prop} {Ls' : Array Slot} {i W : Nat}
theorem Go.callS (argsL : List Value) (rest : List Value) (q : Nat) (hd : decode code pc = .ok (.invokestatic i, 3)) (w1 : (Cond.methodLink y.cls i y').before a0 Z = true) (w2 : (Cond.static y').before a0 Z = true) (w3 : (Cond.initialized y'.cls).before a0 Z = true) (w4 : (Cond.code y' code' ml' ret').before a0 Z = true)
    (hpl : plainFor y' = true) (hy : y'.cls ≠ "java/lang/invoke/MethodHandle" ∧ y'.cls ≠ "java/lang/invoke/VarHandle") (hlen : ∀ sig, parseMethodDescriptor y'.desc = some sig → argsL.length = sig.parameters.length) (hst : st = argsL.reverse ++ rest) (hent : ∀ m, entryFrame m argsL.toArray ml' = mkF m 0 Ls' [])
    (G : Go l Z y' code' ml' ret' R' Q' 0 0 h 0 Ls' []) (W : Nat) (hsz : Ls.size = ml) (hW : (rest.map fun v => v.category).sum ≤ W) (hf : R'.frames + 1 ≤ R.frames) (hl : W + (ml' + 11) + R'.locals ≤ R.locals) (hk : k + R'.cells ≤ R.cells) (hN : n + R'.slots ≤ R.slots) (hq : pc + 3 = q)
    (g : ∀ v h', Q' v h' → GoB wf l Z y code ml ret R Q (k + R'.cells) (n + R'.slots) h' q Ls (v.toList ++ rest)) : GoB wf l Z y code ml ret R Q k n h pc Ls st := by
  subst hq
  intro p e s m args below meth c K T L k' n' X h1 h2 N hT
  obtain ⟨v, vm₁, ⟨T', L', k'', n''⟩, -, X', ⟨Lc, ⟨hQ, N'⟩, e1, e2, e3⟩, s'⟩ := Jvm.LawKit.callS X K.1 K.2.2.2.1 (mvT K.2.2.1 w1) (mvT K.2.2.1 w2) (mvT K.2.2.1 w3) (mvT K.2.2.1 w4) hy (backOf (W := W) (Q := fun v h L => Q' v h ∧ Fr Z.heap.size L) (Go.met hpl hent G []) K.2.2.1 w4 w3 hf hl) (g := mkF m pc Ls st) rfl (hsz.trans K.2.2.2.2.1.symm) (argsL := argsL) (rest := rest) hlen hst (by show 2 * 0 + _ ≤ _; rw [Nat.mul_zero, Nat.zero_add]; exact hW) (hb K.2.1 hd) (fun _ _ => ⟨rfl, hT, Nat.le_trans (Nat.add_le_add_right h1 _) hk, Nat.le_trans (Nat.add_le_add_right h2 _) hN⟩)
  dsimp only [Pt.U, Pt.locs, Pt.cells, Pt.slots] at X' e1 e2 e3 s' hQ
  subst e1 e2 e3
  obtain ⟨s2, v2, T2, L2, k2, n2, ok2, X2, b1, b2, N2, q2, hv, stp⟩ := g v _ hQ p e s m args below meth c K T' _ _ _ X' (Nat.add_le_add_right h1 _) (Nat.add_le_add_right h2 _) (Fr.app N N') rfl
  exact ⟨s2, v2, T2, L2, k2, n2, ok2, X2, b1, b2, N2, q2, hv, fun fs hl => s' _ (stp fs hl)⟩
theorem Go.callC {a : Addr} (argsL : List Value) (rest : List Value) (q : Nat) (hd : decode code pc = .ok (.invokespecial i, 3)) (hy1 : y'.name = "<init>") (w1 : (Cond.methodLink y.cls i y').before a0 Z = true) (w2 : (Cond.instanceMethod y').before a0 Z = true) (w3 : (Cond.initialized y'.cls).before a0 Z = true) (w4 : (Cond.code y' code' ml' none).before a0 Z = true)
    (hpl : plainFor y' = true) (hy : y'.cls ≠ "java/lang/invoke/MethodHandle" ∧ y'.cls ≠ "java/lang/invoke/VarHandle") (hlen : ∀ sig, parseMethodDescriptor y'.desc = some sig → argsL.length = sig.parameters.length) (hst : st = argsL.reverse ++ .ref a :: rest) (hent : ∀ m, entryFrame m (.ref a :: argsL).toArray ml' = mkF m 0 Ls' [])
    (P' : Heap → Prop) (G : Go l Z y' code' ml' none R' (QV P') 0 0 h 0 Ls' []) (W : Nat) (hsz : Ls.size = ml) (hW : (rest.map fun v => v.category).sum ≤ W) (hf : R'.frames + 1 ≤ R.frames) (hl : W + (ml' + 11) + R'.locals ≤ R.locals) (hk : k + R'.cells ≤ R.cells) (hN : n + R'.slots ≤ R.slots) (hq : pc + 3 = q)
    (g : ∀ h', P' h' → GoB wf l Z y code ml ret R Q (k + R'.cells) (n + R'.slots) h' q Ls rest) : GoB wf l Z y code ml ret R Q k n h pc Ls st := by
  subst hq
  intro p e s m args below meth c K T L k' n' X h1 h2 N hT
  obtain ⟨v, vm₁, ⟨T', L', k'', n''⟩, -, X', ⟨Lc, ⟨⟨rfl, hQ⟩, N'⟩, e1, e2, e3⟩, s'⟩ := X.specialBack K.1 hy1 K.2.2.2.1 (mvT K.2.2.1 w1) (mvT K.2.2.1 w2) (mvT K.2.2.1 w4) hy (backOf (W := W) (Q := fun v h L => QV P' v h ∧ Fr Z.heap.size L) (Go.met hpl hent G []) K.2.2.1 w4 w3 hf hl) (g := mkF m pc Ls st) rfl (hsz.trans K.2.2.2.2.1.symm) (Steps.refl _) (a := a) (argsL := argsL) (rest := rest) hlen hst (by show 2 * 0 + _ ≤ _; rw [Nat.mul_zero, Nat.zero_add]; exact hW) (hb K.2.1 hd) (fun _ _ => ⟨rfl, hT, Nat.le_trans (Nat.add_le_add_right h1 _) hk, Nat.le_trans (Nat.add_le_add_right h2 _) hN⟩)
  dsimp only [Pt.U, Pt.locs, Pt.cells, Pt.slots] at X' e1 e2 e3 s' hQ
  subst e1 e2 e3
  obtain ⟨s2, v2, T2, L2, k2, n2, ok2, X2, b1, b2, N2, q2, hv, stp⟩ := g _ hQ p e s m args below meth c K T' _ _ _ X' (Nat.add_le_add_right h1 _) (Nat.add_le_add_right h2 _) (Fr.app N N') rfl
  exact ⟨s2, v2, T2, L2, k2, n2, ok2, X2, b1, b2, N2, q2, hv, fun fs hl => s'.trans (stp fs hl)⟩
theorem Go.callV {a : Addr} {C : String} (argsL : List Value) (rest : List Value) (q : Nat) (hd : decode code pc = .ok (.invokevirtual i, 3)) (w1 : (Cond.methodLink y.cls i y').before a0 Z = true) (w1' : (Cond.declares y').before a0 Z = true) (w1s : (Cond.selects C y' y').before a0 Z = true) (w2 : (Cond.instanceMethod y').before a0 Z = true) (w3 : (Cond.initialized y'.cls).before a0 Z = true) (w4 : (Cond.code y' code' ml' ret').before a0 Z = true) (E : Exa Z h a C)
    (hpl : plainFor y' = true) (hy : y'.cls ≠ "java/lang/invoke/MethodHandle" ∧ y'.cls ≠ "java/lang/invoke/VarHandle") (hlen : ∀ sig, parseMethodDescriptor y'.desc = some sig → argsL.length = sig.parameters.length) (hst : st = argsL.reverse ++ .ref a :: rest) (hent : ∀ m, entryFrame m (.ref a :: argsL).toArray ml' = mkF m 0 Ls' [])
    (G : Go l Z y' code' ml' ret' R' Q' 0 0 h 0 Ls' []) (W : Nat) (hsz : Ls.size = ml) (hW : (rest.map fun v => v.category).sum ≤ W) (hf : R'.frames + 1 ≤ R.frames) (hl : W + (ml' + 11) + R'.locals ≤ R.locals) (hk : k + R'.cells ≤ R.cells) (hN : n + R'.slots ≤ R.slots) (hq : pc + 3 = q)
    (g : ∀ v h', Q' v h' → GoB wf l Z y code ml ret R Q (k + R'.cells) (n + R'.slots) h' q Ls (v.toList ++ rest)) : GoB wf l Z y code ml ret R Q k n h pc Ls st := by
  subst hq
  intro p e s m args below meth c K T L k' n' X h1 h2 N hT
  obtain ⟨cq, kq, qa, qb, qc⟩ := isOf K.2.2.1 hT E
  obtain ⟨v, vm₁, ⟨T', L', k'', n''⟩, -, X', ⟨Lc, ⟨hQ, N'⟩, e1, e2, e3⟩, s'⟩ := X.virtualBack K.1 K.2.2.2.1 (mvT K.2.2.1 w1) (mvT K.2.2.1 w1') (notFace_of_selects (args := #[]) (mvT K.2.2.1 w1s)) (mvT K.2.2.1 w1s) (mvT K.2.2.1 w2) hy (backOf (W := W) (Q := fun v h L => Q' v h ∧ Fr Z.heap.size L) (Go.met hpl hent G []) K.2.2.1 w4 w3 hf hl) qa qc (g := mkF m pc Ls st) rfl (hsz.trans K.2.2.2.2.1.symm) (Steps.refl _) (argsL := argsL) (rest := rest) hlen hst (by show 2 * 0 + _ ≤ _; rw [Nat.mul_zero, Nat.zero_add]; exact hW) (hb K.2.1 hd) (fun _ _ => ⟨rfl, hT, Nat.le_trans (Nat.add_le_add_right h1 _) hk, Nat.le_trans (Nat.add_le_add_right h2 _) hN⟩)
  dsimp only [Pt.U, Pt.locs, Pt.cells, Pt.slots] at X' e1 e2 e3 s' hQ
  subst e1 e2 e3
  obtain ⟨s2, v2, T2, L2, k2, n2, ok2, X2, b1, b2, N2, q2, hv, stp⟩ := g v _ hQ p e s m args below meth c K T' _ _ _ X' (Nat.add_le_add_right h1 _) (Nat.add_le_add_right h2 _) (Fr.app N N') rfl
  exact ⟨s2, v2, T2, L2, k2, n2, ok2, X2, b1, b2, N2, q2, hv, fun fs hl => s'.trans (stp fs hl)⟩
theorem Go.callCp {a : Addr} (argsL : List Value) (rest : List Value) (q : Nat) (hd : decode code pc = .ok (.invokespecial i, 3)) (hy1 : y'.name = "<init>") (w1 : (Cond.methodLink y.cls i y').before a0 Z = true) (w2 : (Cond.instanceMethod y').before a0 Z = true) (w3 : (Cond.initialized y'.cls).before a0 Z = true) (w4 : (Cond.code y' code' ml' none).before a0 Z = true)
    (hpl : plainFor y' = true) (hy : y'.cls ≠ "java/lang/invoke/MethodHandle" ∧ y'.cls ≠ "java/lang/invoke/VarHandle") (hlen : ∀ sig, parseMethodDescriptor y'.desc = some sig → argsL.length = sig.parameters.length) (hst : st = argsL.reverse ++ .ref a :: rest) (hent : ∀ m, entryFrame m (.ref a :: argsL).toArray ml' = mkF m 0 Ls' [])
    (G : Go l Z y' code' ml' none R' (QV fun h' => h' = h) 0 0 h 0 Ls' []) (W : Nat) (hsz : Ls.size = ml) (hW : (rest.map fun v => v.category).sum ≤ W) (hf : R'.frames + 1 ≤ R.frames) (hl : W + (ml' + 11) + R'.locals ≤ R.locals) (hk : k + R'.cells ≤ R.cells) (hN : n + R'.slots ≤ R.slots) (hq : pc + 3 = q)
    (g : GoB wf l Z y code ml ret R Q (k + R'.cells) (n + R'.slots) h q Ls rest) : GoB wf l Z y code ml ret R Q k n h pc Ls st :=
  Go.callC argsL rest q hd hy1 w1 w2 w3 w4 hpl hy hlen hst hent _ G W hsz hW hf hl hk hN hq (fun h' e => by subst e; exact g)
end Calls

section
variable {y' : MethodName} {code' : ByteArray} {ml' : Nat} {ret' : Option FieldType} {R' : Room} {Ls' : Array Slot} {i : Nat}
theorem Go.callSI (argsL : List Value) (rest : List Value) (q : Nat) (hd : decode code pc = .ok (.invokestatic i, 3)) (w1 : (Cond.methodLink y.cls i y').before a0 Z = true) (w2 : (Cond.static y').before a0 Z = true) (w3 : (Cond.initialized y'.cls).before a0 Z = true) (w4 : (Cond.code y' code' ml' ret').before a0 Z = true)
    (hpl : plainFor y' = true) (hy : y'.cls ≠ "java/lang/invoke/MethodHandle" ∧ y'.cls ≠ "java/lang/invoke/VarHandle") (hlen : ∀ sig, parseMethodDescriptor y'.desc = some sig → argsL.length = sig.parameters.length) (hst : st = argsL.reverse ++ rest) (hent : ∀ m, entryFrame m argsL.toArray ml' = mkF m 0 Ls' [])
    (P' : Int32 → Heap → Prop) (G : Go l Z y' code' ml' ret' R' (QI P') 0 0 h 0 Ls' []) (W : Nat) (hsz : Ls.size = ml) (hW : (rest.map fun v => v.category).sum ≤ W) (hf : R'.frames + 1 ≤ R.frames) (hl : W + (ml' + 11) + R'.locals ≤ R.locals) (hk : k + R'.cells ≤ R.cells) (hN : n + R'.slots ≤ R.slots) (hq : pc + 3 = q)
    (g : ∀ (z : Int32) h', P' z h' → GoB wf l Z y code ml ret R Q (k + R'.cells) (n + R'.slots) h' q Ls (.int z :: rest)) : GoB wf l Z y code ml ret R Q k n h pc Ls st := by
  exact Go.callS argsL rest q hd w1 w2 w3 w4 hpl hy hlen hst hent G W hsz hW hf hl hk hN hq (fun v h' hq' => by obtain ⟨z, e, hp⟩ := hq'; subst e; exact g z h' hp)
end
section
variable {y' : MethodName} {code' : ByteArray} {ml' : Nat} {ret' : Option FieldType} {R' : Room} {Ls' : Array Slot} {i : Nat}
theorem Go.callSIp (argsL : List Value) (rest : List Value) (q : Nat) (hd : decode code pc = .ok (.invokestatic i, 3)) (w1 : (Cond.methodLink y.cls i y').before a0 Z = true) (w2 : (Cond.static y').before a0 Z = true) (w3 : (Cond.initialized y'.cls).before a0 Z = true) (w4 : (Cond.code y' code' ml' ret').before a0 Z = true)
    (hpl : plainFor y' = true) (hy : y'.cls ≠ "java/lang/invoke/MethodHandle" ∧ y'.cls ≠ "java/lang/invoke/VarHandle") (hlen : ∀ sig, parseMethodDescriptor y'.desc = some sig → argsL.length = sig.parameters.length) (hst : st = argsL.reverse ++ rest) (hent : ∀ m, entryFrame m argsL.toArray ml' = mkF m 0 Ls' [])
    (F : Int32) (G : Go l Z y' code' ml' ret' R' (QI fun z h' => z = F ∧ h' = h) 0 0 h 0 Ls' []) (W : Nat) (hsz : Ls.size = ml) (hW : (rest.map fun v => v.category).sum ≤ W) (hf : R'.frames + 1 ≤ R.frames) (hl : W + (ml' + 11) + R'.locals ≤ R.locals) (hk : k + R'.cells ≤ R.cells) (hN : n + R'.slots ≤ R.slots) (hq : pc + 3 = q)
    (g : GoB wf l Z y code ml ret R Q (k + R'.cells) (n + R'.slots) h q Ls (.int F :: rest)) : GoB wf l Z y code ml ret R Q k n h pc Ls st := by
  exact Go.callS argsL rest q hd w1 w2 w3 w4 hpl hy hlen hst hent G W hsz hW hf hl hk hN hq (fun v h' hq' => by obtain ⟨z, e, hp, hh⟩ := hq'; subst e; subst hh; rw [hp]; exact g)
end
section
variable {y' : MethodName} {code' : ByteArray} {ml' : Nat} {ret' : Option FieldType} {R' : Room} {Ls' : Array Slot} {i : Nat}
theorem Go.callSIe (argsL : List Value) (rest : List Value) (q : Nat) (hd : decode code pc = .ok (.invokestatic i, 3)) (w1 : (Cond.methodLink y.cls i y').before a0 Z = true) (w2 : (Cond.static y').before a0 Z = true) (w3 : (Cond.initialized y'.cls).before a0 Z = true) (w4 : (Cond.code y' code' ml' ret').before a0 Z = true)
    (hpl : plainFor y' = true) (hy : y'.cls ≠ "java/lang/invoke/MethodHandle" ∧ y'.cls ≠ "java/lang/invoke/VarHandle") (hlen : ∀ sig, parseMethodDescriptor y'.desc = some sig → argsL.length = sig.parameters.length) (hst : st = argsL.reverse ++ rest) (hent : ∀ m, entryFrame m argsL.toArray ml' = mkF m 0 Ls' [])
    (F : Int32) (P' : Heap → Prop) (G : Go l Z y' code' ml' ret' R' (QI fun z h' => z = F ∧ P' h') 0 0 h 0 Ls' []) (W : Nat) (hsz : Ls.size = ml) (hW : (rest.map fun v => v.category).sum ≤ W) (hf : R'.frames + 1 ≤ R.frames) (hl : W + (ml' + 11) + R'.locals ≤ R.locals) (hk : k + R'.cells ≤ R.cells) (hN : n + R'.slots ≤ R.slots) (hq : pc + 3 = q)
    (g : ∀ h', P' h' → GoB wf l Z y code ml ret R Q (k + R'.cells) (n + R'.slots) h' q Ls (.int F :: rest)) : GoB wf l Z y code ml ret R Q k n h pc Ls st := by
  exact Go.callS argsL rest q hd w1 w2 w3 w4 hpl hy hlen hst hent G W hsz hW hf hl hk hN hq (fun v h' hq' => by obtain ⟨z, e, hp, hh⟩ := hq'; subst e; rw [hp]; exact g h' hh)
end
section
variable {y' : MethodName} {code' : ByteArray} {ml' : Nat} {ret' : Option FieldType} {R' : Room} {Ls' : Array Slot} {i : Nat}
theorem Go.callSJ (argsL : List Value) (rest : List Value) (q : Nat) (hd : decode code pc = .ok (.invokestatic i, 3)) (w1 : (Cond.methodLink y.cls i y').before a0 Z = true) (w2 : (Cond.static y').before a0 Z = true) (w3 : (Cond.initialized y'.cls).before a0 Z = true) (w4 : (Cond.code y' code' ml' ret').before a0 Z = true)
    (hpl : plainFor y' = true) (hy : y'.cls ≠ "java/lang/invoke/MethodHandle" ∧ y'.cls ≠ "java/lang/invoke/VarHandle") (hlen : ∀ sig, parseMethodDescriptor y'.desc = some sig → argsL.length = sig.parameters.length) (hst : st = argsL.reverse ++ rest) (hent : ∀ m, entryFrame m argsL.toArray ml' = mkF m 0 Ls' [])
    (P' : Int64 → Heap → Prop) (G : Go l Z y' code' ml' ret' R' (QJ P') 0 0 h 0 Ls' []) (W : Nat) (hsz : Ls.size = ml) (hW : (rest.map fun v => v.category).sum ≤ W) (hf : R'.frames + 1 ≤ R.frames) (hl : W + (ml' + 11) + R'.locals ≤ R.locals) (hk : k + R'.cells ≤ R.cells) (hN : n + R'.slots ≤ R.slots) (hq : pc + 3 = q)
    (g : ∀ (z : Int64) h', P' z h' → GoB wf l Z y code ml ret R Q (k + R'.cells) (n + R'.slots) h' q Ls (.long z :: rest)) : GoB wf l Z y code ml ret R Q k n h pc Ls st := by
  exact Go.callS argsL rest q hd w1 w2 w3 w4 hpl hy hlen hst hent G W hsz hW hf hl hk hN hq (fun v h' hq' => by obtain ⟨z, e, hp⟩ := hq'; subst e; exact g z h' hp)
end
section
variable {y' : MethodName} {code' : ByteArray} {ml' : Nat} {ret' : Option FieldType} {R' : Room} {Ls' : Array Slot} {i : Nat}
theorem Go.callSJp (argsL : List Value) (rest : List Value) (q : Nat) (hd : decode code pc = .ok (.invokestatic i, 3)) (w1 : (Cond.methodLink y.cls i y').before a0 Z = true) (w2 : (Cond.static y').before a0 Z = true) (w3 : (Cond.initialized y'.cls).before a0 Z = true) (w4 : (Cond.code y' code' ml' ret').before a0 Z = true)
    (hpl : plainFor y' = true) (hy : y'.cls ≠ "java/lang/invoke/MethodHandle" ∧ y'.cls ≠ "java/lang/invoke/VarHandle") (hlen : ∀ sig, parseMethodDescriptor y'.desc = some sig → argsL.length = sig.parameters.length) (hst : st = argsL.reverse ++ rest) (hent : ∀ m, entryFrame m argsL.toArray ml' = mkF m 0 Ls' [])
    (F : Int64) (G : Go l Z y' code' ml' ret' R' (QJ fun z h' => z = F ∧ h' = h) 0 0 h 0 Ls' []) (W : Nat) (hsz : Ls.size = ml) (hW : (rest.map fun v => v.category).sum ≤ W) (hf : R'.frames + 1 ≤ R.frames) (hl : W + (ml' + 11) + R'.locals ≤ R.locals) (hk : k + R'.cells ≤ R.cells) (hN : n + R'.slots ≤ R.slots) (hq : pc + 3 = q)
    (g : GoB wf l Z y code ml ret R Q (k + R'.cells) (n + R'.slots) h q Ls (.long F :: rest)) : GoB wf l Z y code ml ret R Q k n h pc Ls st := by
  exact Go.callS argsL rest q hd w1 w2 w3 w4 hpl hy hlen hst hent G W hsz hW hf hl hk hN hq (fun v h' hq' => by obtain ⟨z, e, hp, hh⟩ := hq'; subst e; subst hh; rw [hp]; exact g)
end
section
variable {y' : MethodName} {code' : ByteArray} {ml' : Nat} {ret' : Option FieldType} {R' : Room} {Ls' : Array Slot} {i : Nat}
theorem Go.callSJe (argsL : List Value) (rest : List Value) (q : Nat) (hd : decode code pc = .ok (.invokestatic i, 3)) (w1 : (Cond.methodLink y.cls i y').before a0 Z = true) (w2 : (Cond.static y').before a0 Z = true) (w3 : (Cond.initialized y'.cls).before a0 Z = true) (w4 : (Cond.code y' code' ml' ret').before a0 Z = true)
    (hpl : plainFor y' = true) (hy : y'.cls ≠ "java/lang/invoke/MethodHandle" ∧ y'.cls ≠ "java/lang/invoke/VarHandle") (hlen : ∀ sig, parseMethodDescriptor y'.desc = some sig → argsL.length = sig.parameters.length) (hst : st = argsL.reverse ++ rest) (hent : ∀ m, entryFrame m argsL.toArray ml' = mkF m 0 Ls' [])
    (F : Int64) (P' : Heap → Prop) (G : Go l Z y' code' ml' ret' R' (QJ fun z h' => z = F ∧ P' h') 0 0 h 0 Ls' []) (W : Nat) (hsz : Ls.size = ml) (hW : (rest.map fun v => v.category).sum ≤ W) (hf : R'.frames + 1 ≤ R.frames) (hl : W + (ml' + 11) + R'.locals ≤ R.locals) (hk : k + R'.cells ≤ R.cells) (hN : n + R'.slots ≤ R.slots) (hq : pc + 3 = q)
    (g : ∀ h', P' h' → GoB wf l Z y code ml ret R Q (k + R'.cells) (n + R'.slots) h' q Ls (.long F :: rest)) : GoB wf l Z y code ml ret R Q k n h pc Ls st := by
  exact Go.callS argsL rest q hd w1 w2 w3 w4 hpl hy hlen hst hent G W hsz hW hf hl hk hN hq (fun v h' hq' => by obtain ⟨z, e, hp, hh⟩ := hq'; subst e; rw [hp]; exact g h' hh)
end
section
variable {y' : MethodName} {code' : ByteArray} {ml' : Nat} {ret' : Option FieldType} {R' : Room} {Ls' : Array Slot} {i : Nat}
theorem Go.callSR (argsL : List Value) (rest : List Value) (q : Nat) (hd : decode code pc = .ok (.invokestatic i, 3)) (w1 : (Cond.methodLink y.cls i y').before a0 Z = true) (w2 : (Cond.static y').before a0 Z = true) (w3 : (Cond.initialized y'.cls).before a0 Z = true) (w4 : (Cond.code y' code' ml' ret').before a0 Z = true)
    (hpl : plainFor y' = true) (hy : y'.cls ≠ "java/lang/invoke/MethodHandle" ∧ y'.cls ≠ "java/lang/invoke/VarHandle") (hlen : ∀ sig, parseMethodDescriptor y'.desc = some sig → argsL.length = sig.parameters.length) (hst : st = argsL.reverse ++ rest) (hent : ∀ m, entryFrame m argsL.toArray ml' = mkF m 0 Ls' [])
    (P' : Value → Heap → Prop) (G : Go l Z y' code' ml' ret' R' (QR P') 0 0 h 0 Ls' []) (W : Nat) (hsz : Ls.size = ml) (hW : (rest.map fun v => v.category).sum ≤ W) (hf : R'.frames + 1 ≤ R.frames) (hl : W + (ml' + 11) + R'.locals ≤ R.locals) (hk : k + R'.cells ≤ R.cells) (hN : n + R'.slots ≤ R.slots) (hq : pc + 3 = q)
    (g : ∀ (z : Value) h', P' z h' → GoB wf l Z y code ml ret R Q (k + R'.cells) (n + R'.slots) h' q Ls ( z :: rest)) : GoB wf l Z y code ml ret R Q k n h pc Ls st := by
  exact Go.callS argsL rest q hd w1 w2 w3 w4 hpl hy hlen hst hent G W hsz hW hf hl hk hN hq (fun v h' hq' => by obtain ⟨z, e, hp⟩ := hq'; subst e; exact g z h' hp)
end
section
variable {y' : MethodName} {code' : ByteArray} {ml' : Nat} {ret' : Option FieldType} {R' : Room} {Ls' : Array Slot} {i : Nat}
theorem Go.callSRp (argsL : List Value) (rest : List Value) (q : Nat) (hd : decode code pc = .ok (.invokestatic i, 3)) (w1 : (Cond.methodLink y.cls i y').before a0 Z = true) (w2 : (Cond.static y').before a0 Z = true) (w3 : (Cond.initialized y'.cls).before a0 Z = true) (w4 : (Cond.code y' code' ml' ret').before a0 Z = true)
    (hpl : plainFor y' = true) (hy : y'.cls ≠ "java/lang/invoke/MethodHandle" ∧ y'.cls ≠ "java/lang/invoke/VarHandle") (hlen : ∀ sig, parseMethodDescriptor y'.desc = some sig → argsL.length = sig.parameters.length) (hst : st = argsL.reverse ++ rest) (hent : ∀ m, entryFrame m argsL.toArray ml' = mkF m 0 Ls' [])
    (F : Value) (G : Go l Z y' code' ml' ret' R' (QR fun z h' => z = F ∧ h' = h) 0 0 h 0 Ls' []) (W : Nat) (hsz : Ls.size = ml) (hW : (rest.map fun v => v.category).sum ≤ W) (hf : R'.frames + 1 ≤ R.frames) (hl : W + (ml' + 11) + R'.locals ≤ R.locals) (hk : k + R'.cells ≤ R.cells) (hN : n + R'.slots ≤ R.slots) (hq : pc + 3 = q)
    (g : GoB wf l Z y code ml ret R Q (k + R'.cells) (n + R'.slots) h q Ls ( F :: rest)) : GoB wf l Z y code ml ret R Q k n h pc Ls st := by
  exact Go.callS argsL rest q hd w1 w2 w3 w4 hpl hy hlen hst hent G W hsz hW hf hl hk hN hq (fun v h' hq' => by obtain ⟨z, e, hp, hh⟩ := hq'; subst e; subst hh; rw [hp]; exact g)
end
section
variable {y' : MethodName} {code' : ByteArray} {ml' : Nat} {ret' : Option FieldType} {R' : Room} {Ls' : Array Slot} {i : Nat}
theorem Go.callSRe (argsL : List Value) (rest : List Value) (q : Nat) (hd : decode code pc = .ok (.invokestatic i, 3)) (w1 : (Cond.methodLink y.cls i y').before a0 Z = true) (w2 : (Cond.static y').before a0 Z = true) (w3 : (Cond.initialized y'.cls).before a0 Z = true) (w4 : (Cond.code y' code' ml' ret').before a0 Z = true)
    (hpl : plainFor y' = true) (hy : y'.cls ≠ "java/lang/invoke/MethodHandle" ∧ y'.cls ≠ "java/lang/invoke/VarHandle") (hlen : ∀ sig, parseMethodDescriptor y'.desc = some sig → argsL.length = sig.parameters.length) (hst : st = argsL.reverse ++ rest) (hent : ∀ m, entryFrame m argsL.toArray ml' = mkF m 0 Ls' [])
    (F : Value) (P' : Heap → Prop) (G : Go l Z y' code' ml' ret' R' (QR fun z h' => z = F ∧ P' h') 0 0 h 0 Ls' []) (W : Nat) (hsz : Ls.size = ml) (hW : (rest.map fun v => v.category).sum ≤ W) (hf : R'.frames + 1 ≤ R.frames) (hl : W + (ml' + 11) + R'.locals ≤ R.locals) (hk : k + R'.cells ≤ R.cells) (hN : n + R'.slots ≤ R.slots) (hq : pc + 3 = q)
    (g : ∀ h', P' h' → GoB wf l Z y code ml ret R Q (k + R'.cells) (n + R'.slots) h' q Ls ( F :: rest)) : GoB wf l Z y code ml ret R Q k n h pc Ls st := by
  exact Go.callS argsL rest q hd w1 w2 w3 w4 hpl hy hlen hst hent G W hsz hW hf hl hk hN hq (fun v h' hq' => by obtain ⟨z, e, hp, hh⟩ := hq'; subst e; rw [hp]; exact g h' hh)
end
section
variable {y' : MethodName} {code' : ByteArray} {ml' : Nat} {ret' : Option FieldType} {R' : Room} {Ls' : Array Slot} {i : Nat}
theorem Go.callSV (argsL : List Value) (rest : List Value) (q : Nat) (hd : decode code pc = .ok (.invokestatic i, 3)) (w1 : (Cond.methodLink y.cls i y').before a0 Z = true) (w2 : (Cond.static y').before a0 Z = true) (w3 : (Cond.initialized y'.cls).before a0 Z = true) (w4 : (Cond.code y' code' ml' ret').before a0 Z = true)
    (hpl : plainFor y' = true) (hy : y'.cls ≠ "java/lang/invoke/MethodHandle" ∧ y'.cls ≠ "java/lang/invoke/VarHandle") (hlen : ∀ sig, parseMethodDescriptor y'.desc = some sig → argsL.length = sig.parameters.length) (hst : st = argsL.reverse ++ rest) (hent : ∀ m, entryFrame m argsL.toArray ml' = mkF m 0 Ls' [])
    (P' : Heap → Prop) (G : Go l Z y' code' ml' ret' R' (QV P') 0 0 h 0 Ls' []) (W : Nat) (hsz : Ls.size = ml) (hW : (rest.map fun v => v.category).sum ≤ W) (hf : R'.frames + 1 ≤ R.frames) (hl : W + (ml' + 11) + R'.locals ≤ R.locals) (hk : k + R'.cells ≤ R.cells) (hN : n + R'.slots ≤ R.slots) (hq : pc + 3 = q)
    (g : ∀ h', P' h' → GoB wf l Z y code ml ret R Q (k + R'.cells) (n + R'.slots) h' q Ls rest) : GoB wf l Z y code ml ret R Q k n h pc Ls st := by
  exact Go.callS argsL rest q hd w1 w2 w3 w4 hpl hy hlen hst hent G W hsz hW hf hl hk hN hq (fun v h' hq' => by obtain ⟨e, hp⟩ := hq'; subst e; exact g h' hp)
end
section
variable {y' : MethodName} {code' : ByteArray} {ml' : Nat} {ret' : Option FieldType} {R' : Room} {Ls' : Array Slot} {i : Nat}
theorem Go.callSVp (argsL : List Value) (rest : List Value) (q : Nat) (hd : decode code pc = .ok (.invokestatic i, 3)) (w1 : (Cond.methodLink y.cls i y').before a0 Z = true) (w2 : (Cond.static y').before a0 Z = true) (w3 : (Cond.initialized y'.cls).before a0 Z = true) (w4 : (Cond.code y' code' ml' ret').before a0 Z = true)
    (hpl : plainFor y' = true) (hy : y'.cls ≠ "java/lang/invoke/MethodHandle" ∧ y'.cls ≠ "java/lang/invoke/VarHandle") (hlen : ∀ sig, parseMethodDescriptor y'.desc = some sig → argsL.length = sig.parameters.length) (hst : st = argsL.reverse ++ rest) (hent : ∀ m, entryFrame m argsL.toArray ml' = mkF m 0 Ls' [])
    (G : Go l Z y' code' ml' ret' R' (QV fun h' => h' = h) 0 0 h 0 Ls' []) (W : Nat) (hsz : Ls.size = ml) (hW : (rest.map fun v => v.category).sum ≤ W) (hf : R'.frames + 1 ≤ R.frames) (hl : W + (ml' + 11) + R'.locals ≤ R.locals) (hk : k + R'.cells ≤ R.cells) (hN : n + R'.slots ≤ R.slots) (hq : pc + 3 = q)
    (g : GoB wf l Z y code ml ret R Q (k + R'.cells) (n + R'.slots) h q Ls rest) : GoB wf l Z y code ml ret R Q k n h pc Ls st := by
  exact Go.callS argsL rest q hd w1 w2 w3 w4 hpl hy hlen hst hent G W hsz hW hf hl hk hN hq (fun v h' hq' => by obtain ⟨e, hp⟩ := hq'; subst e; subst hp; exact g)
end
section
variable {y' : MethodName} {code' : ByteArray} {ml' : Nat} {ret' : Option FieldType} {R' : Room} {Ls' : Array Slot} {i : Nat}
theorem Go.callVI {a : Addr} {C : String} (argsL : List Value) (rest : List Value) (q : Nat) (hd : decode code pc = .ok (.invokevirtual i, 3)) (w1 : (Cond.methodLink y.cls i y').before a0 Z = true) (w1' : (Cond.declares y').before a0 Z = true) (w1s : (Cond.selects C y' y').before a0 Z = true) (w2 : (Cond.instanceMethod y').before a0 Z = true) (w3 : (Cond.initialized y'.cls).before a0 Z = true) (w4 : (Cond.code y' code' ml' ret').before a0 Z = true) (E : Exa Z h a C)
    (hpl : plainFor y' = true) (hy : y'.cls ≠ "java/lang/invoke/MethodHandle" ∧ y'.cls ≠ "java/lang/invoke/VarHandle") (hlen : ∀ sig, parseMethodDescriptor y'.desc = some sig → argsL.length = sig.parameters.length) (hst : st = argsL.reverse ++ .ref a :: rest) (hent : ∀ m, entryFrame m (.ref a :: argsL).toArray ml' = mkF m 0 Ls' [])
    (P' : Int32 → Heap → Prop) (G : Go l Z y' code' ml' ret' R' (QI P') 0 0 h 0 Ls' []) (W : Nat) (hsz : Ls.size = ml) (hW : (rest.map fun v => v.category).sum ≤ W) (hf : R'.frames + 1 ≤ R.frames) (hl : W + (ml' + 11) + R'.locals ≤ R.locals) (hk : k + R'.cells ≤ R.cells) (hN : n + R'.slots ≤ R.slots) (hq : pc + 3 = q)
    (g : ∀ (z : Int32) h', P' z h' → GoB wf l Z y code ml ret R Q (k + R'.cells) (n + R'.slots) h' q Ls (.int z :: rest)) : GoB wf l Z y code ml ret R Q k n h pc Ls st := by
  exact Go.callV argsL rest q hd w1 w1' w1s w2 w3 w4 E hpl hy hlen hst hent G W hsz hW hf hl hk hN hq (fun v h' hq' => by obtain ⟨z, e, hp⟩ := hq'; subst e; exact g z h' hp)
end
section
variable {y' : MethodName} {code' : ByteArray} {ml' : Nat} {ret' : Option FieldType} {R' : Room} {Ls' : Array Slot} {i : Nat}
theorem Go.callVIp {a : Addr} {C : String} (argsL : List Value) (rest : List Value) (q : Nat) (hd : decode code pc = .ok (.invokevirtual i, 3)) (w1 : (Cond.methodLink y.cls i y').before a0 Z = true) (w1' : (Cond.declares y').before a0 Z = true) (w1s : (Cond.selects C y' y').before a0 Z = true) (w2 : (Cond.instanceMethod y').before a0 Z = true) (w3 : (Cond.initialized y'.cls).before a0 Z = true) (w4 : (Cond.code y' code' ml' ret').before a0 Z = true) (E : Exa Z h a C)
    (hpl : plainFor y' = true) (hy : y'.cls ≠ "java/lang/invoke/MethodHandle" ∧ y'.cls ≠ "java/lang/invoke/VarHandle") (hlen : ∀ sig, parseMethodDescriptor y'.desc = some sig → argsL.length = sig.parameters.length) (hst : st = argsL.reverse ++ .ref a :: rest) (hent : ∀ m, entryFrame m (.ref a :: argsL).toArray ml' = mkF m 0 Ls' [])
    (F : Int32) (G : Go l Z y' code' ml' ret' R' (QI fun z h' => z = F ∧ h' = h) 0 0 h 0 Ls' []) (W : Nat) (hsz : Ls.size = ml) (hW : (rest.map fun v => v.category).sum ≤ W) (hf : R'.frames + 1 ≤ R.frames) (hl : W + (ml' + 11) + R'.locals ≤ R.locals) (hk : k + R'.cells ≤ R.cells) (hN : n + R'.slots ≤ R.slots) (hq : pc + 3 = q)
    (g : GoB wf l Z y code ml ret R Q (k + R'.cells) (n + R'.slots) h q Ls (.int F :: rest)) : GoB wf l Z y code ml ret R Q k n h pc Ls st := by
  exact Go.callV argsL rest q hd w1 w1' w1s w2 w3 w4 E hpl hy hlen hst hent G W hsz hW hf hl hk hN hq (fun v h' hq' => by obtain ⟨z, e, hp, hh⟩ := hq'; subst e; subst hh; rw [hp]; exact g)
end
section
variable {y' : MethodName} {code' : ByteArray} {ml' : Nat} {ret' : Option FieldType} {R' : Room} {Ls' : Array Slot} {i : Nat}
theorem Go.callVIe {a : Addr} {C : String} (argsL : List Value) (rest : List Value) (q : Nat) (hd : decode code pc = .ok (.invokevirtual i, 3)) (w1 : (Cond.methodLink y.cls i y').before a0 Z = true) (w1' : (Cond.declares y').before a0 Z = true) (w1s : (Cond.selects C y' y').before a0 Z = true) (w2 : (Cond.instanceMethod y').before a0 Z = true) (w3 : (Cond.initialized y'.cls).before a0 Z = true) (w4 : (Cond.code y' code' ml' ret').before a0 Z = true) (E : Exa Z h a C)
    (hpl : plainFor y' = true) (hy : y'.cls ≠ "java/lang/invoke/MethodHandle" ∧ y'.cls ≠ "java/lang/invoke/VarHandle") (hlen : ∀ sig, parseMethodDescriptor y'.desc = some sig → argsL.length = sig.parameters.length) (hst : st = argsL.reverse ++ .ref a :: rest) (hent : ∀ m, entryFrame m (.ref a :: argsL).toArray ml' = mkF m 0 Ls' [])
    (F : Int32) (P' : Heap → Prop) (G : Go l Z y' code' ml' ret' R' (QI fun z h' => z = F ∧ P' h') 0 0 h 0 Ls' []) (W : Nat) (hsz : Ls.size = ml) (hW : (rest.map fun v => v.category).sum ≤ W) (hf : R'.frames + 1 ≤ R.frames) (hl : W + (ml' + 11) + R'.locals ≤ R.locals) (hk : k + R'.cells ≤ R.cells) (hN : n + R'.slots ≤ R.slots) (hq : pc + 3 = q)
    (g : ∀ h', P' h' → GoB wf l Z y code ml ret R Q (k + R'.cells) (n + R'.slots) h' q Ls (.int F :: rest)) : GoB wf l Z y code ml ret R Q k n h pc Ls st := by
  exact Go.callV argsL rest q hd w1 w1' w1s w2 w3 w4 E hpl hy hlen hst hent G W hsz hW hf hl hk hN hq (fun v h' hq' => by obtain ⟨z, e, hp, hh⟩ := hq'; subst e; rw [hp]; exact g h' hh)
end
section
variable {y' : MethodName} {code' : ByteArray} {ml' : Nat} {ret' : Option FieldType} {R' : Room} {Ls' : Array Slot} {i : Nat}
theorem Go.callVJ {a : Addr} {C : String} (argsL : List Value) (rest : List Value) (q : Nat) (hd : decode code pc = .ok (.invokevirtual i, 3)) (w1 : (Cond.methodLink y.cls i y').before a0 Z = true) (w1' : (Cond.declares y').before a0 Z = true) (w1s : (Cond.selects C y' y').before a0 Z = true) (w2 : (Cond.instanceMethod y').before a0 Z = true) (w3 : (Cond.initialized y'.cls).before a0 Z = true) (w4 : (Cond.code y' code' ml' ret').before a0 Z = true) (E : Exa Z h a C)
    (hpl : plainFor y' = true) (hy : y'.cls ≠ "java/lang/invoke/MethodHandle" ∧ y'.cls ≠ "java/lang/invoke/VarHandle") (hlen : ∀ sig, parseMethodDescriptor y'.desc = some sig → argsL.length = sig.parameters.length) (hst : st = argsL.reverse ++ .ref a :: rest) (hent : ∀ m, entryFrame m (.ref a :: argsL).toArray ml' = mkF m 0 Ls' [])
    (P' : Int64 → Heap → Prop) (G : Go l Z y' code' ml' ret' R' (QJ P') 0 0 h 0 Ls' []) (W : Nat) (hsz : Ls.size = ml) (hW : (rest.map fun v => v.category).sum ≤ W) (hf : R'.frames + 1 ≤ R.frames) (hl : W + (ml' + 11) + R'.locals ≤ R.locals) (hk : k + R'.cells ≤ R.cells) (hN : n + R'.slots ≤ R.slots) (hq : pc + 3 = q)
    (g : ∀ (z : Int64) h', P' z h' → GoB wf l Z y code ml ret R Q (k + R'.cells) (n + R'.slots) h' q Ls (.long z :: rest)) : GoB wf l Z y code ml ret R Q k n h pc Ls st := by
  exact Go.callV argsL rest q hd w1 w1' w1s w2 w3 w4 E hpl hy hlen hst hent G W hsz hW hf hl hk hN hq (fun v h' hq' => by obtain ⟨z, e, hp⟩ := hq'; subst e; exact g z h' hp)
end
section
variable {y' : MethodName} {code' : ByteArray} {ml' : Nat} {ret' : Option FieldType} {R' : Room} {Ls' : Array Slot} {i : Nat}
theorem Go.callVJp {a : Addr} {C : String} (argsL : List Value) (rest : List Value) (q : Nat) (hd : decode code pc = .ok (.invokevirtual i, 3)) (w1 : (Cond.methodLink y.cls i y').before a0 Z = true) (w1' : (Cond.declares y').before a0 Z = true) (w1s : (Cond.selects C y' y').before a0 Z = true) (w2 : (Cond.instanceMethod y').before a0 Z = true) (w3 : (Cond.initialized y'.cls).before a0 Z = true) (w4 : (Cond.code y' code' ml' ret').before a0 Z = true) (E : Exa Z h a C)
    (hpl : plainFor y' = true) (hy : y'.cls ≠ "java/lang/invoke/MethodHandle" ∧ y'.cls ≠ "java/lang/invoke/VarHandle") (hlen : ∀ sig, parseMethodDescriptor y'.desc = some sig → argsL.length = sig.parameters.length) (hst : st = argsL.reverse ++ .ref a :: rest) (hent : ∀ m, entryFrame m (.ref a :: argsL).toArray ml' = mkF m 0 Ls' [])
    (F : Int64) (G : Go l Z y' code' ml' ret' R' (QJ fun z h' => z = F ∧ h' = h) 0 0 h 0 Ls' []) (W : Nat) (hsz : Ls.size = ml) (hW : (rest.map fun v => v.category).sum ≤ W) (hf : R'.frames + 1 ≤ R.frames) (hl : W + (ml' + 11) + R'.locals ≤ R.locals) (hk : k + R'.cells ≤ R.cells) (hN : n + R'.slots ≤ R.slots) (hq : pc + 3 = q)
    (g : GoB wf l Z y code ml ret R Q (k + R'.cells) (n + R'.slots) h q Ls (.long F :: rest)) : GoB wf l Z y code ml ret R Q k n h pc Ls st := by
  exact Go.callV argsL rest q hd w1 w1' w1s w2 w3 w4 E hpl hy hlen hst hent G W hsz hW hf hl hk hN hq (fun v h' hq' => by obtain ⟨z, e, hp, hh⟩ := hq'; subst e; subst hh; rw [hp]; exact g)
end
section
variable {y' : MethodName} {code' : ByteArray} {ml' : Nat} {ret' : Option FieldType} {R' : Room} {Ls' : Array Slot} {i : Nat}
theorem Go.callVJe {a : Addr} {C : String} (argsL : List Value) (rest : List Value) (q : Nat) (hd : decode code pc = .ok (.invokevirtual i, 3)) (w1 : (Cond.methodLink y.cls i y').before a0 Z = true) (w1' : (Cond.declares y').before a0 Z = true) (w1s : (Cond.selects C y' y').before a0 Z = true) (w2 : (Cond.instanceMethod y').before a0 Z = true) (w3 : (Cond.initialized y'.cls).before a0 Z = true) (w4 : (Cond.code y' code' ml' ret').before a0 Z = true) (E : Exa Z h a C)
    (hpl : plainFor y' = true) (hy : y'.cls ≠ "java/lang/invoke/MethodHandle" ∧ y'.cls ≠ "java/lang/invoke/VarHandle") (hlen : ∀ sig, parseMethodDescriptor y'.desc = some sig → argsL.length = sig.parameters.length) (hst : st = argsL.reverse ++ .ref a :: rest) (hent : ∀ m, entryFrame m (.ref a :: argsL).toArray ml' = mkF m 0 Ls' [])
    (F : Int64) (P' : Heap → Prop) (G : Go l Z y' code' ml' ret' R' (QJ fun z h' => z = F ∧ P' h') 0 0 h 0 Ls' []) (W : Nat) (hsz : Ls.size = ml) (hW : (rest.map fun v => v.category).sum ≤ W) (hf : R'.frames + 1 ≤ R.frames) (hl : W + (ml' + 11) + R'.locals ≤ R.locals) (hk : k + R'.cells ≤ R.cells) (hN : n + R'.slots ≤ R.slots) (hq : pc + 3 = q)
    (g : ∀ h', P' h' → GoB wf l Z y code ml ret R Q (k + R'.cells) (n + R'.slots) h' q Ls (.long F :: rest)) : GoB wf l Z y code ml ret R Q k n h pc Ls st := by
  exact Go.callV argsL rest q hd w1 w1' w1s w2 w3 w4 E hpl hy hlen hst hent G W hsz hW hf hl hk hN hq (fun v h' hq' => by obtain ⟨z, e, hp, hh⟩ := hq'; subst e; rw [hp]; exact g h' hh)
end
section
variable {y' : MethodName} {code' : ByteArray} {ml' : Nat} {ret' : Option FieldType} {R' : Room} {Ls' : Array Slot} {i : Nat}
theorem Go.callVR {a : Addr} {C : String} (argsL : List Value) (rest : List Value) (q : Nat) (hd : decode code pc = .ok (.invokevirtual i, 3)) (w1 : (Cond.methodLink y.cls i y').before a0 Z = true) (w1' : (Cond.declares y').before a0 Z = true) (w1s : (Cond.selects C y' y').before a0 Z = true) (w2 : (Cond.instanceMethod y').before a0 Z = true) (w3 : (Cond.initialized y'.cls).before a0 Z = true) (w4 : (Cond.code y' code' ml' ret').before a0 Z = true) (E : Exa Z h a C)
    (hpl : plainFor y' = true) (hy : y'.cls ≠ "java/lang/invoke/MethodHandle" ∧ y'.cls ≠ "java/lang/invoke/VarHandle") (hlen : ∀ sig, parseMethodDescriptor y'.desc = some sig → argsL.length = sig.parameters.length) (hst : st = argsL.reverse ++ .ref a :: rest) (hent : ∀ m, entryFrame m (.ref a :: argsL).toArray ml' = mkF m 0 Ls' [])
    (P' : Value → Heap → Prop) (G : Go l Z y' code' ml' ret' R' (QR P') 0 0 h 0 Ls' []) (W : Nat) (hsz : Ls.size = ml) (hW : (rest.map fun v => v.category).sum ≤ W) (hf : R'.frames + 1 ≤ R.frames) (hl : W + (ml' + 11) + R'.locals ≤ R.locals) (hk : k + R'.cells ≤ R.cells) (hN : n + R'.slots ≤ R.slots) (hq : pc + 3 = q)
    (g : ∀ (z : Value) h', P' z h' → GoB wf l Z y code ml ret R Q (k + R'.cells) (n + R'.slots) h' q Ls ( z :: rest)) : GoB wf l Z y code ml ret R Q k n h pc Ls st := by
  exact Go.callV argsL rest q hd w1 w1' w1s w2 w3 w4 E hpl hy hlen hst hent G W hsz hW hf hl hk hN hq (fun v h' hq' => by obtain ⟨z, e, hp⟩ := hq'; subst e; exact g z h' hp)
end
section
variable {y' : MethodName} {code' : ByteArray} {ml' : Nat} {ret' : Option FieldType} {R' : Room} {Ls' : Array Slot} {i : Nat}
theorem Go.callVRp {a : Addr} {C : String} (argsL : List Value) (rest : List Value) (q : Nat) (hd : decode code pc = .ok (.invokevirtual i, 3)) (w1 : (Cond.methodLink y.cls i y').before a0 Z = true) (w1' : (Cond.declares y').before a0 Z = true) (w1s : (Cond.selects C y' y').before a0 Z = true) (w2 : (Cond.instanceMethod y').before a0 Z = true) (w3 : (Cond.initialized y'.cls).before a0 Z = true) (w4 : (Cond.code y' code' ml' ret').before a0 Z = true) (E : Exa Z h a C)
    (hpl : plainFor y' = true) (hy : y'.cls ≠ "java/lang/invoke/MethodHandle" ∧ y'.cls ≠ "java/lang/invoke/VarHandle") (hlen : ∀ sig, parseMethodDescriptor y'.desc = some sig → argsL.length = sig.parameters.length) (hst : st = argsL.reverse ++ .ref a :: rest) (hent : ∀ m, entryFrame m (.ref a :: argsL).toArray ml' = mkF m 0 Ls' [])
    (F : Value) (G : Go l Z y' code' ml' ret' R' (QR fun z h' => z = F ∧ h' = h) 0 0 h 0 Ls' []) (W : Nat) (hsz : Ls.size = ml) (hW : (rest.map fun v => v.category).sum ≤ W) (hf : R'.frames + 1 ≤ R.frames) (hl : W + (ml' + 11) + R'.locals ≤ R.locals) (hk : k + R'.cells ≤ R.cells) (hN : n + R'.slots ≤ R.slots) (hq : pc + 3 = q)
    (g : GoB wf l Z y code ml ret R Q (k + R'.cells) (n + R'.slots) h q Ls ( F :: rest)) : GoB wf l Z y code ml ret R Q k n h pc Ls st := by
  exact Go.callV argsL rest q hd w1 w1' w1s w2 w3 w4 E hpl hy hlen hst hent G W hsz hW hf hl hk hN hq (fun v h' hq' => by obtain ⟨z, e, hp, hh⟩ := hq'; subst e; subst hh; rw [hp]; exact g)
end
section
variable {y' : MethodName} {code' : ByteArray} {ml' : Nat} {ret' : Option FieldType} {R' : Room} {Ls' : Array Slot} {i : Nat}
theorem Go.callVRe {a : Addr} {C : String} (argsL : List Value) (rest : List Value) (q : Nat) (hd : decode code pc = .ok (.invokevirtual i, 3)) (w1 : (Cond.methodLink y.cls i y').before a0 Z = true) (w1' : (Cond.declares y').before a0 Z = true) (w1s : (Cond.selects C y' y').before a0 Z = true) (w2 : (Cond.instanceMethod y').before a0 Z = true) (w3 : (Cond.initialized y'.cls).before a0 Z = true) (w4 : (Cond.code y' code' ml' ret').before a0 Z = true) (E : Exa Z h a C)
    (hpl : plainFor y' = true) (hy : y'.cls ≠ "java/lang/invoke/MethodHandle" ∧ y'.cls ≠ "java/lang/invoke/VarHandle") (hlen : ∀ sig, parseMethodDescriptor y'.desc = some sig → argsL.length = sig.parameters.length) (hst : st = argsL.reverse ++ .ref a :: rest) (hent : ∀ m, entryFrame m (.ref a :: argsL).toArray ml' = mkF m 0 Ls' [])
    (F : Value) (P' : Heap → Prop) (G : Go l Z y' code' ml' ret' R' (QR fun z h' => z = F ∧ P' h') 0 0 h 0 Ls' []) (W : Nat) (hsz : Ls.size = ml) (hW : (rest.map fun v => v.category).sum ≤ W) (hf : R'.frames + 1 ≤ R.frames) (hl : W + (ml' + 11) + R'.locals ≤ R.locals) (hk : k + R'.cells ≤ R.cells) (hN : n + R'.slots ≤ R.slots) (hq : pc + 3 = q)
    (g : ∀ h', P' h' → GoB wf l Z y code ml ret R Q (k + R'.cells) (n + R'.slots) h' q Ls ( F :: rest)) : GoB wf l Z y code ml ret R Q k n h pc Ls st := by
  exact Go.callV argsL rest q hd w1 w1' w1s w2 w3 w4 E hpl hy hlen hst hent G W hsz hW hf hl hk hN hq (fun v h' hq' => by obtain ⟨z, e, hp, hh⟩ := hq'; subst e; rw [hp]; exact g h' hh)
end
section
variable {y' : MethodName} {code' : ByteArray} {ml' : Nat} {ret' : Option FieldType} {R' : Room} {Ls' : Array Slot} {i : Nat}
theorem Go.callVV {a : Addr} {C : String} (argsL : List Value) (rest : List Value) (q : Nat) (hd : decode code pc = .ok (.invokevirtual i, 3)) (w1 : (Cond.methodLink y.cls i y').before a0 Z = true) (w1' : (Cond.declares y').before a0 Z = true) (w1s : (Cond.selects C y' y').before a0 Z = true) (w2 : (Cond.instanceMethod y').before a0 Z = true) (w3 : (Cond.initialized y'.cls).before a0 Z = true) (w4 : (Cond.code y' code' ml' ret').before a0 Z = true) (E : Exa Z h a C)
    (hpl : plainFor y' = true) (hy : y'.cls ≠ "java/lang/invoke/MethodHandle" ∧ y'.cls ≠ "java/lang/invoke/VarHandle") (hlen : ∀ sig, parseMethodDescriptor y'.desc = some sig → argsL.length = sig.parameters.length) (hst : st = argsL.reverse ++ .ref a :: rest) (hent : ∀ m, entryFrame m (.ref a :: argsL).toArray ml' = mkF m 0 Ls' [])
    (P' : Heap → Prop) (G : Go l Z y' code' ml' ret' R' (QV P') 0 0 h 0 Ls' []) (W : Nat) (hsz : Ls.size = ml) (hW : (rest.map fun v => v.category).sum ≤ W) (hf : R'.frames + 1 ≤ R.frames) (hl : W + (ml' + 11) + R'.locals ≤ R.locals) (hk : k + R'.cells ≤ R.cells) (hN : n + R'.slots ≤ R.slots) (hq : pc + 3 = q)
    (g : ∀ h', P' h' → GoB wf l Z y code ml ret R Q (k + R'.cells) (n + R'.slots) h' q Ls rest) : GoB wf l Z y code ml ret R Q k n h pc Ls st := by
  exact Go.callV argsL rest q hd w1 w1' w1s w2 w3 w4 E hpl hy hlen hst hent G W hsz hW hf hl hk hN hq (fun v h' hq' => by obtain ⟨e, hp⟩ := hq'; subst e; exact g h' hp)
end
section
variable {y' : MethodName} {code' : ByteArray} {ml' : Nat} {ret' : Option FieldType} {R' : Room} {Ls' : Array Slot} {i : Nat}
theorem Go.callVVp {a : Addr} {C : String} (argsL : List Value) (rest : List Value) (q : Nat) (hd : decode code pc = .ok (.invokevirtual i, 3)) (w1 : (Cond.methodLink y.cls i y').before a0 Z = true) (w1' : (Cond.declares y').before a0 Z = true) (w1s : (Cond.selects C y' y').before a0 Z = true) (w2 : (Cond.instanceMethod y').before a0 Z = true) (w3 : (Cond.initialized y'.cls).before a0 Z = true) (w4 : (Cond.code y' code' ml' ret').before a0 Z = true) (E : Exa Z h a C)
    (hpl : plainFor y' = true) (hy : y'.cls ≠ "java/lang/invoke/MethodHandle" ∧ y'.cls ≠ "java/lang/invoke/VarHandle") (hlen : ∀ sig, parseMethodDescriptor y'.desc = some sig → argsL.length = sig.parameters.length) (hst : st = argsL.reverse ++ .ref a :: rest) (hent : ∀ m, entryFrame m (.ref a :: argsL).toArray ml' = mkF m 0 Ls' [])
    (G : Go l Z y' code' ml' ret' R' (QV fun h' => h' = h) 0 0 h 0 Ls' []) (W : Nat) (hsz : Ls.size = ml) (hW : (rest.map fun v => v.category).sum ≤ W) (hf : R'.frames + 1 ≤ R.frames) (hl : W + (ml' + 11) + R'.locals ≤ R.locals) (hk : k + R'.cells ≤ R.cells) (hN : n + R'.slots ≤ R.slots) (hq : pc + 3 = q)
    (g : GoB wf l Z y code ml ret R Q (k + R'.cells) (n + R'.slots) h q Ls rest) : GoB wf l Z y code ml ret R Q k n h pc Ls st := by
  exact Go.callV argsL rest q hd w1 w1' w1s w2 w3 w4 E hpl hy hlen hst hent G W hsz hW hf hl hk hN hq (fun v h' hq' => by obtain ⟨e, hp⟩ := hq'; subst e; subst hp; exact g)
end



theorem own_eqf {args : Array Value} {s : State} {t : Term} {O n d : String} {v : Int32} {x : Addr} (ht : t.eval args s none [] s = some (.ref x)) (h : (Jvm.Cond.eq (Term.field t O n d) (Term.int v)).value args s none s [] = some true) : Fld s s.heap x O n d (.int v) := by
  apply Fld.start
  have e := fld_at (C := O) (n := n) (dd := d) ht
  have i : (Term.int v).eval args s none [] s = some (.int v) := Term.int_eval v
  simp only [Jvm.Cond.value, e, i] at h
  cases q : s.fieldOf? x O n d with
  | none => rw [q] at h; simp at h
  | some w =>
    rw [q] at h
    cases w <;> simp at h
    rw [h]
/-- an array of ints, shorts, chars, bytes or booleans, with its elements -/
def Ari (Z : State) (h : Heap) (a : Addr) (ty : FieldType) (xs : List Int32) : Prop := ∃ c : Cell, Arr Z h a c ty ∧ c.slots.toList = xs.map Value.int ∧ xs.length < 2147483648
def Arj (Z : State) (h : Heap) (a : Addr) (xs : List Int64) : Prop := ∃ c : Cell, Arr Z h a c .long ∧ c.slots.toList = xs.map Value.long ∧ xs.length < 2147483648
theorem Ari.lt {a : Addr} {ty : FieldType} {xs : List Int32} (F : Ari Z h a ty xs) : a < h.size := by obtain ⟨c, A, -⟩ := F; exact A.lt
theorem Arj.lt {a : Addr} {xs : List Int64} (F : Arj Z h a xs) : a < h.size := by obtain ⟨c, A, -⟩ := F; exact A.lt
theorem Ari.ext {h' : Heap} {a : Addr} {ty : FieldType} {xs : List Int32} (F : Ari Z h a ty xs) (E : Ext h h') : Ari Z h' a ty xs := by obtain ⟨c, A, r⟩ := F; exact ⟨c, A.ext E, r⟩
theorem Arj.ext {h' : Heap} {a : Addr} {xs : List Int64} (F : Arj Z h a xs) (E : Ext h h') : Arj Z h' a xs := by obtain ⟨c, A, r⟩ := F; exact ⟨c, A.ext E, r⟩
theorem Ari.other {h' : Heap} {a b : Addr} {sl : Nat} {v : Value} {ty : FieldType} {xs : List Int32} (F : Ari Z h b ty xs) (W : Wr h h' a sl v) (q : b ≠ a) : Ari Z h' b ty xs := by obtain ⟨c, A, r⟩ := F; exact ⟨c, A.other W q, r⟩
theorem Arj.other {h' : Heap} {a b : Addr} {sl : Nat} {v : Value} {xs : List Int64} (F : Arj Z h b xs) (W : Wr h h' a sl v) (q : b ≠ a) : Arj Z h' b xs := by obtain ⟨c, A, r⟩ := F; exact ⟨c, A.other W q, r⟩
theorem Ari.keep {h' : Heap} {a : Addr} {ws : List Addr} {ty : FieldType} {xs : List Int32} (F : Ari Z h a ty xs) (K : Keep h h' ws) (q : a ∉ ws) : Ari Z h' a ty xs := by obtain ⟨c, A, r⟩ := F; exact ⟨c, ⟨K.2.1 _ _ A.1 q, A.2⟩, r⟩
theorem Arj.keep {h' : Heap} {a : Addr} {ws : List Addr} {xs : List Int64} (F : Arj Z h a xs) (K : Keep h h' ws) (q : a ∉ ws) : Arj Z h' a xs := by obtain ⟨c, A, r⟩ := F; exact ⟨c, ⟨K.2.1 _ _ A.1 q, A.2⟩, r⟩
theorem own_size {c : Cell} {α : Type} {f : α → Value} {xs : List α} (e : c.slots.toList = xs.map f) : c.slots.size = xs.length := by
  have q := congrArg List.length e
  simpa using q
theorem own_at {c : Cell} {α : Type} {f : α → Value} {xs : List α} (e : c.slots.toList = xs.map f) {i : Nat} {x : α} (hx : xs[i]? = some x) : c.slots[i]? = some (f x) := by
  have q : c.slots.toList[i]? = some (f x) := by rw [e, List.getElem?_map, hx]; rfl
  simpa using q
theorem own_in {c : Cell} {α : Type} {f : α → Value} {xs : List α} (e : c.slots.toList = xs.map f) {i : Nat} {j : Int32} (hj : ¬ j < 0) (hi : j.toNatClampNeg = i) (hx : i < xs.length) : ¬ (j < 0 ∨ c.slots.size ≤ j.toNatClampNeg) := by
  rw [own_size e, hi]; intro q; rcases q with q | q
  · exact hj q
  · exact absurd hx (Nat.not_lt.mpr q)
theorem own_set {c : Cell} {α : Type} {f : α → Value} {xs : List α} (e : c.slots.toList = xs.map f) (i : Nat) (x : α) : (c.setSlot i (f x)).slots.toList = (xs.set i x).map f := by
  show (c.slots.setIfInBounds i (f x)).toList = _
  rw [Array.toList_setIfInBounds, e, List.map_set]
theorem Ari.set {h' : Heap} {a : Addr} {ty : FieldType} {xs xs' : List Int32} {i : Nat} {x : Int32} (F : Ari Z h a ty xs) (W : Wr h h' a i (.int x)) (e : xs.set i x = xs') : Ari Z h' a ty xs' := by
  subst e
  obtain ⟨c, A, r, r2⟩ := F
  exact ⟨_, A.same W, own_set r i x, by rw [List.length_set]; exact r2⟩
theorem Arj.set {h' : Heap} {a : Addr} {xs xs' : List Int64} {i : Nat} {x : Int64} (F : Arj Z h a xs) (W : Wr h h' a i (.long x)) (e : xs.set i x = xs') : Arj Z h' a xs' := by
  subst e
  obtain ⟨c, A, r, r2⟩ := F
  exact ⟨_, A.same W, own_set r i x, by rw [List.length_set]; exact r2⟩

theorem Go.iaload {a : Addr} {j x : Int32} {xs : List Int32} (i : Nat) (q : Nat) (hd : decode code pc = .ok (.iaload, 1)) (A : Ari Z h a .int xs) (hj : ¬ j < 0) (hi : j.toNatClampNeg = i) (hx : xs[i]? = some x) (hq : pc + 1 = q) (g : GoB wf l Z y code ml ret R Q k n h q Ls (.int x :: st)) : GoB wf l Z y code ml ret R Q k n h pc Ls (.int j :: .ref a :: st) := by
  subst hq hi
  obtain ⟨cl, A, r, r2⟩ := A
  have hv := own_at r hx
  have hin := own_in r hj rfl (List.getElem?_eq_some_iff.mp hx).1
  exact g.pure fun p e s m args below meth c K T L k' n' X hT t rr => X.iaload K.1 (cell := cl) (v := .int x) (by rw [hT]; exact A.1) (State.isArrayOf_alike K.2.2.1.alike A.2.1) A.2.2 hin hv (g := mkF m pc Ls (.int j :: .ref a :: st)) rfl rfl (hb K.2.1 hd) t rr
theorem Go.baload {a : Addr} {j x : Int32} {xs : List Int32} (i : Nat) (q : Nat) (hd : decode code pc = .ok (.baload, 1)) (A : Ari Z h a .byte xs) (hj : ¬ j < 0) (hi : j.toNatClampNeg = i) (hx : xs[i]? = some x) (hq : pc + 1 = q) (g : GoB wf l Z y code ml ret R Q k n h q Ls (.int x :: st)) : GoB wf l Z y code ml ret R Q k n h pc Ls (.int j :: .ref a :: st) := by
  subst hq hi
  obtain ⟨cl, A, r, r2⟩ := A
  have hv := own_at r hx
  have hin := own_in r hj rfl (List.getElem?_eq_some_iff.mp hx).1
  exact g.pure fun p e s m args below meth c K T L k' n' X hT t rr => X.baloadBytes K.1 (cell := cl) (v := .int x) (by rw [hT]; exact A.1) (State.isArrayOf_alike K.2.2.1.alike A.2.1) A.2.2 hin hv (g := mkF m pc Ls (.int j :: .ref a :: st)) rfl rfl (hb K.2.1 hd) t rr
theorem Go.zaload {a : Addr} {j x : Int32} {xs : List Int32} (i : Nat) (q : Nat) (hd : decode code pc = .ok (.baload, 1)) (A : Ari Z h a .boolean xs) (hj : ¬ j < 0) (hi : j.toNatClampNeg = i) (hx : xs[i]? = some x) (hq : pc + 1 = q) (g : GoB wf l Z y code ml ret R Q k n h q Ls (.int x :: st)) : GoB wf l Z y code ml ret R Q k n h pc Ls (.int j :: .ref a :: st) := by
  subst hq hi
  obtain ⟨cl, A, r, r2⟩ := A
  have hv := own_at r hx
  have hin := own_in r hj rfl (List.getElem?_eq_some_iff.mp hx).1
  exact g.pure fun p e s m args below meth c K T L k' n' X hT t rr => X.baloadBooleans K.1 (cell := cl) (v := .int x) (by rw [hT]; exact A.1) (State.isArrayOf_alike K.2.2.1.alike A.2.1) A.2.2 hin hv (g := mkF m pc Ls (.int j :: .ref a :: st)) rfl rfl (hb K.2.1 hd) t rr
theorem Go.caload {a : Addr} {j x : Int32} {xs : List Int32} (i : Nat) (q : Nat) (hd : decode code pc = .ok (.caload, 1)) (A : Ari Z h a .char xs) (hj : ¬ j < 0) (hi : j.toNatClampNeg = i) (hx : xs[i]? = some x) (hq : pc + 1 = q) (g : GoB wf l Z y code ml ret R Q k n h q Ls (.int x :: st)) : GoB wf l Z y code ml ret R Q k n h pc Ls (.int j :: .ref a :: st) := by
  subst hq hi
  obtain ⟨cl, A, r, r2⟩ := A
  have hv := own_at r hx
  have hin := own_in r hj rfl (List.getElem?_eq_some_iff.mp hx).1
  exact g.pure fun p e s m args below meth c K T L k' n' X hT t rr => X.caload K.1 (cell := cl) (v := .int x) (by rw [hT]; exact A.1) (State.isArrayOf_alike K.2.2.1.alike A.2.1) A.2.2 hin hv (g := mkF m pc Ls (.int j :: .ref a :: st)) rfl rfl (hb K.2.1 hd) t rr
theorem Go.laload {a : Addr} {j : Int32} {x : Int64} {xs : List Int64} (i : Nat) (q : Nat) (hd : decode code pc = .ok (.laload, 1)) (A : Arj Z h a xs) (hj : ¬ j < 0) (hi : j.toNatClampNeg = i) (hx : xs[i]? = some x) (hq : pc + 1 = q) (g : GoB wf l Z y code ml ret R Q k n h q Ls (.long x :: st)) : GoB wf l Z y code ml ret R Q k n h pc Ls (.int j :: .ref a :: st) := by
  subst hq hi
  obtain ⟨cl, A, r, r2⟩ := A
  have hv := own_at r hx
  have hin := own_in r hj rfl (List.getElem?_eq_some_iff.mp hx).1
  exact g.pure fun p e s m args below meth c K T L k' n' X hT t rr => X.laload K.1 (cell := cl) (v := .long x) (by rw [hT]; exact A.1) (State.isArrayOf_alike K.2.2.1.alike A.2.1) A.2.2 hin hv (g := mkF m pc Ls (.int j :: .ref a :: st)) rfl rfl (hb K.2.1 hd) t rr
theorem Go.arraylength {a : Addr} {ty : FieldType} {xs : List Int32} {z : Int32} (q : Nat) (hd : decode code pc = .ok (.arraylength, 1)) (A : Ari Z h a ty xs) (hz : xs.length.toInt32 = z) (hq : pc + 1 = q) (g : GoB wf l Z y code ml ret R Q k n h q Ls (.int z :: st)) : GoB wf l Z y code ml ret R Q k n h pc Ls (.ref a :: st) := by
  subst hq
  obtain ⟨cl, A, r, r2⟩ := A
  subst hz
  exact g.pure fun p e s m args below meth c K T L k' n' X hT t rr => X.arraylength K.1 (cell := cl) (by rw [hT]; exact A.1) (State.isArrayOf_alike K.2.2.1.alike A.2.1) (g := mkF m pc Ls (.ref a :: st)) rfl rfl (hb K.2.1 hd) t (by rw [own_size r]; exact rr)
theorem Go.arraylengthJ {a : Addr} {xs : List Int64} {z : Int32} (q : Nat) (hd : decode code pc = .ok (.arraylength, 1)) (A : Arj Z h a xs) (hz : xs.length.toInt32 = z) (hq : pc + 1 = q) (g : GoB wf l Z y code ml ret R Q k n h q Ls (.int z :: st)) : GoB wf l Z y code ml ret R Q k n h pc Ls (.ref a :: st) := by
  subst hq
  obtain ⟨cl, A, r, r2⟩ := A
  subst hz
  exact g.pure fun p e s m args below meth c K T L k' n' X hT t rr => X.arraylength K.1 (cell := cl) (by rw [hT]; exact A.1) (State.isArrayOf_alike K.2.2.1.alike A.2.1) (g := mkF m pc Ls (.ref a :: st)) rfl rfl (hb K.2.1 hd) t (by rw [own_size r]; exact rr)
theorem Go.iastore {a : Addr} {j x : Int32} {xs : List Int32} (i : Nat) (xs' : List Int32) (q : Nat) (hd : decode code pc = .ok (.iastore, 1)) (A : Ari Z h a .int xs) (hj : ¬ j < 0) (hi : j.toNatClampNeg = i) (hx : i < xs.length) (he : xs.set i (x) = xs') (hge : Z.heap.size ≤ a) (hq : pc + 1 = q)
    (g : ∀ h', Wr h h' a i (.int (x)) → Ari Z h' a .int xs' → GoB wf l Z y code ml ret R Q k n h' q Ls st) : GoB wf l Z y code ml ret R Q k n h pc Ls (.int x :: .int j :: .ref a :: st) := by
  subst hq hi
  refine GoB.move (P := fun h' => Wr h h' a j.toNatClampNeg (.int (x))) (kk := k) (nn := n) (fun h' W => g h' W (A.set W he)) ?_
  obtain ⟨cl, A, r, r2⟩ := A
  intro p e s m args below meth c K T L k' n' X h1 h2 N hT
  obtain ⟨T', h', X', e', W', s'⟩ := stI X K.1 K.2.2.1 hT A (own_in r hj rfl hx) (g := mkF m pc Ls (.int x :: .int j :: .ref a :: st)) rfl rfl (hb K.2.1 hd)
  exact ⟨T', _, k', n', X', h1, h2, Fr.snoc X' N hge, e' ▸ W', s'⟩
theorem Go.bastore {a : Addr} {j x : Int32} {xs : List Int32} (i : Nat) (xs' : List Int32) (q : Nat) (hd : decode code pc = .ok (.bastore, 1)) (A : Ari Z h a .byte xs) (hj : ¬ j < 0) (hi : j.toNatClampNeg = i) (hx : i < xs.length) (he : xs.set i (nar .byte x) = xs') (hge : Z.heap.size ≤ a) (hq : pc + 1 = q)
    (g : ∀ h', Wr h h' a i (.int (nar .byte x)) → Ari Z h' a .byte xs' → GoB wf l Z y code ml ret R Q k n h' q Ls st) : GoB wf l Z y code ml ret R Q k n h pc Ls (.int x :: .int j :: .ref a :: st) := by
  subst hq hi
  refine GoB.move (P := fun h' => Wr h h' a j.toNatClampNeg (.int (nar .byte x))) (kk := k) (nn := n) (fun h' W => g h' W (A.set W he)) ?_
  obtain ⟨cl, A, r, r2⟩ := A
  intro p e s m args below meth c K T L k' n' X h1 h2 N hT
  obtain ⟨T', h', X', e', W', s'⟩ := stB X K.1 K.2.2.1 hT A (own_in r hj rfl hx) (g := mkF m pc Ls (.int x :: .int j :: .ref a :: st)) rfl rfl (hb K.2.1 hd)
  exact ⟨T', _, k', n', X', h1, h2, Fr.snoc X' N hge, e' ▸ W', s'⟩
theorem Go.zastore {a : Addr} {j x : Int32} {xs : List Int32} (i : Nat) (xs' : List Int32) (q : Nat) (hd : decode code pc = .ok (.bastore, 1)) (A : Ari Z h a .boolean xs) (hj : ¬ j < 0) (hi : j.toNatClampNeg = i) (hx : i < xs.length) (he : xs.set i (nar .boolean x) = xs') (hge : Z.heap.size ≤ a) (hq : pc + 1 = q)
    (g : ∀ h', Wr h h' a i (.int (nar .boolean x)) → Ari Z h' a .boolean xs' → GoB wf l Z y code ml ret R Q k n h' q Ls st) : GoB wf l Z y code ml ret R Q k n h pc Ls (.int x :: .int j :: .ref a :: st) := by
  subst hq hi
  refine GoB.move (P := fun h' => Wr h h' a j.toNatClampNeg (.int (nar .boolean x))) (kk := k) (nn := n) (fun h' W => g h' W (A.set W he)) ?_
  obtain ⟨cl, A, r, r2⟩ := A
  intro p e s m args below meth c K T L k' n' X h1 h2 N hT
  obtain ⟨T', h', X', e', W', s'⟩ := stZ X K.1 K.2.2.1 hT A (own_in r hj rfl hx) (g := mkF m pc Ls (.int x :: .int j :: .ref a :: st)) rfl rfl (hb K.2.1 hd)
  exact ⟨T', _, k', n', X', h1, h2, Fr.snoc X' N hge, e' ▸ W', s'⟩
theorem Go.castore {a : Addr} {j x : Int32} {xs : List Int32} (i : Nat) (xs' : List Int32) (q : Nat) (hd : decode code pc = .ok (.castore, 1)) (A : Ari Z h a .char xs) (hj : ¬ j < 0) (hi : j.toNatClampNeg = i) (hx : i < xs.length) (he : xs.set i (nar .char x) = xs') (hge : Z.heap.size ≤ a) (hq : pc + 1 = q)
    (g : ∀ h', Wr h h' a i (.int (nar .char x)) → Ari Z h' a .char xs' → GoB wf l Z y code ml ret R Q k n h' q Ls st) : GoB wf l Z y code ml ret R Q k n h pc Ls (.int x :: .int j :: .ref a :: st) := by
  subst hq hi
  refine GoB.move (P := fun h' => Wr h h' a j.toNatClampNeg (.int (nar .char x))) (kk := k) (nn := n) (fun h' W => g h' W (A.set W he)) ?_
  obtain ⟨cl, A, r, r2⟩ := A
  intro p e s m args below meth c K T L k' n' X h1 h2 N hT
  obtain ⟨T', h', X', e', W', s'⟩ := stC X K.1 K.2.2.1 hT A (own_in r hj rfl hx) (g := mkF m pc Ls (.int x :: .int j :: .ref a :: st)) rfl rfl (hb K.2.1 hd)
  exact ⟨T', _, k', n', X', h1, h2, Fr.snoc X' N hge, e' ▸ W', s'⟩
theorem Go.lastore {a : Addr} {j : Int32} {x : Int64} {xs : List Int64} (i : Nat) (xs' : List Int64) (q : Nat) (hd : decode code pc = .ok (.lastore, 1)) (A : Arj Z h a xs) (hj : ¬ j < 0) (hi : j.toNatClampNeg = i) (hx : i < xs.length) (he : xs.set i x = xs') (hge : Z.heap.size ≤ a) (hq : pc + 1 = q)
    (g : ∀ h', Wr h h' a i (.long x) → Arj Z h' a xs' → GoB wf l Z y code ml ret R Q k n h' q Ls st) : GoB wf l Z y code ml ret R Q k n h pc Ls (.long x :: .int j :: .ref a :: st) := by
  subst hq hi
  refine GoB.move (P := fun h' => Wr h h' a j.toNatClampNeg (.long x)) (kk := k) (nn := n) (fun h' W => g h' W (A.set W he)) ?_
  obtain ⟨cl, A, r, r2⟩ := A
  intro p e s m args below meth c K T L k' n' X h1 h2 N hT
  obtain ⟨T', h', X', e', W', s'⟩ := stJ X K.1 K.2.2.1 hT A (own_in r hj rfl hx) (g := mkF m pc Ls (.long x :: .int j :: .ref a :: st)) rfl rfl (hb K.2.1 hd)
  exact ⟨T', _, k', n', X', h1, h2, Fr.snoc X' N hge, e' ▸ W', s'⟩
theorem Go.newI {aty : ArrayType} {z : Int32} (cap : Nat) (xs : List Int32) (q : Nat) (hd : decode code pc = .ok (.newarray aty, 2)) (w : (Cond.arrayClass (newarray.typeOf aty)).before a0 Z = true) (hdv : defaultValue (newarray.typeOf aty) = .int 0) (hz : ¬ z < 0) (hcap : z.toNatClampNeg ≤ cap) (hbig : cap * 8 ≤ 536870912) (hxs : List.replicate z.toNatClampNeg 0 = xs) (hk : k + 1 ≤ R.cells) (hN : n + cap ≤ R.slots) (hq : pc + 2 = q)
    (g : ∀ (a : Addr) h', a = h.size → Ext h h' → Ari Z h' a (newarray.typeOf aty) xs → GoB wf l Z y code ml ret R Q (k + 1) (n + cap) h' q Ls (.ref a :: st)) : GoB wf l Z y code ml ret R Q k n h pc Ls (.int z :: st) := by
  subst hq hxs
  refine GoB.move (P := fun h' => Ext h h' ∧ Ari Z h' h.size (newarray.typeOf aty) (List.replicate z.toNatClampNeg 0)) (kk := k + 1) (nn := n + cap) (fun h' p => g h.size h' rfl p.1 p.2) ?_
  intro p e s m args below meth c K T L k' n' X h1 h2 N hT
  obtain ⟨T', h', cA, X', e', E', A', s'⟩ := newP X K.1 K.2.2.1 w hT (g := mkF m pc Ls (.int z :: st)) rfl (hb K.2.1 hd) rfl hz hcap hbig (Nat.le_trans (Nat.add_le_add_right h1 1) hk) (Nat.le_trans (Nat.add_le_add_right h2 cap) hN)
  subst e'
  refine ⟨T', L, k' + 1, n' + cap, X', Nat.add_le_add_right h1 1, Nat.add_le_add_right h2 cap, N, ⟨E', _, A', ?_, ?_⟩, s'⟩
  · show (Array.replicate z.toNatClampNeg (defaultValue (newarray.typeOf aty))).toList = _
    rw [hdv]; simp [List.map_replicate]
  · rw [List.length_replicate]; omega
theorem Go.newJ {aty : ArrayType} {z : Int32} (cap : Nat) (xs : List Int64) (q : Nat) (hd : decode code pc = .ok (.newarray aty, 2)) (w : (Cond.arrayClass (newarray.typeOf aty)).before a0 Z = true) (hdv : newarray.typeOf aty = .long) (hz : ¬ z < 0) (hcap : z.toNatClampNeg ≤ cap) (hbig : cap * 8 ≤ 536870912) (hxs : List.replicate z.toNatClampNeg 0 = xs) (hk : k + 1 ≤ R.cells) (hN : n + cap ≤ R.slots) (hq : pc + 2 = q)
    (g : ∀ (a : Addr) h', a = h.size → Ext h h' → Arj Z h' a xs → GoB wf l Z y code ml ret R Q (k + 1) (n + cap) h' q Ls (.ref a :: st)) : GoB wf l Z y code ml ret R Q k n h pc Ls (.int z :: st) := by
  subst hq hxs
  refine GoB.move (P := fun h' => Ext h h' ∧ Arj Z h' h.size (List.replicate z.toNatClampNeg 0)) (kk := k + 1) (nn := n + cap) (fun h' p => g h.size h' rfl p.1 p.2) ?_
  intro p e s m args below meth c K T L k' n' X h1 h2 N hT
  obtain ⟨T', h', cA, X', e', E', A', s'⟩ := newP X K.1 K.2.2.1 w hT (g := mkF m pc Ls (.int z :: st)) rfl (hb K.2.1 hd) rfl hz hcap hbig (Nat.le_trans (Nat.add_le_add_right h1 1) hk) (Nat.le_trans (Nat.add_le_add_right h2 cap) hN)
  subst e'
  refine ⟨T', L, k' + 1, n' + cap, X', Nat.add_le_add_right h1 1, Nat.add_le_add_right h2 cap, N, ⟨E', _, hdv ▸ A', ?_, ?_⟩, s'⟩
  · show (Array.replicate z.toNatClampNeg (defaultValue .long)).toList = _
    simp [List.map_replicate, defaultValue]
  · rw [List.length_replicate]; omega

theorem own_arv {a : Addr} {ty : FieldType} {xs : List Int32} (F : Ari Z h a ty xs) (hf : ∀ x ∈ xs, fits ty (.int x) = true) : ∃ k : ClassId, Arv Z h a k ty xs.length.toInt32 (xs.map Value.int) (.int 0) := by
  obtain ⟨c, A, r, r2⟩ := F
  have sz := own_size r
  have hz : ¬ xs.length.toInt32 < 0 := by
    have e := len_toInt (n := xs.length) (by omega)
    rw [Int32.lt_iff_toInt_lt, e]
    show ¬ (xs.length : Int) < 0
    omega
  have hn : xs.length.toInt32.toNatClampNeg = xs.length := by
    have e := nat_of hz
    have e2 := len_toInt (n := xs.length) (by omega)
    omega
  have hat : ∀ i, i < c.slots.size → ∃ x, xs[i]? = some x := fun i hi => ⟨xs[i]'(by omega), List.getElem?_eq_getElem (by omega)⟩
  refine ⟨c.cls, c, A, rfl, by rw [sz, hn], hz, fun i hi => ?_, fun i hi => ?_⟩
  · obtain ⟨x, hx⟩ := hat i hi
    rw [own_at r hx, List.getD_eq_getElem?_getD, List.getElem?_map, hx]; rfl
  · obtain ⟨x, hx⟩ := hat i hi
    rw [List.getD_eq_getElem?_getD, List.getElem?_map, hx]
    exact hf x (List.mem_of_getElem? hx)
theorem own_ari {a : Addr} {ty : FieldType} {k : ClassId} {z : Int32} {ys : List Int32} (F : Arv Z h a k ty z (ys.map Value.int) (.int 0)) (hl : z.toNatClampNeg = ys.length) (hb : ys.length < 2147483648) : Ari Z h a ty ys := by
  obtain ⟨c, A, -, sz, -, H, -⟩ := F
  refine ⟨c, A, ?_, hb⟩
  apply List.ext_getElem?
  intro i
  rw [List.getElem?_map]
  by_cases hi : i < c.slots.size
  · have q := H i hi
    rw [Array.getElem?_toList, q, List.getD_eq_getElem?_getD, List.getElem?_map, List.getElem?_eq_getElem (show i < ys.length by omega)]
    rfl
  · rw [List.getElem?_eq_none (by simpa using hi), List.getElem?_eq_none (show ys.length ≤ i by omega)]
    rfl
theorem Go.arraycopy {a b : Addr} {ty : FieldType} {xs ys ys' : List Int32} {sp dp nn : Int32} {i W : Nat} (sN dN n' : Nat) (q : Nat) (hd : decode code pc = .ok (.invokestatic i, 3)) (w1 : (Cond.methodLink y.cls i Jvm.Stand.acN).before a0 Z = true) (w2 : (Cond.native Jvm.Stand.acN).before a0 Z = true) (w3 : (Cond.static Jvm.Stand.acN).before a0 Z = true) (w4 : (Cond.initialized "java/lang/System").before a0 Z = true)
    (A : Ari Z h a ty xs) (B : Ari Z h b ty ys) (hfa : ∀ x ∈ xs, fits ty (.int x) = true) (hfb : ∀ x ∈ ys, fits ty (.int x) = true) (hty : refKind ty = false) (h1 : ¬ sp < 0) (h2 : ¬ dp < 0) (h3 : ¬ nn < 0) (e1 : sp.toNatClampNeg = sN) (e2 : dp.toNatClampNeg = dN) (e3 : nn.toNatClampNeg = n') (l1 : sN + n' ≤ xs.length) (l2 : dN + n' ≤ ys.length) (he : ys.take dN ++ (xs.drop sN).take n' ++ ys.drop (dN + n') = ys')
    (hge : Z.heap.size ≤ b) (hsz : Ls.size = ml) (hfr : 1 ≤ R.frames) (hW : (st.map fun v => v.category).sum ≤ W) (hlo : W + (nativeFrameWords "java/lang/System" "arraycopy" 5 + 11) ≤ R.locals) (hq : pc + 3 = q)
    (g : ∀ h', Keep h h' [b] → Ari Z h' b ty ys' → GoB wf l Z y code ml ret R Q k n h' q Ls st) : GoB wf l Z y code ml ret R Q k n h pc Ls (.int nn :: .int dp :: .ref b :: .int sp :: .ref a :: st) := by
  subst hq e1 e2 e3 he
  refine GoB.move (P := fun h' => Keep h h' [b] ∧ Ari Z h' b ty (ys.take dp.toNatClampNeg ++ (xs.drop sp.toNatClampNeg).take nn.toNatClampNeg ++ ys.drop (dp.toNatClampNeg + nn.toNatClampNeg))) (kk := k) (nn := n) (fun h' p => g h' p.1 p.2) ?_
  obtain ⟨ka, A'⟩ := own_arv A hfa
  obtain ⟨kb, B'⟩ := own_arv B hfb
  obtain ⟨_, _, _, bb⟩ := B
  obtain ⟨_, _, _, ba⟩ := A
  have na : xs.length.toInt32.toNatClampNeg = xs.length := by
    have hz : ¬ xs.length.toInt32 < 0 := A'.choose_spec.2.2.2.1
    have e := nat_of hz
    have e2 := len_toInt (n := xs.length) (by omega)
    omega
  have nb : ys.length.toInt32.toNatClampNeg = ys.length := by
    have hz : ¬ ys.length.toInt32 < 0 := B'.choose_spec.2.2.2.1
    have e := nat_of hz
    have e2 := len_toInt (n := ys.length) (by omega)
    omega
  have hus : ((xs.drop sp.toNatClampNeg).take nn.toNatClampNeg).map Value.int = (List.range nn.toNatClampNeg).map fun i => (xs.map Value.int).getD (sp.toNatClampNeg + i) (.int 0) := by
    apply List.ext_getElem?
    intro i
    simp only [List.getElem?_map, List.getElem?_take, List.getElem?_drop, List.getElem?_range']
    by_cases hi : i < nn.toNatClampNeg
    · rw [if_pos hi, List.getElem?_range hi, Option.map_some, List.getD_eq_getElem?_getD, List.getElem?_map, List.getElem?_eq_getElem (show sp.toNatClampNeg + i < xs.length by omega)]
      rfl
    · rw [if_neg hi, List.getElem?_eq_none (by simpa using hi)]
      rfl
  intro p e s m args below meth c K T L k' n' X h1' h2' N hT
  obtain ⟨T', h', L', X', e', N', K', B2, s'⟩ := cpA X K.1 K.2.2.1 K.2.2.2.1 w1 w2 w3 w4 hT A' B' (Or.inl ⟨rfl, hty⟩) h1 h2 h3 (by rw [na]; exact l1) (by rw [nb]; exact l2) hus (by rw [List.length_map]; exact l2) N hge (g := mkF m pc Ls (.int nn :: .int dp :: .ref b :: .int sp :: .ref a :: st)) rfl (hsz.trans K.2.2.2.2.1.symm) rfl (hb K.2.1 hd) hfr (W := W) (by show 2 * 0 + _ ≤ _; rw [Nat.mul_zero, Nat.zero_add]; exact hW) hlo
  subst e'
  refine ⟨T', L', k', n', X', h1', h2', N', ⟨K', own_ari (z := ys.length.toInt32) (k := kb) ?_ ?_ ?_⟩, s'⟩
  · rw [List.map_append, List.map_append, List.map_take, List.map_drop]; exact B2
  · rw [nb]; simp only [List.length_append, List.length_take, List.length_drop]; omega
  · simp only [List.length_append, List.length_take, List.length_drop]; omega


/-- a String constant: it may intern; the walk goes on over the re-based start -/
theorem Go.ldcS {i : Nat} {text : String} {P : Int32 → Heap → Prop} (nn : Nat) (q : Nat) (hd : decode code pc = .ok (.ldc i, 2)) (w1 : (Cond.stringLink y.cls i text).before a0 Z = true) (wS : ∀ a ∈ Bundle.stringAtoms, a.before a0 Z = true) (hn : 4 * text.toList.length ≤ nn) (hbig : nn ≤ 536870912) (hk : k + 2 ≤ R.cells) (hN : n + (nn + 4) ≤ R.slots) (hq : pc + 2 = q)
    (g : ∀ (a : Addr) h', Ext h h' → Go l Z y code ml ret R (QI fun z hf => P z hf ∧ h'.size ≤ hf.size) (k + 2) (n + (nn + 4)) h' q Ls (.ref a :: st)) : GoB true l Z y code ml ret R (QI P) k n h pc Ls st := by
  subst hq
  intro p e s m args below meth c K T L k' n' X h1 h2 N hT
  have hs0 : s.Since s.vm T.heap.size := State.WarmedH.since (State.WarmedH.refl s) _
  obtain ⟨a, T1, h', k1, X1, e1, E1, S1, l1, Z1, o1, st1⟩ := Jvm.RoadKit.ldcS (s := s) (vm0 := s.vm) X K.1 K.2.2.1 K.2.2.2.1 w1 wS hT hs0 (by rw [hT]; exact Nat.le_refl _) (g := mkF m pc Ls st) rfl (hb K.2.1 hd) hn hbig (Nat.le_trans (Nat.add_le_add_right h1 2) hk) (Nat.le_trans (Nat.add_le_add_right h2 _) hN)
  obtain ⟨s', v, T', L', k'', n'', ok', X', b1, b2, N', ⟨z, ez, q1, q2⟩, hv, stp⟩ := g a h' E1 p e (s.setVm T1.vm) m args below meth c ⟨K.1, K.2.1, Z1, o1, K.2.2.2.2⟩ T1 L (k' + 2) (n' + (nn + 4)) X1 (Nat.add_le_add_right h1 2) (Nat.add_le_add_right h2 _) N e1
  obtain rfl : s' = s.setVm T1.vm := ok'.elim id (fun q => absurd q.1 (by decide))
  exact ⟨_, v, T', L', k'', n'', Or.inr ⟨rfl, T1.vm, k1, rfl, S1, Nat.le_trans l1 q2⟩, X', b1, b2, N', ⟨z, ez, q1⟩, hv, fun fs hl => st1 _ (stp fs hl)⟩
/-- the whole body of a method that may intern -/
theorem Go.metW {as' : Array Value} (hx : plainFor y = true) (hent : ∀ m, entryFrame m as' ml = mkF m 0 Ls []) (G : GoB true l Z y code ml ret R Q 0 0 h 0 Ls []) (ws : List Jvm.Cond) :
    MetFree l y (head1 (Jvm.Cond.code y code ml ret :: ws) R) (fun a U => a = as' ∧ Z.Warmed39 U.vm ∧ U.heap = h) (fun _ _ _ _ _ => True) (fun _ U o U' => ∃ v L, o = .returned v ∧ (Q v U'.heap ∧ Fr Z.heap.size L) ∧ ((∃ v : Option Value, o = Outcome.returned v) ∧ U.Warmed39 U'.vm ∧ U.Booked U'.vm U'.heap.size ∧ U.sameButNew ({ U' with vm := U.vm } : State) L R.cells R.slots)) := by
  refine MetFree.of_bodySF hx hisR ?_
  intro p e s m args below meth c s₁ Bd hml hP hK
  obtain ⟨rfl, hZ, hh⟩ := hP
  have X0 : Stand p l e R s m args below meth c s₁ [] 0 0 := Stand.of_body Bd
  have e0 : s₁.heap = h := by rw [← hh, Bd.state]; rfl
  have hnm := (name_of_methodNamed Bd.named Bd.method).1
  have hlk := Bd.notSynchronized
  obtain ⟨s', v, T', L', k'', n'', ok', X', b1, b2, N', q, hv, stp⟩ := G p e s m args below meth c ⟨Bd.exec, Bd.bytes, hZ, findClass_of_methodNamed Bd.named, hml, Bd.returns, hlk, hnm⟩ s₁ [] 0 0 X0 (Nat.le_refl _) (Nat.le_refl _) (Fr.nil _) e0
  have hv' : meth.sig.returnType = none → v = none := fun hh => hv (by rw [← Bd.returns]; exact hh)
  rcases ok' with rfl | ⟨-, vm, k1, rfl, S1, l1⟩
  · obtain ⟨fs, hr, hrun, hended, hW, hsame⟩ := X'.leave (v := v) hv'
    obtain ⟨a1, a2, a3, a4⟩ := Jvm.RoadKit.wide (s := s') (o := .returned v) (L := L') (k := k'') (n := n'') ⟨⟨v, rfl⟩, hW, hsame⟩
    exact ⟨_, _, castTop (hent m) (stp fs hr), hrun, hended, v, L', rfl, ⟨q, N'⟩, ⟨_, rfl⟩, a2, a3, a4.mono b1 b2⟩
  · obtain ⟨fs, hr, hrun, hended, hW, hsame⟩ := X'.leave (v := v) hv' hlk
    obtain ⟨a1, a2, a3⟩ := S1.ended (U := T'.setFrames fs) hW l1 hsame
    exact ⟨_, _, castTop (hent m) (stp fs hr), hrun, hended, v, L', rfl, ⟨q, N'⟩, ⟨_, rfl⟩, a1, a2, a3.mono b1 b2⟩

end Laws
end Jvm.OwnGo

namespace Jvm.Pilot.@@N@@
open Jvm Jvm.ClassFile Sem Op Lib Jvm.Free Jvm.Stand Jvm.LawKit Jvm.RoadKit Bundle Jvm.OwnGo Jvm.Pilot.@@N@@.Jvm.D
theorem pnx : plainName x.cls = true := by first | (simp [x, plainName, overriddenIn]; done) | decide +kernel
theorem tw0 {a0 : Array Value} {Z : State} (hw : ∀ d ∈ tables_1, d.before a0 Z = true) : ((Jvm.Cond.arrayClass Jvm.ClassFile.FieldType.byte)).before a0 Z = true := hw _ (List.mem_of_getElem? (i := 0) rfl)
theorem tw1 {a0 : Array Value} {Z : State} (hw : ∀ d ∈ tables_1, d.before a0 Z = true) : ((Jvm.Cond.classLink "io/mereline/ColumnHoldsValuePinLaw" (7 : Nat) "io/mereline/ParquetFormat$Column")).before a0 Z = true := hw _ (List.mem_of_getElem? (i := 1) rfl)
theorem tw2 {a0 : Array Value} {Z : State} (hw : ∀ d ∈ tables_1, d.before a0 Z = true) : ((Jvm.Cond.instantiable "io/mereline/ParquetFormat$Column" (5 : Nat))).before a0 Z = true := hw _ (List.mem_of_getElem? (i := 2) rfl)
theorem tw3 {a0 : Array Value} {Z : State} (hw : ∀ d ∈ tables_1, d.before a0 Z = true) : ((Jvm.Cond.initialized "io/mereline/ParquetFormat$Column")).before a0 Z = true := hw _ (List.mem_of_getElem? (i := 3) rfl)
theorem tw4 {a0 : Array Value} {Z : State} (hw : ∀ d ∈ tables_1, d.before a0 Z = true) : ((Jvm.Cond.stringLink "io/mereline/ColumnHoldsValuePinLaw" (9 : Nat) "c")).before a0 Z = true := hw _ (List.mem_of_getElem? (i := 4) rfl)
theorem tw5 {a0 : Array Value} {Z : State} (hw : ∀ d ∈ tables_1, d.before a0 Z = true) : ((Jvm.Cond.initialized "java/lang/String")).before a0 Z = true := hw _ (List.mem_of_getElem? (i := 5) rfl)
theorem tw6 {a0 : Array Value} {Z : State} (hw : ∀ d ∈ tables_1, d.before a0 Z = true) : ((Jvm.Cond.instantiable "java/lang/String" (4 : Nat))).before a0 Z = true := hw _ (List.mem_of_getElem? (i := 6) rfl)
theorem tw7 {a0 : Array Value} {Z : State} (hw : ∀ d ∈ tables_1, d.before a0 Z = true) : ((Jvm.Cond.laysFinal "java/lang/String" "java/lang/String" "value" "[B")).before a0 Z = true := hw _ (List.mem_of_getElem? (i := 7) rfl)
theorem tw8 {a0 : Array Value} {Z : State} (hw : ∀ d ∈ tables_1, d.before a0 Z = true) : ((Jvm.Cond.laysFinal "java/lang/String" "java/lang/String" "coder" "B")).before a0 Z = true := hw _ (List.mem_of_getElem? (i := 8) rfl)
theorem tw9 {a0 : Array Value} {Z : State} (hw : ∀ d ∈ tables_1, d.before a0 Z = true) : ((Jvm.Cond.soleField "java/lang/String" "value")).before a0 Z = true := hw _ (List.mem_of_getElem? (i := 9) rfl)
theorem tw10 {a0 : Array Value} {Z : State} (hw : ∀ d ∈ tables_1, d.before a0 Z = true) : ((Jvm.Cond.soleField "java/lang/String" "coder")).before a0 Z = true := hw _ (List.mem_of_getElem? (i := 10) rfl)
theorem tw11 {a0 : Array Value} {Z : State} (hw : ∀ d ∈ tables_1, d.before a0 Z = true) : ((Jvm.Cond.classLink "io/mereline/ColumnHoldsValuePinLaw" (11 : Nat) "io/mereline/ParquetFormat$Logical")).before a0 Z = true := hw _ (List.mem_of_getElem? (i := 11) rfl)
theorem tw12 {a0 : Array Value} {Z : State} (hw : ∀ d ∈ tables_1, d.before a0 Z = true) : ((Jvm.Cond.instantiable "io/mereline/ParquetFormat$Logical" (3 : Nat))).before a0 Z = true := hw _ (List.mem_of_getElem? (i := 12) rfl)
theorem tw13 {a0 : Array Value} {Z : State} (hw : ∀ d ∈ tables_1, d.before a0 Z = true) : ((Jvm.Cond.initialized "io/mereline/ParquetFormat$Logical")).before a0 Z = true := hw _ (List.mem_of_getElem? (i := 13) rfl)
theorem tw14 {a0 : Array Value} {Z : State} (hw : ∀ d ∈ tables_1, d.before a0 Z = true) : ((Jvm.Cond.methodLink "io/mereline/ColumnHoldsValuePinLaw" (13 : Nat) ({ cls := "io/mereline/ParquetFormat$Logical", name := "<init>", desc := "(III)V" } : Jvm.MethodName))).before a0 Z = true := hw _ (List.mem_of_getElem? (i := 14) rfl)
theorem tw15 {a0 : Array Value} {Z : State} (hw : ∀ d ∈ tables_1, d.before a0 Z = true) : ((Jvm.Cond.instanceMethod ({ cls := "io/mereline/ParquetFormat$Logical", name := "<init>", desc := "(III)V" } : Jvm.MethodName))).before a0 Z = true := hw _ (List.mem_of_getElem? (i := 15) rfl)
theorem tw16 {a0 : Array Value} {Z : State} (hw : ∀ d ∈ tables_1, d.before a0 Z = true) : ((Jvm.Cond.code ({ cls := "io/mereline/ParquetFormat$Logical", name := "<init>", desc := "(III)V" } : Jvm.MethodName) prog_109_method_1_code (4 : Nat) (Option.none : Option Jvm.ClassFile.FieldType))).before a0 Z = true := hw _ (List.mem_of_getElem? (i := 16) rfl)
theorem tw17 {a0 : Array Value} {Z : State} (hw : ∀ d ∈ tables_1, d.before a0 Z = true) : ((Jvm.Cond.methodLink "io/mereline/ParquetFormat$Logical" (3 : Nat) ({ cls := "java/lang/Record", name := "<init>", desc := "()V" } : Jvm.MethodName))).before a0 Z = true := hw _ (List.mem_of_getElem? (i := 17) rfl)
theorem tw18 {a0 : Array Value} {Z : State} (hw : ∀ d ∈ tables_1, d.before a0 Z = true) : ((Jvm.Cond.instanceMethod ({ cls := "java/lang/Record", name := "<init>", desc := "()V" } : Jvm.MethodName))).before a0 Z = true := hw _ (List.mem_of_getElem? (i := 18) rfl)
theorem tw20 {a0 : Array Value} {Z : State} (hw : ∀ d ∈ tables_1, d.before a0 Z = true) : ((Jvm.Cond.initialized "java/lang/Record")).before a0 Z = true := hw _ (List.mem_of_getElem? (i := 20) rfl)
theorem tw21 {a0 : Array Value} {Z : State} (hw : ∀ d ∈ tables_1, d.before a0 Z = true) : ((Jvm.Cond.code ({ cls := "java/lang/Record", name := "<init>", desc := "()V" } : Jvm.MethodName) jdk_30_method_1_code (1 : Nat) (Option.none : Option Jvm.ClassFile.FieldType))).before a0 Z = true := hw _ (List.mem_of_getElem? (i := 21) rfl)
theorem tw22 {a0 : Array Value} {Z : State} (hw : ∀ d ∈ tables_1, d.before a0 Z = true) : ((Jvm.Cond.methodLink "java/lang/Record" (1 : Nat) ({ cls := "java/lang/Object", name := "<init>", desc := "()V" } : Jvm.MethodName))).before a0 Z = true := hw _ (List.mem_of_getElem? (i := 22) rfl)
theorem tw23 {a0 : Array Value} {Z : State} (hw : ∀ d ∈ tables_1, d.before a0 Z = true) : ((Jvm.Cond.instanceMethod ({ cls := "java/lang/Object", name := "<init>", desc := "()V" } : Jvm.MethodName))).before a0 Z = true := hw _ (List.mem_of_getElem? (i := 23) rfl)
theorem tw24 {a0 : Array Value} {Z : State} (hw : ∀ d ∈ tables_1, d.before a0 Z = true) : ((Jvm.Cond.code ({ cls := "java/lang/Object", name := "<init>", desc := "()V" } : Jvm.MethodName) object_method_1_code (1 : Nat) (Option.none : Option Jvm.ClassFile.FieldType))).before a0 Z = true := hw _ (List.mem_of_getElem? (i := 24) rfl)
theorem tw25 {a0 : Array Value} {Z : State} (hw : ∀ d ∈ tables_1, d.before a0 Z = true) : ((Jvm.Cond.fieldLink "io/mereline/ParquetFormat$Logical" (9 : Nat) "io/mereline/ParquetFormat$Logical" "kind" "I")).before a0 Z = true := hw _ (List.mem_of_getElem? (i := 25) rfl)
theorem tw26 {a0 : Array Value} {Z : State} (hw : ∀ d ∈ tables_1, d.before a0 Z = true) : ((Jvm.Cond.laysFinal "io/mereline/ParquetFormat$Logical" "io/mereline/ParquetFormat$Logical" "kind" "I")).before a0 Z = true := hw _ (List.mem_of_getElem? (i := 26) rfl)
theorem tw27 {a0 : Array Value} {Z : State} (hw : ∀ d ∈ tables_1, d.before a0 Z = true) : ((Jvm.Cond.fieldLink "io/mereline/ParquetFormat$Logical" (15 : Nat) "io/mereline/ParquetFormat$Logical" "precision" "I")).before a0 Z = true := hw _ (List.mem_of_getElem? (i := 27) rfl)
theorem tw28 {a0 : Array Value} {Z : State} (hw : ∀ d ∈ tables_1, d.before a0 Z = true) : ((Jvm.Cond.laysFinal "io/mereline/ParquetFormat$Logical" "io/mereline/ParquetFormat$Logical" "precision" "I")).before a0 Z = true := hw _ (List.mem_of_getElem? (i := 28) rfl)
theorem tw29 {a0 : Array Value} {Z : State} (hw : ∀ d ∈ tables_1, d.before a0 Z = true) : ((Jvm.Cond.fieldLink "io/mereline/ParquetFormat$Logical" (18 : Nat) "io/mereline/ParquetFormat$Logical" "scale" "I")).before a0 Z = true := hw _ (List.mem_of_getElem? (i := 29) rfl)
theorem tw30 {a0 : Array Value} {Z : State} (hw : ∀ d ∈ tables_1, d.before a0 Z = true) : ((Jvm.Cond.laysFinal "io/mereline/ParquetFormat$Logical" "io/mereline/ParquetFormat$Logical" "scale" "I")).before a0 Z = true := hw _ (List.mem_of_getElem? (i := 30) rfl)
theorem tw31 {a0 : Array Value} {Z : State} (hw : ∀ d ∈ tables_1, d.before a0 Z = true) : ((Jvm.Cond.methodLink "io/mereline/ColumnHoldsValuePinLaw" (16 : Nat) ({ cls := "io/mereline/ParquetFormat$Column", name := "<init>", desc := "(Ljava/lang/String;IIZLio/mereline/ParquetFormat$Logical;)V" } : Jvm.MethodName))).before a0 Z = true := hw _ (List.mem_of_getElem? (i := 31) rfl)
theorem tw32 {a0 : Array Value} {Z : State} (hw : ∀ d ∈ tables_1, d.before a0 Z = true) : ((Jvm.Cond.instanceMethod ({ cls := "io/mereline/ParquetFormat$Column", name := "<init>", desc := "(Ljava/lang/String;IIZLio/mereline/ParquetFormat$Logical;)V" } : Jvm.MethodName))).before a0 Z = true := hw _ (List.mem_of_getElem? (i := 32) rfl)
theorem tw33 {a0 : Array Value} {Z : State} (hw : ∀ d ∈ tables_1, d.before a0 Z = true) : ((Jvm.Cond.code ({ cls := "io/mereline/ParquetFormat$Column", name := "<init>", desc := "(Ljava/lang/String;IIZLio/mereline/ParquetFormat$Logical;)V" } : Jvm.MethodName) prog_106_method_1_code (6 : Nat) (Option.none : Option Jvm.ClassFile.FieldType))).before a0 Z = true := hw _ (List.mem_of_getElem? (i := 33) rfl)
theorem tw34 {a0 : Array Value} {Z : State} (hw : ∀ d ∈ tables_1, d.before a0 Z = true) : ((Jvm.Cond.methodLink "io/mereline/ParquetFormat$Column" (3 : Nat) ({ cls := "java/lang/Record", name := "<init>", desc := "()V" } : Jvm.MethodName))).before a0 Z = true := hw _ (List.mem_of_getElem? (i := 34) rfl)
theorem tw35 {a0 : Array Value} {Z : State} (hw : ∀ d ∈ tables_1, d.before a0 Z = true) : ((Jvm.Cond.fieldLink "io/mereline/ParquetFormat$Column" (9 : Nat) "io/mereline/ParquetFormat$Column" "name" "Ljava/lang/String;")).before a0 Z = true := hw _ (List.mem_of_getElem? (i := 35) rfl)
theorem tw36 {a0 : Array Value} {Z : State} (hw : ∀ d ∈ tables_1, d.before a0 Z = true) : ((Jvm.Cond.laysFinal "io/mereline/ParquetFormat$Column" "io/mereline/ParquetFormat$Column" "name" "Ljava/lang/String;")).before a0 Z = true := hw _ (List.mem_of_getElem? (i := 36) rfl)
theorem tw37 {a0 : Array Value} {Z : State} (hw : ∀ d ∈ tables_1, d.before a0 Z = true) : ((Jvm.Cond.fieldLink "io/mereline/ParquetFormat$Column" (15 : Nat) "io/mereline/ParquetFormat$Column" "type" "I")).before a0 Z = true := hw _ (List.mem_of_getElem? (i := 37) rfl)
theorem tw38 {a0 : Array Value} {Z : State} (hw : ∀ d ∈ tables_1, d.before a0 Z = true) : ((Jvm.Cond.laysFinal "io/mereline/ParquetFormat$Column" "io/mereline/ParquetFormat$Column" "type" "I")).before a0 Z = true := hw _ (List.mem_of_getElem? (i := 38) rfl)
theorem tw39 {a0 : Array Value} {Z : State} (hw : ∀ d ∈ tables_1, d.before a0 Z = true) : ((Jvm.Cond.fieldLink "io/mereline/ParquetFormat$Column" (19 : Nat) "io/mereline/ParquetFormat$Column" "typeLength" "I")).before a0 Z = true := hw _ (List.mem_of_getElem? (i := 39) rfl)
theorem tw40 {a0 : Array Value} {Z : State} (hw : ∀ d ∈ tables_1, d.before a0 Z = true) : ((Jvm.Cond.laysFinal "io/mereline/ParquetFormat$Column" "io/mereline/ParquetFormat$Column" "typeLength" "I")).before a0 Z = true := hw _ (List.mem_of_getElem? (i := 40) rfl)
theorem tw41 {a0 : Array Value} {Z : State} (hw : ∀ d ∈ tables_1, d.before a0 Z = true) : ((Jvm.Cond.fieldLink "io/mereline/ParquetFormat$Column" (22 : Nat) "io/mereline/ParquetFormat$Column" "optional" "Z")).before a0 Z = true := hw _ (List.mem_of_getElem? (i := 41) rfl)
theorem tw42 {a0 : Array Value} {Z : State} (hw : ∀ d ∈ tables_1, d.before a0 Z = true) : ((Jvm.Cond.laysFinal "io/mereline/ParquetFormat$Column" "io/mereline/ParquetFormat$Column" "optional" "Z")).before a0 Z = true := hw _ (List.mem_of_getElem? (i := 42) rfl)
theorem tw43 {a0 : Array Value} {Z : State} (hw : ∀ d ∈ tables_1, d.before a0 Z = true) : ((Jvm.Cond.fieldLink "io/mereline/ParquetFormat$Column" (26 : Nat) "io/mereline/ParquetFormat$Column" "logical" "Lio/mereline/ParquetFormat$Logical;")).before a0 Z = true := hw _ (List.mem_of_getElem? (i := 43) rfl)
theorem tw44 {a0 : Array Value} {Z : State} (hw : ∀ d ∈ tables_1, d.before a0 Z = true) : ((Jvm.Cond.laysFinal "io/mereline/ParquetFormat$Column" "io/mereline/ParquetFormat$Column" "logical" "Lio/mereline/ParquetFormat$Logical;")).before a0 Z = true := hw _ (List.mem_of_getElem? (i := 44) rfl)
theorem tw45 {a0 : Array Value} {Z : State} (hw : ∀ d ∈ tables_1, d.before a0 Z = true) : ((Jvm.Cond.methodLink "io/mereline/ColumnHoldsValuePinLaw" (19 : Nat) ({ cls := "io/mereline/ParquetFormat$Column", name := "holdsValue", desc := "([B)Z" } : Jvm.MethodName))).before a0 Z = true := hw _ (List.mem_of_getElem? (i := 45) rfl)
theorem tw46 {a0 : Array Value} {Z : State} (hw : ∀ d ∈ tables_1, d.before a0 Z = true) : ((Jvm.Cond.declares ({ cls := "io/mereline/ParquetFormat$Column", name := "holdsValue", desc := "([B)Z" } : Jvm.MethodName))).before a0 Z = true := hw _ (List.mem_of_getElem? (i := 46) rfl)
theorem tw47 {a0 : Array Value} {Z : State} (hw : ∀ d ∈ tables_1, d.before a0 Z = true) : ((Jvm.Cond.instanceMethod ({ cls := "io/mereline/ParquetFormat$Column", name := "holdsValue", desc := "([B)Z" } : Jvm.MethodName))).before a0 Z = true := hw _ (List.mem_of_getElem? (i := 47) rfl)
theorem tw48 {a0 : Array Value} {Z : State} (hw : ∀ d ∈ tables_1, d.before a0 Z = true) : ((Jvm.Cond.selects "io/mereline/ParquetFormat$Column" ({ cls := "io/mereline/ParquetFormat$Column", name := "holdsValue", desc := "([B)Z" } : Jvm.MethodName) ({ cls := "io/mereline/ParquetFormat$Column", name := "holdsValue", desc := "([B)Z" } : Jvm.MethodName))).before a0 Z = true := hw _ (List.mem_of_getElem? (i := 48) rfl)
theorem tw49 {a0 : Array Value} {Z : State} (hw : ∀ d ∈ tables_1, d.before a0 Z = true) : ((Jvm.Cond.code ({ cls := "io/mereline/ParquetFormat$Column", name := "holdsValue", desc := "([B)Z" } : Jvm.MethodName) prog_106_method_2_code (3 : Nat) (Option.some Jvm.ClassFile.FieldType.boolean))).before a0 Z = true := hw _ (List.mem_of_getElem? (i := 49) rfl)
theorem tw50 {a0 : Array Value} {Z : State} (hw : ∀ d ∈ tables_1, d.before a0 Z = true) : ((Jvm.Cond.methodLink "io/mereline/ColumnHoldsValuePinLaw" (23 : Nat) ({ cls := "io/mereline/ColumnHoldsValuePinLaw", name := "expected", desc := "(III)Z" } : Jvm.MethodName))).before a0 Z = true := hw _ (List.mem_of_getElem? (i := 50) rfl)
theorem tw51 {a0 : Array Value} {Z : State} (hw : ∀ d ∈ tables_1, d.before a0 Z = true) : ((Jvm.Cond.static ({ cls := "io/mereline/ColumnHoldsValuePinLaw", name := "expected", desc := "(III)Z" } : Jvm.MethodName))).before a0 Z = true := hw _ (List.mem_of_getElem? (i := 51) rfl)
theorem tw52 {a0 : Array Value} {Z : State} (hw : ∀ d ∈ tables_1, d.before a0 Z = true) : ((Jvm.Cond.initialized "io/mereline/ColumnHoldsValuePinLaw")).before a0 Z = true := hw _ (List.mem_of_getElem? (i := 52) rfl)
theorem tw53 {a0 : Array Value} {Z : State} (hw : ∀ d ∈ tables_1, d.before a0 Z = true) : ((Jvm.Cond.code ({ cls := "io/mereline/ColumnHoldsValuePinLaw", name := "expected", desc := "(III)Z" } : Jvm.MethodName) method_2_code (3 : Nat) (Option.some Jvm.ClassFile.FieldType.boolean))).before a0 Z = true := hw _ (List.mem_of_getElem? (i := 53) rfl)
theorem own_nn {x : Int32} (h : 0 ≤ x.toInt) : x.toInt = (x.toBitVec.toNat : Int) := by
  have q := BitVec.toInt_eq_toNat_cond x.toBitVec
  have e : x.toInt = x.toBitVec.toInt := rfl
  rw [e] at h ⊢
  rw [q] at h ⊢
  have := x.toBitVec.isLt
  split at h <;> rename_i c
  · rw [if_pos c]
  · omega
theorem own_nn' {x : Int32} (h : x.toBitVec.toNat < 2147483648) : x.toInt = (x.toBitVec.toNat : Int) := by
  have q := BitVec.toInt_eq_toNat_cond x.toBitVec
  have e : x.toInt = x.toBitVec.toInt := rfl
  rw [e, q, if_pos (by omega)]
theorem own_ofnat {x : Int32} (h : 0 ≤ x.toInt) : x = Int32.ofNat x.toBitVec.toNat := by
  apply Int32.toBitVec_inj.mp
  apply BitVec.eq_of_toNat_eq
  show _ = (BitVec.ofNat 32 x.toBitVec.toNat).toNat
  rw [BitVec.toNat_ofNat, Nat.mod_eq_of_lt x.toBitVec.isLt]
theorem own_b32 (x : Int32) : -2147483648 ≤ x.toInt ∧ x.toInt < 2147483648 := ⟨Int32.le_toInt x, Int32.toInt_lt x⟩
theorem own_b64 (x : Int64) : -9223372036854775808 ≤ x.toInt ∧ x.toInt < 9223372036854775808 := ⟨Int64.le_toInt x, Int64.toInt_lt x⟩
theorem own_add64 {x y : Int64} (h1 : -9223372036854775808 ≤ x.toInt + y.toInt) (h2 : x.toInt + y.toInt < 9223372036854775808) : (x + y).toInt = x.toInt + y.toInt := XT.add64 ⟨h1, h2⟩
theorem own_sub64 {x y : Int64} (h1 : -9223372036854775808 ≤ x.toInt - y.toInt) (h2 : x.toInt - y.toInt < 9223372036854775808) : (x - y).toInt = x.toInt - y.toInt := XT.sub64 ⟨h1, h2⟩
theorem own_mul64 {x y : Int64} (h1 : -9223372036854775808 ≤ x.toInt * y.toInt) (h2 : x.toInt * y.toInt < 9223372036854775808) : (x * y).toInt = x.toInt * y.toInt := XT.mul64 ⟨h1, h2⟩
theorem own_add32 {x y : Int32} (h1 : -2147483648 ≤ x.toInt + y.toInt) (h2 : x.toInt + y.toInt < 2147483648) : (x + y).toInt = x.toInt + y.toInt := XT.add32 ⟨h1, h2⟩
theorem own_sub32 {x y : Int32} (h1 : -2147483648 ≤ x.toInt - y.toInt) (h2 : x.toInt - y.toInt < 2147483648) : (x - y).toInt = x.toInt - y.toInt := XT.sub32 ⟨h1, h2⟩
theorem own_w (x : Int32) : x.toInt64.toInt = x.toInt := Int32.toInt_toInt64 x
theorem own_div64 {x y : Int64} (hx : 0 ≤ x.toInt) (hy : 0 < y.toInt) : (x / y).toInt = x.toInt / y.toInt := by
  rw [Int64.toInt_div, Int.tdiv_eq_ediv_of_nonneg hx]
  have b := own_b64 x
  have h1 : 0 ≤ x.toInt / y.toInt := Int.ediv_nonneg hx (Int.le_of_lt hy)
  have h2 : x.toInt / y.toInt ≤ x.toInt := Int.ediv_le_self _ hx
  exact Int.bmod_eq_of_le (by omega) (by omega)
theorem own_div32 {x y : Int32} (hx : 0 ≤ x.toInt) (hy : 0 < y.toInt) : (x / y).toInt = x.toInt / y.toInt := by
  rw [Int32.toInt_div, Int.tdiv_eq_ediv_of_nonneg hx]
  have b := own_b32 x
  have h1 : 0 ≤ x.toInt / y.toInt := Int.ediv_nonneg hx (Int.le_of_lt hy)
  have h2 : x.toInt / y.toInt ≤ x.toInt := Int.ediv_le_self _ hx
  exact Int.bmod_eq_of_le (by omega) (by omega)
theorem own_rem32 {x y : Int32} (hx : 0 ≤ x.toInt) : (x % y).toInt = x.toInt % y.toInt := by
  rw [Int32.toInt_mod, Int.tmod_eq_emod_of_nonneg hx]
theorem own_pos32 (x : Int32) : 0 ≤ (x &&& 2147483647).toInt := by
  have q := (XT.and_neg32 x 2147483647)
  rw [XT.negI32] at q
  have r : ¬ (x &&& 2147483647).toInt < 0 := fun h => absurd (q.mp h).2 (by decide)
  omega
theorem own_pos64 (x : Int64) : 0 ≤ (x &&& 9223372036854775807).toInt := by
  have q := (XT.and_neg64 x 9223372036854775807)
  rw [XT.negI64] at q
  have r : ¬ (x &&& 9223372036854775807).toInt < 0 := fun h => absurd (q.mp h).2 (by decide)
  omega
theorem own_lt32 {x y : Int32} : x < y ↔ x.toInt < y.toInt := Int32.lt_iff_toInt_lt
theorem own_lt64 {x y : Int64} : x < y ↔ x.toInt < y.toInt := Int64.lt_iff_toInt_lt
theorem own_eq32 {x y : Int32} : x = y ↔ x.toInt = y.toInt := ⟨fun h => h ▸ rfl, Int32.toInt_inj.mp⟩
theorem own_eq64 {x y : Int64} : x = y ↔ x.toInt = y.toInt := ⟨fun h => h ▸ rfl, Int64.toInt_inj.mp⟩
theorem own_fitZ (x : Int32) : fits .boolean (.int (nar .boolean x)) = true := by
  have e : (x &&& 1).toBitVec.toNat = x.toBitVec.toNat % 2 := by
    rw [Int32.toBitVec_and, BitVec.toNat_and]
    show x.toBitVec.toNat &&& 1 = _
    exact Nat.and_two_pow_sub_one_eq_mod x.toBitVec.toNat 1
  have q := own_ofnat (x := x &&& 1) (by rw [own_nn' (by omega)]; omega)
  show fits .boolean (.int (x &&& 1)) = true
  have : (x &&& 1).toBitVec.toNat = 0 ∨ (x &&& 1).toBitVec.toNat = 1 := by omega
  rcases this with k | k <;> rw [k] at q <;> rw [q] <;> decide
def own_holds (t tl n : Int32) : Int32 := if t = 0 then (if n = 1 then 1 else 0) else if t = 1 then (if n = 4 then 1 else 0) else if t = 2 ∨ t = 5 then (if n = 8 then 1 else 0) else if t = 7 then (if n = tl then 1 else 0) else 1
def own_exp (t tl n : Int32) : Int32 := if t = 0 then (if n = 1 then 1 else 0) else if t = 1 then (if n = 4 then 1 else 0) else if t = 2 then (if n = 8 then 1 else 0) else if t = 5 then (if n = 8 then 1 else 0) else if t = 7 then (if n = tl then 1 else 0) else 1
theorem own_same (t tl n : Int32) : own_holds t tl n = own_exp t tl n := by
  unfold own_holds own_exp
  by_cases h2 : t = 2 <;> by_cases h5 : t = 5 <;> simp [h2, h5]
theorem own_n15 (x v : Int32) (h : v = x &&& 15) : ¬ v < 0 ∧ v.toNatClampNeg ≤ 15 ∧ v.toNatClampNeg.toInt32 = v ∧ (v.toNatClampNeg : Int) = v.toInt := by
  have e : (x &&& 15).toBitVec.toNat = x.toBitVec.toNat % 16 := by
    rw [Int32.toBitVec_and, BitVec.toNat_and]
    show x.toBitVec.toNat &&& 15 = _
    exact Nat.and_two_pow_sub_one_eq_mod x.toBitVec.toNat 4
  have k := own_nn' (x := x &&& 15) (by omega)
  rw [← h] at e k
  have c0 : (0 : Int32).toInt = 0 := by decide
  have n : ¬ v < 0 := by rw [own_lt32, c0]; omega
  have q := nat_of n
  refine ⟨n, by omega, ?_, by omega⟩
  have : v.toNatClampNeg.toInt32.toInt = v.toNatClampNeg := len_toInt (by omega)
  rw [own_eq32, this]; omega
theorem own_last {v : Int32} (h : ¬ v < 0 ∧ v.toNatClampNeg ≤ 15 ∧ v.toNatClampNeg.toInt32 = v ∧ (v.toNatClampNeg : Int) = v.toInt) (p : 0 < v) : ¬ (v - 1) < 0 ∧ (v - 1).toNatClampNeg < v.toNatClampNeg ∧ 0 < v.toNatClampNeg := by
  have c0 : (0 : Int32).toInt = 0 := by decide
  have c1 : (1 : Int32).toInt = 1 := by decide
  rw [own_lt32, c0] at p
  obtain ⟨h1, h2, h3, h4⟩ := h
  have e : (v - 1).toInt = v.toInt - 1 := by rw [own_sub32 (by rw [c1]; omega) (by rw [c1]; omega), c1]
  have n : ¬ (v - 1) < 0 := by rw [own_lt32, c0]; omega
  have q := nat_of n
  exact ⟨n, by omega, by omega⟩

theorem d2_0 : decode jdk_30_method_1_code 0 = .ok (.aload_n 0, 1) := by decide +kernel
theorem d2_1 : decode jdk_30_method_1_code 1 = .ok (.invokespecial 1, 3) := by decide +kernel
theorem d2_4 : decode jdk_30_method_1_code 4 = .ok (.return_, 1) := by decide +kernel

theorem pd2 : parseMethodDescriptor "()V" = some ⟨[], none⟩ := by decide +kernel
theorem pl2 : plainFor (⟨"java/lang/Record", "<init>", "()V"⟩ : MethodName) = true := by first | exact plainFor_of_name (by first | (simp [plainName, overriddenIn]; done) | decide +kernel) | decide +kernel

theorem ef_k_rec (m : MethodId) (x0 : Addr) : entryFrame m #[(.ref x0)] 1 = mkF m 0 #[.val (.ref x0)] [] := by first | (simp [entryFrame, mkF, argsToLocals, Value.category]; done) | rfl

set_option maxRecDepth 65536 in
set_option maxHeartbeats 40000000 in
theorem k_rec {l : Launch} {Z : State} {a0 : Array Value} (hw : ∀ d ∈ tables_1, d.before a0 Z = true)  (h : Heap) (hz : Z.heap.size ≤ h.size) (a : Addr)     : Go l Z (⟨"java/lang/Record", "<init>", "()V"⟩ : MethodName) jdk_30_method_1_code 1 (Option.none : Option Jvm.ClassFile.FieldType) ({ frames := 1, cells := 0, slots := 0, locals := 16 } : Room) (QV fun h' => h' = h) 0 0 h 0 #[.val (.ref a)] [] := by
  refine Go.aload_n 1 d2_0 rfl rfl rfl ?_
  refine Go.initO 0 4 d2_1 (tw22 hw) (tw23 hw) (tw24 hw) rfl (by decide) (Nat.le_of_eq rfl) (by decide) rfl ?_
  refine Go.vreturn d2_4 rfl (by decide) (by decide) ?_
  exact rfl

theorem d1_0 : decode prog_109_method_1_code 0 = .ok (.aload_n 0, 1) := by decide +kernel
theorem d1_1 : decode prog_109_method_1_code 1 = .ok (.invokespecial 3, 3) := by decide +kernel
theorem d1_4 : decode prog_109_method_1_code 4 = .ok (.aload_n 0, 1) := by decide +kernel
theorem d1_5 : decode prog_109_method_1_code 5 = .ok (.iload_n 1, 1) := by decide +kernel
theorem d1_6 : decode prog_109_method_1_code 6 = .ok (.putfield 9, 3) := by decide +kernel
theorem d1_9 : decode prog_109_method_1_code 9 = .ok (.aload_n 0, 1) := by decide +kernel
theorem d1_10 : decode prog_109_method_1_code 10 = .ok (.iload_n 2, 1) := by decide +kernel
theorem d1_11 : decode prog_109_method_1_code 11 = .ok (.putfield 15, 3) := by decide +kernel
theorem d1_14 : decode prog_109_method_1_code 14 = .ok (.aload_n 0, 1) := by decide +kernel
theorem d1_15 : decode prog_109_method_1_code 15 = .ok (.iload_n 3, 1) := by decide +kernel
theorem d1_16 : decode prog_109_method_1_code 16 = .ok (.putfield 18, 3) := by decide +kernel
theorem d1_19 : decode prog_109_method_1_code 19 = .ok (.return_, 1) := by decide +kernel

theorem pd1 : parseMethodDescriptor "(III)V" = some ⟨[.int, .int, .int], none⟩ := by decide +kernel
theorem pl1 : plainFor (⟨"io/mereline/ParquetFormat$Logical", "<init>", "(III)V"⟩ : MethodName) = true := by first | exact plainFor_of_name (by first | (simp [plainName, overriddenIn]; done) | decide +kernel) | decide +kernel

theorem ef_k_log (m : MethodId) (x0 : Addr) (x1 : Int32) (x2 : Int32) (x3 : Int32) : entryFrame m #[(.ref x0), (.int x1), (.int x2), (.int x3)] 4 = mkF m 0 #[.val (.ref x0), .val (.int x1), .val (.int x2), .val (.int x3)] [] := by first | (simp [entryFrame, mkF, argsToLocals, Value.category]; done) | rfl

set_option maxRecDepth 65536 in
set_option maxHeartbeats 40000000 in
theorem k_log {l : Launch} {Z : State} {a0 : Array Value} (hw : ∀ d ∈ tables_1, d.before a0 Z = true)  (h : Heap) (hz : Z.heap.size ≤ h.size) (a : Addr) (x : Int32) (z : Int32) (u : Int32) (fa0 : Exa Z h a "io/mereline/ParquetFormat$Logical") (fa1 : Fld Z h a "io/mereline/ParquetFormat$Logical" "kind" "I" (.int (0 : Int32))) (fa2 : Fld Z h a "io/mereline/ParquetFormat$Logical" "precision" "I" (.int (0 : Int32))) (fa3 : Fld Z h a "io/mereline/ParquetFormat$Logical" "scale" "I" (.int (0 : Int32)))  (ge_a : Z.heap.size ≤ a)  : Go l Z (⟨"io/mereline/ParquetFormat$Logical", "<init>", "(III)V"⟩ : MethodName) prog_109_method_1_code 4 (Option.none : Option Jvm.ClassFile.FieldType) ({ frames := 2, cells := 0, slots := 0, locals := 48 } : Room) (QV fun h' => Keep h h' [a] ∧ Exa Z h' a "io/mereline/ParquetFormat$Logical") 0 0 h 0 #[.val (.ref a), .val (.int x), .val (.int z), .val (.int u)] [] := by
  have kp0 : Keep h h [a] := Keep.refl _ _
  refine Go.aload_n 1 d1_0 rfl rfl rfl ?_
  refine Go.callCp [] [] 4 d1_1 rfl (tw17 hw) (tw18 hw) (tw20 hw) (tw21 hw) pl2 (by decide) (lenOf pd2 rfl) rfl (fun m => ef_k_rec m a) (k_rec hw h hz a) 0 rfl (Nat.le_of_eq rfl) (by decide) (by decide) (by decide) (by decide) rfl ?_
  refine Go.aload_n 5 d1_4 rfl rfl rfl ?_
  refine Go.iload_n 6 d1_5 rfl rfl ?_
  refine Go.putfield (ty := .int) 9 d1_6 (tw25 hw) fa1 fa0 (Or.inr ⟨(tw26 hw), rfl, rfl⟩) (tw12 hw) (by decide) rfl rfl ge_a rfl (fun h4 W5 => ?_)
  have f6 : Exa Z h4 a "io/mereline/ParquetFormat$Logical" := fa0.wr W5
  have f7 : Fld Z h4 a "io/mereline/ParquetFormat$Logical" "kind" "I" (.int x) := fa1.same W5
  have f8 : Fld Z h4 a "io/mereline/ParquetFormat$Logical" "precision" "I" (.int (0 : Int32)) := fa2.other W5 (Or.inr (slot_ne (Or.inr (tw28 hw)) (Or.inr (tw26 hw)) (by decide) (by decide +kernel : parseFieldDescriptor "I" = some .int) (by decide +kernel : parseFieldDescriptor "I" = some .int)))
  have f9 : Fld Z h4 a "io/mereline/ParquetFormat$Logical" "scale" "I" (.int (0 : Int32)) := fa3.other W5 (Or.inr (slot_ne (Or.inr (tw30 hw)) (Or.inr (tw26 hw)) (by decide) (by decide +kernel : parseFieldDescriptor "I" = some .int) (by decide +kernel : parseFieldDescriptor "I" = some .int)))
  have zs10 : Z.heap.size ≤ h4.size := W5.size ▸ hz
  have kp11 : Keep h h4 [a] := kp0.wr W5 (Or.inl (by simp))
  refine Go.aload_n 10 d1_9 rfl rfl rfl ?_
  refine Go.iload_n 11 d1_10 rfl rfl ?_
  refine Go.putfield (ty := .int) 14 d1_11 (tw27 hw) f8 f6 (Or.inr ⟨(tw28 hw), rfl, rfl⟩) (tw12 hw) (by decide) rfl rfl ge_a rfl (fun h12 W13 => ?_)
  have f14 : Exa Z h12 a "io/mereline/ParquetFormat$Logical" := f6.wr W13
  have f15 : Fld Z h12 a "io/mereline/ParquetFormat$Logical" "kind" "I" (.int x) := f7.other W13 (Or.inr (slot_ne (Or.inr (tw26 hw)) (Or.inr (tw28 hw)) (by decide) (by decide +kernel : parseFieldDescriptor "I" = some .int) (by decide +kernel : parseFieldDescriptor "I" = some .int)))
  have f16 : Fld Z h12 a "io/mereline/ParquetFormat$Logical" "precision" "I" (.int z) := f8.same W13
  have f17 : Fld Z h12 a "io/mereline/ParquetFormat$Logical" "scale" "I" (.int (0 : Int32)) := f9.other W13 (Or.inr (slot_ne (Or.inr (tw30 hw)) (Or.inr (tw28 hw)) (by decide) (by decide +kernel : parseFieldDescriptor "I" = some .int) (by decide +kernel : parseFieldDescriptor "I" = some .int)))
  have zs18 : Z.heap.size ≤ h12.size := W13.size ▸ zs10
  have kp19 : Keep h h12 [a] := kp11.wr W13 (Or.inl (by simp))
  refine Go.aload_n 15 d1_14 rfl rfl rfl ?_
  refine Go.iload_n 16 d1_15 rfl rfl ?_
  refine Go.putfield (ty := .int) 19 d1_16 (tw29 hw) f17 f14 (Or.inr ⟨(tw30 hw), rfl, rfl⟩) (tw12 hw) (by decide) rfl rfl ge_a rfl (fun h20 W21 => ?_)
  have f22 : Exa Z h20 a "io/mereline/ParquetFormat$Logical" := f14.wr W21
  have f23 : Fld Z h20 a "io/mereline/ParquetFormat$Logical" "kind" "I" (.int x) := f15.other W21 (Or.inr (slot_ne (Or.inr (tw26 hw)) (Or.inr (tw30 hw)) (by decide) (by decide +kernel : parseFieldDescriptor "I" = some .int) (by decide +kernel : parseFieldDescriptor "I" = some .int)))
  have f24 : Fld Z h20 a "io/mereline/ParquetFormat$Logical" "precision" "I" (.int z) := f16.other W21 (Or.inr (slot_ne (Or.inr (tw28 hw)) (Or.inr (tw30 hw)) (by decide) (by decide +kernel : parseFieldDescriptor "I" = some .int) (by decide +kernel : parseFieldDescriptor "I" = some .int)))
  have f25 : Fld Z h20 a "io/mereline/ParquetFormat$Logical" "scale" "I" (.int u) := f17.same W21
  have zs26 : Z.heap.size ≤ h20.size := W21.size ▸ zs18
  have kp27 : Keep h h20 [a] := kp19.wr W21 (Or.inl (by simp))
  refine Go.vreturn d1_19 rfl (by decide) (by decide) ?_
  exact ⟨kp27, f22⟩

theorem d4_0 : decode prog_106_method_1_code 0 = .ok (.aload_n 0, 1) := by decide +kernel
theorem d4_1 : decode prog_106_method_1_code 1 = .ok (.invokespecial 3, 3) := by decide +kernel
theorem d4_4 : decode prog_106_method_1_code 4 = .ok (.aload_n 0, 1) := by decide +kernel
theorem d4_5 : decode prog_106_method_1_code 5 = .ok (.aload_n 1, 1) := by decide +kernel
theorem d4_6 : decode prog_106_method_1_code 6 = .ok (.putfield 9, 3) := by decide +kernel
theorem d4_9 : decode prog_106_method_1_code 9 = .ok (.aload_n 0, 1) := by decide +kernel
theorem d4_10 : decode prog_106_method_1_code 10 = .ok (.iload_n 2, 1) := by decide +kernel
theorem d4_11 : decode prog_106_method_1_code 11 = .ok (.putfield 15, 3) := by decide +kernel
theorem d4_14 : decode prog_106_method_1_code 14 = .ok (.aload_n 0, 1) := by decide +kernel
theorem d4_15 : decode prog_106_method_1_code 15 = .ok (.iload_n 3, 1) := by decide +kernel
theorem d4_16 : decode prog_106_method_1_code 16 = .ok (.putfield 19, 3) := by decide +kernel
theorem d4_19 : decode prog_106_method_1_code 19 = .ok (.aload_n 0, 1) := by decide +kernel
theorem d4_20 : decode prog_106_method_1_code 20 = .ok (.iload 4, 2) := by decide +kernel
theorem d4_22 : decode prog_106_method_1_code 22 = .ok (.putfield 22, 3) := by decide +kernel
theorem d4_25 : decode prog_106_method_1_code 25 = .ok (.aload_n 0, 1) := by decide +kernel
theorem d4_26 : decode prog_106_method_1_code 26 = .ok (.aload 5, 2) := by decide +kernel
theorem d4_28 : decode prog_106_method_1_code 28 = .ok (.putfield 26, 3) := by decide +kernel
theorem d4_31 : decode prog_106_method_1_code 31 = .ok (.return_, 1) := by decide +kernel

theorem pd4 : parseMethodDescriptor "(Ljava/lang/String;IIZLio/mereline/ParquetFormat$Logical;)V" = some ⟨[(.object "java/lang/String"), .int, .int, .boolean, (.object "io/mereline/ParquetFormat$Logical")], none⟩ := by decide +kernel
theorem pl4 : plainFor (⟨"io/mereline/ParquetFormat$Column", "<init>", "(Ljava/lang/String;IIZLio/mereline/ParquetFormat$Logical;)V"⟩ : MethodName) = true := by first | exact plainFor_of_name (by first | (simp [plainName, overriddenIn]; done) | decide +kernel) | decide +kernel

theorem ef_k_col (m : MethodId) (x0 : Addr) (x1 : Addr) (x2 : Int32) (x3 : Int32) (x4 : Int32) (x5 : Addr) : entryFrame m #[(.ref x0), (.ref x1), (.int x2), (.int x3), (.int x4), (.ref x5)] 6 = mkF m 0 #[.val (.ref x0), .val (.ref x1), .val (.int x2), .val (.int x3), .val (.int x4), .val (.ref x5)] [] := by first | (simp [entryFrame, mkF, argsToLocals, Value.category]; done) | rfl

set_option maxRecDepth 65536 in
set_option maxHeartbeats 40000000 in
theorem k_col {l : Launch} {Z : State} {a0 : Array Value} (hw : ∀ d ∈ tables_1, d.before a0 Z = true)  (h : Heap) (hz : Z.heap.size ≤ h.size) (a : Addr) (s : Addr) (t : Int32) (tl : Int32) (o : Int32) (g : Addr) (fa0 : Exa Z h a "io/mereline/ParquetFormat$Column") (fa1 : Fld Z h a "io/mereline/ParquetFormat$Column" "name" "Ljava/lang/String;" (.null)) (fa2 : Fld Z h a "io/mereline/ParquetFormat$Column" "type" "I" (.int (0 : Int32))) (fa3 : Fld Z h a "io/mereline/ParquetFormat$Column" "typeLength" "I" (.int (0 : Int32))) (fa4 : Fld Z h a "io/mereline/ParquetFormat$Column" "optional" "Z" (.int (0 : Int32))) (fa5 : Fld Z h a "io/mereline/ParquetFormat$Column" "logical" "Lio/mereline/ParquetFormat$Logical;" (.null))  (ge_a : Z.heap.size ≤ a)  : Go l Z (⟨"io/mereline/ParquetFormat$Column", "<init>", "(Ljava/lang/String;IIZLio/mereline/ParquetFormat$Logical;)V"⟩ : MethodName) prog_106_method_1_code 6 (Option.none : Option Jvm.ClassFile.FieldType) ({ frames := 2, cells := 0, slots := 0, locals := 48 } : Room) (QV fun h' => Keep h h' [a] ∧ Exa Z h' a "io/mereline/ParquetFormat$Column" ∧ Fld Z h' a "io/mereline/ParquetFormat$Column" "type" "I" (.int t) ∧ Fld Z h' a "io/mereline/ParquetFormat$Column" "typeLength" "I" (.int tl)) 0 0 h 0 #[.val (.ref a), .val (.ref s), .val (.int t), .val (.int tl), .val (.int o), .val (.ref g)] [] := by
  have kp0 : Keep h h [a] := Keep.refl _ _
  refine Go.aload_n 1 d4_0 rfl rfl rfl ?_
  refine Go.callCp [] [] 4 d4_1 rfl (tw34 hw) (tw18 hw) (tw20 hw) (tw21 hw) pl2 (by decide) (lenOf pd2 rfl) rfl (fun m => ef_k_rec m a) (k_rec hw h hz a) 0 rfl (Nat.le_of_eq rfl) (by decide) (by decide) (by decide) (by decide) rfl ?_
  refine Go.aload_n 5 d4_4 rfl rfl rfl ?_
  refine Go.aload_n 6 d4_5 rfl rfl rfl ?_
  refine Go.putfield (ty := (.object "java/lang/String")) 9 d4_6 (tw35 hw) fa1 fa0 (Or.inr ⟨(tw36 hw), rfl, rfl⟩) (tw2 hw) (by decide) rfl rfl ge_a rfl (fun h4 W5 => ?_)
  have f6 : Exa Z h4 a "io/mereline/ParquetFormat$Column" := fa0.wr W5
  have f7 : Fld Z h4 a "io/mereline/ParquetFormat$Column" "name" "Ljava/lang/String;" (.ref s) := fa1.same W5
  have f8 : Fld Z h4 a "io/mereline/ParquetFormat$Column" "type" "I" (.int (0 : Int32)) := fa2.other W5 (Or.inr (slot_ne (Or.inr (tw38 hw)) (Or.inr (tw36 hw)) (by decide) (by decide +kernel : parseFieldDescriptor "I" = some .int) (by decide +kernel : parseFieldDescriptor "Ljava/lang/String;" = some (.object "java/lang/String"))))
  have f9 : Fld Z h4 a "io/mereline/ParquetFormat$Column" "typeLength" "I" (.int (0 : Int32)) := fa3.other W5 (Or.inr (slot_ne (Or.inr (tw40 hw)) (Or.inr (tw36 hw)) (by decide) (by decide +kernel : parseFieldDescriptor "I" = some .int) (by decide +kernel : parseFieldDescriptor "Ljava/lang/String;" = some (.object "java/lang/String"))))
  have f10 : Fld Z h4 a "io/mereline/ParquetFormat$Column" "optional" "Z" (.int (0 : Int32)) := fa4.other W5 (Or.inr (slot_ne (Or.inr (tw42 hw)) (Or.inr (tw36 hw)) (by decide) (by decide +kernel : parseFieldDescriptor "Z" = some .boolean) (by decide +kernel : parseFieldDescriptor "Ljava/lang/String;" = some (.object "java/lang/String"))))
  have f11 : Fld Z h4 a "io/mereline/ParquetFormat$Column" "logical" "Lio/mereline/ParquetFormat$Logical;" (.null) := fa5.other W5 (Or.inr (slot_ne (Or.inr (tw44 hw)) (Or.inr (tw36 hw)) (by decide) (by decide +kernel : parseFieldDescriptor "Lio/mereline/ParquetFormat$Logical;" = some (.object "io/mereline/ParquetFormat$Logical")) (by decide +kernel : parseFieldDescriptor "Ljava/lang/String;" = some (.object "java/lang/String"))))
  have zs12 : Z.heap.size ≤ h4.size := W5.size ▸ hz
  have kp13 : Keep h h4 [a] := kp0.wr W5 (Or.inl (by simp))
  refine Go.aload_n 10 d4_9 rfl rfl rfl ?_
  refine Go.iload_n 11 d4_10 rfl rfl ?_
  refine Go.putfield (ty := .int) 14 d4_11 (tw37 hw) f8 f6 (Or.inr ⟨(tw38 hw), rfl, rfl⟩) (tw2 hw) (by decide) rfl rfl ge_a rfl (fun h14 W15 => ?_)
  have f16 : Exa Z h14 a "io/mereline/ParquetFormat$Column" := f6.wr W15
  have f17 : Fld Z h14 a "io/mereline/ParquetFormat$Column" "name" "Ljava/lang/String;" (.ref s) := f7.other W15 (Or.inr (slot_ne (Or.inr (tw36 hw)) (Or.inr (tw38 hw)) (by decide) (by decide +kernel : parseFieldDescriptor "Ljava/lang/String;" = some (.object "java/lang/String")) (by decide +kernel : parseFieldDescriptor "I" = some .int)))
  have f18 : Fld Z h14 a "io/mereline/ParquetFormat$Column" "type" "I" (.int t) := f8.same W15
  have f19 : Fld Z h14 a "io/mereline/ParquetFormat$Column" "typeLength" "I" (.int (0 : Int32)) := f9.other W15 (Or.inr (slot_ne (Or.inr (tw40 hw)) (Or.inr (tw38 hw)) (by decide) (by decide +kernel : parseFieldDescriptor "I" = some .int) (by decide +kernel : parseFieldDescriptor "I" = some .int)))
  have f20 : Fld Z h14 a "io/mereline/ParquetFormat$Column" "optional" "Z" (.int (0 : Int32)) := f10.other W15 (Or.inr (slot_ne (Or.inr (tw42 hw)) (Or.inr (tw38 hw)) (by decide) (by decide +kernel : parseFieldDescriptor "Z" = some .boolean) (by decide +kernel : parseFieldDescriptor "I" = some .int)))
  have f21 : Fld Z h14 a "io/mereline/ParquetFormat$Column" "logical" "Lio/mereline/ParquetFormat$Logical;" (.null) := f11.other W15 (Or.inr (slot_ne (Or.inr (tw44 hw)) (Or.inr (tw38 hw)) (by decide) (by decide +kernel : parseFieldDescriptor "Lio/mereline/ParquetFormat$Logical;" = some (.object "io/mereline/ParquetFormat$Logical")) (by decide +kernel : parseFieldDescriptor "I" = some .int)))
  have zs22 : Z.heap.size ≤ h14.size := W15.size ▸ zs12
  have kp23 : Keep h h14 [a] := kp13.wr W15 (Or.inl (by simp))
  refine Go.aload_n 15 d4_14 rfl rfl rfl ?_
  refine Go.iload_n 16 d4_15 rfl rfl ?_
  refine Go.putfield (ty := .int) 19 d4_16 (tw39 hw) f19 f16 (Or.inr ⟨(tw40 hw), rfl, rfl⟩) (tw2 hw) (by decide) rfl rfl ge_a rfl (fun h24 W25 => ?_)
  have f26 : Exa Z h24 a "io/mereline/ParquetFormat$Column" := f16.wr W25
  have f27 : Fld Z h24 a "io/mereline/ParquetFormat$Column" "name" "Ljava/lang/String;" (.ref s) := f17.other W25 (Or.inr (slot_ne (Or.inr (tw36 hw)) (Or.inr (tw40 hw)) (by decide) (by decide +kernel : parseFieldDescriptor "Ljava/lang/String;" = some (.object "java/lang/String")) (by decide +kernel : parseFieldDescriptor "I" = some .int)))
  have f28 : Fld Z h24 a "io/mereline/ParquetFormat$Column" "type" "I" (.int t) := f18.other W25 (Or.inr (slot_ne (Or.inr (tw38 hw)) (Or.inr (tw40 hw)) (by decide) (by decide +kernel : parseFieldDescriptor "I" = some .int) (by decide +kernel : parseFieldDescriptor "I" = some .int)))
  have f29 : Fld Z h24 a "io/mereline/ParquetFormat$Column" "typeLength" "I" (.int tl) := f19.same W25
  have f30 : Fld Z h24 a "io/mereline/ParquetFormat$Column" "optional" "Z" (.int (0 : Int32)) := f20.other W25 (Or.inr (slot_ne (Or.inr (tw42 hw)) (Or.inr (tw40 hw)) (by decide) (by decide +kernel : parseFieldDescriptor "Z" = some .boolean) (by decide +kernel : parseFieldDescriptor "I" = some .int)))
  have f31 : Fld Z h24 a "io/mereline/ParquetFormat$Column" "logical" "Lio/mereline/ParquetFormat$Logical;" (.null) := f21.other W25 (Or.inr (slot_ne (Or.inr (tw44 hw)) (Or.inr (tw40 hw)) (by decide) (by decide +kernel : parseFieldDescriptor "Lio/mereline/ParquetFormat$Logical;" = some (.object "io/mereline/ParquetFormat$Logical")) (by decide +kernel : parseFieldDescriptor "I" = some .int)))
  have zs32 : Z.heap.size ≤ h24.size := W25.size ▸ zs22
  have kp33 : Keep h h24 [a] := kp23.wr W25 (Or.inl (by simp))
  refine Go.aload_n 20 d4_19 rfl rfl rfl ?_
  refine Go.iload 22 d4_20 rfl rfl ?_
  refine Go.putfieldN (ty := .boolean) (v' := .int (nar .boolean o)) 25 d4_22 (tw41 hw) f30 f26 (Or.inr ⟨(tw42 hw), rfl, rfl⟩) (tw2 hw) (by decide) rfl (own_fitZ _) ge_a rfl (fun h34 W35 => ?_)
  have f36 : Exa Z h34 a "io/mereline/ParquetFormat$Column" := f26.wr W35
  have f37 : Fld Z h34 a "io/mereline/ParquetFormat$Column" "name" "Ljava/lang/String;" (.ref s) := f27.other W35 (Or.inr (slot_ne (Or.inr (tw36 hw)) (Or.inr (tw42 hw)) (by decide) (by decide +kernel : parseFieldDescriptor "Ljava/lang/String;" = some (.object "java/lang/String")) (by decide +kernel : parseFieldDescriptor "Z" = some .boolean)))
  have f38 : Fld Z h34 a "io/mereline/ParquetFormat$Column" "type" "I" (.int t) := f28.other W35 (Or.inr (slot_ne (Or.inr (tw38 hw)) (Or.inr (tw42 hw)) (by decide) (by decide +kernel : parseFieldDescriptor "I" = some .int) (by decide +kernel : parseFieldDescriptor "Z" = some .boolean)))
  have f39 : Fld Z h34 a "io/mereline/ParquetFormat$Column" "typeLength" "I" (.int tl) := f29.other W35 (Or.inr (slot_ne (Or.inr (tw40 hw)) (Or.inr (tw42 hw)) (by decide) (by decide +kernel : parseFieldDescriptor "I" = some .int) (by decide +kernel : parseFieldDescriptor "Z" = some .boolean)))
  have f40 : Fld Z h34 a "io/mereline/ParquetFormat$Column" "optional" "Z" (.int (nar .boolean o)) := f30.same W35
  have f41 : Fld Z h34 a "io/mereline/ParquetFormat$Column" "logical" "Lio/mereline/ParquetFormat$Logical;" (.null) := f31.other W35 (Or.inr (slot_ne (Or.inr (tw44 hw)) (Or.inr (tw42 hw)) (by decide) (by decide +kernel : parseFieldDescriptor "Lio/mereline/ParquetFormat$Logical;" = some (.object "io/mereline/ParquetFormat$Logical")) (by decide +kernel : parseFieldDescriptor "Z" = some .boolean)))
  have zs42 : Z.heap.size ≤ h34.size := W35.size ▸ zs32
  have kp43 : Keep h h34 [a] := kp33.wr W35 (Or.inl (by simp))
  refine Go.aload_n 26 d4_25 rfl rfl rfl ?_
  refine Go.aload 28 d4_26 rfl rfl rfl ?_
  refine Go.putfield (ty := (.object "io/mereline/ParquetFormat$Logical")) 31 d4_28 (tw43 hw) f41 f36 (Or.inr ⟨(tw44 hw), rfl, rfl⟩) (tw2 hw) (by decide) rfl rfl ge_a rfl (fun h44 W45 => ?_)
  have f46 : Exa Z h44 a "io/mereline/ParquetFormat$Column" := f36.wr W45
  have f47 : Fld Z h44 a "io/mereline/ParquetFormat$Column" "name" "Ljava/lang/String;" (.ref s) := f37.other W45 (Or.inr (slot_ne (Or.inr (tw36 hw)) (Or.inr (tw44 hw)) (by decide) (by decide +kernel : parseFieldDescriptor "Ljava/lang/String;" = some (.object "java/lang/String")) (by decide +kernel : parseFieldDescriptor "Lio/mereline/ParquetFormat$Logical;" = some (.object "io/mereline/ParquetFormat$Logical"))))
  have f48 : Fld Z h44 a "io/mereline/ParquetFormat$Column" "type" "I" (.int t) := f38.other W45 (Or.inr (slot_ne (Or.inr (tw38 hw)) (Or.inr (tw44 hw)) (by decide) (by decide +kernel : parseFieldDescriptor "I" = some .int) (by decide +kernel : parseFieldDescriptor "Lio/mereline/ParquetFormat$Logical;" = some (.object "io/mereline/ParquetFormat$Logical"))))
  have f49 : Fld Z h44 a "io/mereline/ParquetFormat$Column" "typeLength" "I" (.int tl) := f39.other W45 (Or.inr (slot_ne (Or.inr (tw40 hw)) (Or.inr (tw44 hw)) (by decide) (by decide +kernel : parseFieldDescriptor "I" = some .int) (by decide +kernel : parseFieldDescriptor "Lio/mereline/ParquetFormat$Logical;" = some (.object "io/mereline/ParquetFormat$Logical"))))
  have f50 : Fld Z h44 a "io/mereline/ParquetFormat$Column" "optional" "Z" (.int (nar .boolean o)) := f40.other W45 (Or.inr (slot_ne (Or.inr (tw42 hw)) (Or.inr (tw44 hw)) (by decide) (by decide +kernel : parseFieldDescriptor "Z" = some .boolean) (by decide +kernel : parseFieldDescriptor "Lio/mereline/ParquetFormat$Logical;" = some (.object "io/mereline/ParquetFormat$Logical"))))
  have f51 : Fld Z h44 a "io/mereline/ParquetFormat$Column" "logical" "Lio/mereline/ParquetFormat$Logical;" (.ref g) := f41.same W45
  have zs52 : Z.heap.size ≤ h44.size := W45.size ▸ zs42
  have kp53 : Keep h h44 [a] := kp43.wr W45 (Or.inl (by simp))
  refine Go.vreturn d4_31 rfl (by decide) (by decide) ?_
  exact ⟨kp53, f46, f48, f49⟩

theorem d5_0 : decode prog_106_method_2_code 0 = .ok (.aload_n 0, 1) := by decide +kernel
theorem d5_1 : decode prog_106_method_2_code 1 = .ok (.getfield 15, 3) := by decide +kernel
theorem d5_4 : decode prog_106_method_2_code 4 = .ok (.ifCond .ne 8, 3) := by decide +kernel
theorem d5_7 : decode prog_106_method_2_code 7 = .ok (.iconst 1, 1) := by decide +kernel
theorem d5_8 : decode prog_106_method_2_code 8 = .ok (.istore_n 2, 1) := by decide +kernel
theorem d5_9 : decode prog_106_method_2_code 9 = .ok (.goto 58, 3) := by decide +kernel
theorem d5_12 : decode prog_106_method_2_code 12 = .ok (.aload_n 0, 1) := by decide +kernel
theorem d5_13 : decode prog_106_method_2_code 13 = .ok (.getfield 15, 3) := by decide +kernel
theorem d5_16 : decode prog_106_method_2_code 16 = .ok (.iconst 1, 1) := by decide +kernel
theorem d5_17 : decode prog_106_method_2_code 17 = .ok (.if_icmp .ne 8, 3) := by decide +kernel
theorem d5_20 : decode prog_106_method_2_code 20 = .ok (.iconst 4, 1) := by decide +kernel
theorem d5_21 : decode prog_106_method_2_code 21 = .ok (.istore_n 2, 1) := by decide +kernel
theorem d5_22 : decode prog_106_method_2_code 22 = .ok (.goto 45, 3) := by decide +kernel
theorem d5_25 : decode prog_106_method_2_code 25 = .ok (.aload_n 0, 1) := by decide +kernel
theorem d5_26 : decode prog_106_method_2_code 26 = .ok (.getfield 15, 3) := by decide +kernel
theorem d5_29 : decode prog_106_method_2_code 29 = .ok (.iconst 2, 1) := by decide +kernel
theorem d5_30 : decode prog_106_method_2_code 30 = .ok (.if_icmp .eq 11, 3) := by decide +kernel
theorem d5_33 : decode prog_106_method_2_code 33 = .ok (.aload_n 0, 1) := by decide +kernel
theorem d5_34 : decode prog_106_method_2_code 34 = .ok (.getfield 15, 3) := by decide +kernel
theorem d5_37 : decode prog_106_method_2_code 37 = .ok (.iconst 5, 1) := by decide +kernel
theorem d5_38 : decode prog_106_method_2_code 38 = .ok (.if_icmp .ne 9, 3) := by decide +kernel
theorem d5_41 : decode prog_106_method_2_code 41 = .ok (.bipush 8, 2) := by decide +kernel
theorem d5_43 : decode prog_106_method_2_code 43 = .ok (.istore_n 2, 1) := by decide +kernel
theorem d5_44 : decode prog_106_method_2_code 44 = .ok (.goto 23, 3) := by decide +kernel
theorem d5_47 : decode prog_106_method_2_code 47 = .ok (.aload_n 0, 1) := by decide +kernel
theorem d5_48 : decode prog_106_method_2_code 48 = .ok (.getfield 15, 3) := by decide +kernel
theorem d5_51 : decode prog_106_method_2_code 51 = .ok (.bipush 7, 2) := by decide +kernel
theorem d5_53 : decode prog_106_method_2_code 53 = .ok (.if_icmp .ne 11, 3) := by decide +kernel
theorem d5_56 : decode prog_106_method_2_code 56 = .ok (.aload_n 0, 1) := by decide +kernel
theorem d5_57 : decode prog_106_method_2_code 57 = .ok (.getfield 19, 3) := by decide +kernel
theorem d5_60 : decode prog_106_method_2_code 60 = .ok (.istore_n 2, 1) := by decide +kernel
theorem d5_61 : decode prog_106_method_2_code 61 = .ok (.goto 6, 3) := by decide +kernel
theorem d5_64 : decode prog_106_method_2_code 64 = .ok (.aload_n 1, 1) := by decide +kernel
theorem d5_65 : decode prog_106_method_2_code 65 = .ok (.arraylength, 1) := by decide +kernel
theorem d5_66 : decode prog_106_method_2_code 66 = .ok (.istore_n 2, 1) := by decide +kernel
theorem d5_67 : decode prog_106_method_2_code 67 = .ok (.aload_n 1, 1) := by decide +kernel
theorem d5_68 : decode prog_106_method_2_code 68 = .ok (.arraylength, 1) := by decide +kernel
theorem d5_69 : decode prog_106_method_2_code 69 = .ok (.iload_n 2, 1) := by decide +kernel
theorem d5_70 : decode prog_106_method_2_code 70 = .ok (.if_icmp .ne 7, 3) := by decide +kernel
theorem d5_73 : decode prog_106_method_2_code 73 = .ok (.iconst 1, 1) := by decide +kernel
theorem d5_74 : decode prog_106_method_2_code 74 = .ok (.goto 4, 3) := by decide +kernel
theorem d5_77 : decode prog_106_method_2_code 77 = .ok (.iconst 0, 1) := by decide +kernel
theorem d5_78 : decode prog_106_method_2_code 78 = .ok (.ireturn, 1) := by decide +kernel

theorem pd5 : parseMethodDescriptor "([B)Z" = some ⟨[(.array .byte)], some .boolean⟩ := by decide +kernel
theorem pl5 : plainFor (⟨"io/mereline/ParquetFormat$Column", "holdsValue", "([B)Z"⟩ : MethodName) = true := by first | exact plainFor_of_name (by first | (simp [plainName, overriddenIn]; done) | decide +kernel) | decide +kernel

theorem ef_k_hold (m : MethodId) (x0 : Addr) (x1 : Addr) : entryFrame m #[(.ref x0), (.ref x1)] 3 = mkF m 0 #[.val (.ref x0), .val (.ref x1), .unset] [] := by first | (simp [entryFrame, mkF, argsToLocals, Value.category]; done) | rfl

set_option maxRecDepth 65536 in
set_option maxHeartbeats 40000000 in
theorem k_hold {l : Launch} {Z : State} {a0 : Array Value} (hw : ∀ d ∈ tables_1, d.before a0 Z = true) {t : Int32} {tl : Int32} {n : Int32} {xs : List Int32} (h : Heap) (hz : Z.heap.size ≤ h.size) (a : Addr) (b : Addr) (fa0 : Fld Z h a "io/mereline/ParquetFormat$Column" "type" "I" (.int t)) (fa1 : Fld Z h a "io/mereline/ParquetFormat$Column" "typeLength" "I" (.int tl)) (fa2 : Ari Z h b .byte xs) (hl : xs.length.toInt32 = n)   : Go l Z (⟨"io/mereline/ParquetFormat$Column", "holdsValue", "([B)Z"⟩ : MethodName) prog_106_method_2_code 3 (Option.some Jvm.ClassFile.FieldType.boolean) ({ frames := 0, cells := 0, slots := 0, locals := 0 } : Room) (QI fun rz h' => rz = (own_holds t tl n) ∧ h' = h) 0 0 h 0 #[.val (.ref a), .val (.ref b), .unset] [] := by
  refine Go.aload_n 1 d5_0 rfl rfl rfl ?_
  refine Go.getfield 4 d5_1 (tw37 hw) fa0 rfl ?_
  refine Go.if_ne 12 7 d5_4 (by decide) (by decide) rfl (fun c1 => ?_) (fun c1 => ?_)
  ·
    refine Go.aload_n 13 d5_12 rfl rfl rfl ?_
    refine Go.getfield 16 d5_13 (tw37 hw) fa0 rfl ?_
    refine Go.iconst 17 (1) d5_16 (by decide) rfl ?_
    refine Go.icmp_ne 25 20 d5_17 (by decide) (by decide) rfl (fun c2 => ?_) (fun c2 => ?_)
    ·
      refine Go.aload_n 26 d5_25 rfl rfl rfl ?_
      refine Go.getfield 29 d5_26 (tw37 hw) fa0 rfl ?_
      refine Go.iconst 30 (2) d5_29 (by decide) rfl ?_
      refine Go.icmp_eq 41 33 d5_30 (by decide) (by decide) rfl (fun c3 => ?_) (fun c3 => ?_)
      ·
        refine Go.bipush 43 (8) d5_41 (by decide) rfl ?_
        refine Go.istore_n 44 #[.val (.ref a), .val (.ref b), .val (.int (8 : Int32))] d5_43 rfl rfl ?_
        refine Go.goto 67 d5_44 (by decide) (by decide) ?_
        refine Go.aload_n 68 d5_67 rfl rfl rfl ?_
        refine Go.arraylength (z := n) 69 d5_68 fa2 hl rfl ?_
        refine Go.iload_n 70 d5_69 rfl rfl ?_
        refine Go.icmp_ne 77 73 d5_70 (by decide) (by decide) rfl (fun c4 => ?_) (fun c4 => ?_)
        ·
          refine Go.iconst 78 (0) d5_77 (by decide) rfl ?_
          refine Go.nreturn (t := .boolean) (z' := (0 : Int32)) d5_78 rfl (by simp) (by decide) (by decide) (by decide) ?_
          refine ⟨?_, rfl⟩
          first | (simp only [own_holds, c1, c2, eq_true c3, c4, not_true_eq_false, not_false_eq_true, and_true, true_and, and_false, false_and, or_true, true_or, or_false, false_or, if_true, if_false]; done) | exact absurd rfl c4
        ·
          refine Go.iconst 74 (1) d5_73 (by decide) rfl ?_
          refine Go.goto 78 d5_74 (by decide) (by decide) ?_
          refine Go.nreturn (t := .boolean) (z' := (1 : Int32)) d5_78 rfl (by simp) (by decide) (by decide) (by decide) ?_
          refine ⟨?_, rfl⟩
          first | (simp only [own_holds, c1, c2, eq_true c3, eq_true c4, not_true_eq_false, not_false_eq_true, and_true, true_and, and_false, false_and, or_true, true_or, or_false, false_or, if_true, if_false]; done) | exact absurd rfl c4
      ·
        refine Go.aload_n 34 d5_33 rfl rfl rfl ?_
        refine Go.getfield 37 d5_34 (tw37 hw) fa0 rfl ?_
        refine Go.iconst 38 (5) d5_37 (by decide) rfl ?_
        refine Go.icmp_ne 47 41 d5_38 (by decide) (by decide) rfl (fun c5 => ?_) (fun c5 => ?_)
        ·
          refine Go.aload_n 48 d5_47 rfl rfl rfl ?_
          refine Go.getfield 51 d5_48 (tw37 hw) fa0 rfl ?_
          refine Go.bipush 53 (7) d5_51 (by decide) rfl ?_
          refine Go.icmp_ne 64 56 d5_53 (by decide) (by decide) rfl (fun c6 => ?_) (fun c6 => ?_)
          ·
            refine Go.aload_n 65 d5_64 rfl rfl rfl ?_
            refine Go.arraylength (z := n) 66 d5_65 fa2 hl rfl ?_
            refine Go.istore_n 67 #[.val (.ref a), .val (.ref b), .val (.int n)] d5_66 rfl rfl ?_
            refine Go.aload_n 68 d5_67 rfl rfl rfl ?_
            refine Go.arraylength (z := n) 69 d5_68 fa2 hl rfl ?_
            refine Go.iload_n 70 d5_69 rfl rfl ?_
            refine Go.icmp_ne 77 73 d5_70 (by decide) (by decide) rfl (fun c7 => ?_) (fun c7 => ?_)
            ·
              refine Go.iconst 78 (0) d5_77 (by decide) rfl ?_
              refine Go.nreturn (t := .boolean) (z' := (0 : Int32)) d5_78 rfl (by simp) (by decide) (by decide) (by decide) ?_
              refine ⟨?_, rfl⟩
              first | (simp only [own_holds, c1, c2, c3, c5, c6, c7, not_true_eq_false, not_false_eq_true, and_true, true_and, and_false, false_and, or_true, true_or, or_false, false_or, if_true, if_false]; done) | exact absurd rfl c7
            ·
              refine Go.iconst 74 (1) d5_73 (by decide) rfl ?_
              refine Go.goto 78 d5_74 (by decide) (by decide) ?_
              refine Go.nreturn (t := .boolean) (z' := (1 : Int32)) d5_78 rfl (by simp) (by decide) (by decide) (by decide) ?_
              refine ⟨?_, rfl⟩
              first | (simp only [own_holds, c1, c2, c3, c5, c6, eq_true c7, not_true_eq_false, not_false_eq_true, and_true, true_and, and_false, false_and, or_true, true_or, or_false, false_or, if_true, if_false]; done) | exact absurd rfl c7
          ·
            refine Go.aload_n 57 d5_56 rfl rfl rfl ?_
            refine Go.getfield 60 d5_57 (tw39 hw) fa1 rfl ?_
            refine Go.istore_n 61 #[.val (.ref a), .val (.ref b), .val (.int tl)] d5_60 rfl rfl ?_
            refine Go.goto 67 d5_61 (by decide) (by decide) ?_
            refine Go.aload_n 68 d5_67 rfl rfl rfl ?_
            refine Go.arraylength (z := n) 69 d5_68 fa2 hl rfl ?_
            refine Go.iload_n 70 d5_69 rfl rfl ?_
            refine Go.icmp_ne 77 73 d5_70 (by decide) (by decide) rfl (fun c8 => ?_) (fun c8 => ?_)
            ·
              refine Go.iconst 78 (0) d5_77 (by decide) rfl ?_
              refine Go.nreturn (t := .boolean) (z' := (0 : Int32)) d5_78 rfl (by simp) (by decide) (by decide) (by decide) ?_
              refine ⟨?_, rfl⟩
              first | (simp only [own_holds, c1, c2, c3, c5, eq_true c6, c8, not_true_eq_false, not_false_eq_true, and_true, true_and, and_false, false_and, or_true, true_or, or_false, false_or, if_true, if_false]; done) | exact absurd rfl c8
            ·
              refine Go.iconst 74 (1) d5_73 (by decide) rfl ?_
              refine Go.goto 78 d5_74 (by decide) (by decide) ?_
              refine Go.nreturn (t := .boolean) (z' := (1 : Int32)) d5_78 rfl (by simp) (by decide) (by decide) (by decide) ?_
              refine ⟨?_, rfl⟩
              first | (simp only [own_holds, c1, c2, c3, c5, eq_true c6, eq_true c8, not_true_eq_false, not_false_eq_true, and_true, true_and, and_false, false_and, or_true, true_or, or_false, false_or, if_true, if_false]; done) | exact absurd rfl c8
        ·
          refine Go.bipush 43 (8) d5_41 (by decide) rfl ?_
          refine Go.istore_n 44 #[.val (.ref a), .val (.ref b), .val (.int (8 : Int32))] d5_43 rfl rfl ?_
          refine Go.goto 67 d5_44 (by decide) (by decide) ?_
          refine Go.aload_n 68 d5_67 rfl rfl rfl ?_
          refine Go.arraylength (z := n) 69 d5_68 fa2 hl rfl ?_
          refine Go.iload_n 70 d5_69 rfl rfl ?_
          refine Go.icmp_ne 77 73 d5_70 (by decide) (by decide) rfl (fun c9 => ?_) (fun c9 => ?_)
          ·
            refine Go.iconst 78 (0) d5_77 (by decide) rfl ?_
            refine Go.nreturn (t := .boolean) (z' := (0 : Int32)) d5_78 rfl (by simp) (by decide) (by decide) (by decide) ?_
            refine ⟨?_, rfl⟩
            first | (simp only [own_holds, c1, c2, c3, eq_true c5, c9, not_true_eq_false, not_false_eq_true, and_true, true_and, and_false, false_and, or_true, true_or, or_false, false_or, if_true, if_false]; done) | exact absurd rfl c9
          ·
            refine Go.iconst 74 (1) d5_73 (by decide) rfl ?_
            refine Go.goto 78 d5_74 (by decide) (by decide) ?_
            refine Go.nreturn (t := .boolean) (z' := (1 : Int32)) d5_78 rfl (by simp) (by decide) (by decide) (by decide) ?_
            refine ⟨?_, rfl⟩
            first | (simp only [own_holds, c1, c2, c3, eq_true c5, eq_true c9, not_true_eq_false, not_false_eq_true, and_true, true_and, and_false, false_and, or_true, true_or, or_false, false_or, if_true, if_false]; done) | exact absurd rfl c9
    ·
      refine Go.iconst 21 (4) d5_20 (by decide) rfl ?_
      refine Go.istore_n 22 #[.val (.ref a), .val (.ref b), .val (.int (4 : Int32))] d5_21 rfl rfl ?_
      refine Go.goto 67 d5_22 (by decide) (by decide) ?_
      refine Go.aload_n 68 d5_67 rfl rfl rfl ?_
      refine Go.arraylength (z := n) 69 d5_68 fa2 hl rfl ?_
      refine Go.iload_n 70 d5_69 rfl rfl ?_
      refine Go.icmp_ne 77 73 d5_70 (by decide) (by decide) rfl (fun c10 => ?_) (fun c10 => ?_)
      ·
        refine Go.iconst 78 (0) d5_77 (by decide) rfl ?_
        refine Go.nreturn (t := .boolean) (z' := (0 : Int32)) d5_78 rfl (by simp) (by decide) (by decide) (by decide) ?_
        refine ⟨?_, rfl⟩
        first | (simp only [own_holds, c1, eq_true c2, c10, not_true_eq_false, not_false_eq_true, and_true, true_and, and_false, false_and, or_true, true_or, or_false, false_or, if_true, if_false]; done) | exact absurd rfl c10
      ·
        refine Go.iconst 74 (1) d5_73 (by decide) rfl ?_
        refine Go.goto 78 d5_74 (by decide) (by decide) ?_
        refine Go.nreturn (t := .boolean) (z' := (1 : Int32)) d5_78 rfl (by simp) (by decide) (by decide) (by decide) ?_
        refine ⟨?_, rfl⟩
        first | (simp only [own_holds, c1, eq_true c2, eq_true c10, not_true_eq_false, not_false_eq_true, and_true, true_and, and_false, false_and, or_true, true_or, or_false, false_or, if_true, if_false]; done) | exact absurd rfl c10
  ·
    refine Go.iconst 8 (1) d5_7 (by decide) rfl ?_
    refine Go.istore_n 9 #[.val (.ref a), .val (.ref b), .val (.int (1 : Int32))] d5_8 rfl rfl ?_
    refine Go.goto 67 d5_9 (by decide) (by decide) ?_
    refine Go.aload_n 68 d5_67 rfl rfl rfl ?_
    refine Go.arraylength (z := n) 69 d5_68 fa2 hl rfl ?_
    refine Go.iload_n 70 d5_69 rfl rfl ?_
    refine Go.icmp_ne 77 73 d5_70 (by decide) (by decide) rfl (fun c11 => ?_) (fun c11 => ?_)
    ·
      refine Go.iconst 78 (0) d5_77 (by decide) rfl ?_
      refine Go.nreturn (t := .boolean) (z' := (0 : Int32)) d5_78 rfl (by simp) (by decide) (by decide) (by decide) ?_
      refine ⟨?_, rfl⟩
      first | (simp only [own_holds, eq_true c1, c11, not_true_eq_false, not_false_eq_true, and_true, true_and, and_false, false_and, or_true, true_or, or_false, false_or, if_true, if_false]; done) | exact absurd rfl c11
    ·
      refine Go.iconst 74 (1) d5_73 (by decide) rfl ?_
      refine Go.goto 78 d5_74 (by decide) (by decide) ?_
      refine Go.nreturn (t := .boolean) (z' := (1 : Int32)) d5_78 rfl (by simp) (by decide) (by decide) (by decide) ?_
      refine ⟨?_, rfl⟩
      first | (simp only [own_holds, eq_true c1, eq_true c11, not_true_eq_false, not_false_eq_true, and_true, true_and, and_false, false_and, or_true, true_or, or_false, false_or, if_true, if_false]; done) | exact absurd rfl c11

theorem d6_0 : decode method_2_code 0 = .ok (.iload_n 0, 1) := by decide +kernel
theorem d6_1 : decode method_2_code 1 = .ok (.ifCond .ne 14, 3) := by decide +kernel
theorem d6_4 : decode method_2_code 4 = .ok (.iload_n 2, 1) := by decide +kernel
theorem d6_5 : decode method_2_code 5 = .ok (.iconst 1, 1) := by decide +kernel
theorem d6_6 : decode method_2_code 6 = .ok (.if_icmp .ne 7, 3) := by decide +kernel
theorem d6_9 : decode method_2_code 9 = .ok (.iconst 1, 1) := by decide +kernel
theorem d6_10 : decode method_2_code 10 = .ok (.goto 4, 3) := by decide +kernel
theorem d6_13 : decode method_2_code 13 = .ok (.iconst 0, 1) := by decide +kernel
theorem d6_14 : decode method_2_code 14 = .ok (.ireturn, 1) := by decide +kernel
theorem d6_15 : decode method_2_code 15 = .ok (.iload_n 0, 1) := by decide +kernel
theorem d6_16 : decode method_2_code 16 = .ok (.iconst 1, 1) := by decide +kernel
theorem d6_17 : decode method_2_code 17 = .ok (.if_icmp .ne 14, 3) := by decide +kernel
theorem d6_20 : decode method_2_code 20 = .ok (.iload_n 2, 1) := by decide +kernel
theorem d6_21 : decode method_2_code 21 = .ok (.iconst 4, 1) := by decide +kernel
theorem d6_22 : decode method_2_code 22 = .ok (.if_icmp .ne 7, 3) := by decide +kernel
theorem d6_25 : decode method_2_code 25 = .ok (.iconst 1, 1) := by decide +kernel
theorem d6_26 : decode method_2_code 26 = .ok (.goto 4, 3) := by decide +kernel
theorem d6_29 : decode method_2_code 29 = .ok (.iconst 0, 1) := by decide +kernel
theorem d6_30 : decode method_2_code 30 = .ok (.ireturn, 1) := by decide +kernel
theorem d6_31 : decode method_2_code 31 = .ok (.iload_n 0, 1) := by decide +kernel
theorem d6_32 : decode method_2_code 32 = .ok (.iconst 2, 1) := by decide +kernel
theorem d6_33 : decode method_2_code 33 = .ok (.if_icmp .ne 15, 3) := by decide +kernel
theorem d6_36 : decode method_2_code 36 = .ok (.iload_n 2, 1) := by decide +kernel
theorem d6_37 : decode method_2_code 37 = .ok (.bipush 8, 2) := by decide +kernel
theorem d6_39 : decode method_2_code 39 = .ok (.if_icmp .ne 7, 3) := by decide +kernel
theorem d6_42 : decode method_2_code 42 = .ok (.iconst 1, 1) := by decide +kernel
theorem d6_43 : decode method_2_code 43 = .ok (.goto 4, 3) := by decide +kernel
theorem d6_46 : decode method_2_code 46 = .ok (.iconst 0, 1) := by decide +kernel
theorem d6_47 : decode method_2_code 47 = .ok (.ireturn, 1) := by decide +kernel
theorem d6_48 : decode method_2_code 48 = .ok (.iload_n 0, 1) := by decide +kernel
theorem d6_49 : decode method_2_code 49 = .ok (.iconst 5, 1) := by decide +kernel
theorem d6_50 : decode method_2_code 50 = .ok (.if_icmp .ne 15, 3) := by decide +kernel
theorem d6_53 : decode method_2_code 53 = .ok (.iload_n 2, 1) := by decide +kernel
theorem d6_54 : decode method_2_code 54 = .ok (.bipush 8, 2) := by decide +kernel
theorem d6_56 : decode method_2_code 56 = .ok (.if_icmp .ne 7, 3) := by decide +kernel
theorem d6_59 : decode method_2_code 59 = .ok (.iconst 1, 1) := by decide +kernel
theorem d6_60 : decode method_2_code 60 = .ok (.goto 4, 3) := by decide +kernel
theorem d6_63 : decode method_2_code 63 = .ok (.iconst 0, 1) := by decide +kernel
theorem d6_64 : decode method_2_code 64 = .ok (.ireturn, 1) := by decide +kernel
theorem d6_65 : decode method_2_code 65 = .ok (.iload_n 0, 1) := by decide +kernel
theorem d6_66 : decode method_2_code 66 = .ok (.bipush 7, 2) := by decide +kernel
theorem d6_68 : decode method_2_code 68 = .ok (.if_icmp .ne 14, 3) := by decide +kernel
theorem d6_71 : decode method_2_code 71 = .ok (.iload_n 2, 1) := by decide +kernel
theorem d6_72 : decode method_2_code 72 = .ok (.iload_n 1, 1) := by decide +kernel
theorem d6_73 : decode method_2_code 73 = .ok (.if_icmp .ne 7, 3) := by decide +kernel
theorem d6_76 : decode method_2_code 76 = .ok (.iconst 1, 1) := by decide +kernel
theorem d6_77 : decode method_2_code 77 = .ok (.goto 4, 3) := by decide +kernel
theorem d6_80 : decode method_2_code 80 = .ok (.iconst 0, 1) := by decide +kernel
theorem d6_81 : decode method_2_code 81 = .ok (.ireturn, 1) := by decide +kernel
theorem d6_82 : decode method_2_code 82 = .ok (.iconst 1, 1) := by decide +kernel
theorem d6_83 : decode method_2_code 83 = .ok (.ireturn, 1) := by decide +kernel

theorem pd6 : parseMethodDescriptor "(III)Z" = some ⟨[.int, .int, .int], some .boolean⟩ := by decide +kernel
theorem pl6 : plainFor (⟨"io/mereline/ColumnHoldsValuePinLaw", "expected", "(III)Z"⟩ : MethodName) = true := by first | exact plainFor_of_name (by first | (simp [plainName, overriddenIn]; done) | decide +kernel) | decide +kernel

theorem ef_k_exp (m : MethodId) (x0 : Int32) (x1 : Int32) (x2 : Int32) : entryFrame m #[(.int x0), (.int x1), (.int x2)] 3 = mkF m 0 #[.val (.int x0), .val (.int x1), .val (.int x2)] [] := by first | (simp [entryFrame, mkF, argsToLocals, Value.category]; done) | rfl

set_option maxRecDepth 65536 in
set_option maxHeartbeats 40000000 in
theorem k_exp {l : Launch} {Z : State} {a0 : Array Value} (hw : ∀ d ∈ tables_1, d.before a0 Z = true)  (h : Heap) (hz : Z.heap.size ≤ h.size) (t : Int32) (tl : Int32) (n : Int32)     : Go l Z (⟨"io/mereline/ColumnHoldsValuePinLaw", "expected", "(III)Z"⟩ : MethodName) method_2_code 3 (Option.some Jvm.ClassFile.FieldType.boolean) ({ frames := 0, cells := 0, slots := 0, locals := 0 } : Room) (QI fun rz h' => rz = (own_exp t tl n) ∧ h' = h) 0 0 h 0 #[.val (.int t), .val (.int tl), .val (.int n)] [] := by
  refine Go.iload_n 1 d6_0 rfl rfl ?_
  refine Go.if_ne 15 4 d6_1 (by decide) (by decide) rfl (fun c1 => ?_) (fun c1 => ?_)
  ·
    refine Go.iload_n 16 d6_15 rfl rfl ?_
    refine Go.iconst 17 (1) d6_16 (by decide) rfl ?_
    refine Go.icmp_ne 31 20 d6_17 (by decide) (by decide) rfl (fun c2 => ?_) (fun c2 => ?_)
    ·
      refine Go.iload_n 32 d6_31 rfl rfl ?_
      refine Go.iconst 33 (2) d6_32 (by decide) rfl ?_
      refine Go.icmp_ne 48 36 d6_33 (by decide) (by decide) rfl (fun c3 => ?_) (fun c3 => ?_)
      ·
        refine Go.iload_n 49 d6_48 rfl rfl ?_
        refine Go.iconst 50 (5) d6_49 (by decide) rfl ?_
        refine Go.icmp_ne 65 53 d6_50 (by decide) (by decide) rfl (fun c4 => ?_) (fun c4 => ?_)
        ·
          refine Go.iload_n 66 d6_65 rfl rfl ?_
          refine Go.bipush 68 (7) d6_66 (by decide) rfl ?_
          refine Go.icmp_ne 82 71 d6_68 (by decide) (by decide) rfl (fun c5 => ?_) (fun c5 => ?_)
          ·
            refine Go.iconst 83 (1) d6_82 (by decide) rfl ?_
            refine Go.nreturn (t := .boolean) (z' := (1 : Int32)) d6_83 rfl (by simp) (by decide) (by decide) (by decide) ?_
            refine ⟨?_, rfl⟩
            simp only [own_exp, c1, c2, c3, c4, c5, not_true_eq_false, not_false_eq_true, and_true, true_and, and_false, false_and, or_true, true_or, or_false, false_or, if_true, if_false]
          ·
            refine Go.iload_n 72 d6_71 rfl rfl ?_
            refine Go.iload_n 73 d6_72 rfl rfl ?_
            refine Go.icmp_ne 80 76 d6_73 (by decide) (by decide) rfl (fun c6 => ?_) (fun c6 => ?_)
            ·
              refine Go.iconst 81 (0) d6_80 (by decide) rfl ?_
              refine Go.nreturn (t := .boolean) (z' := (0 : Int32)) d6_81 rfl (by simp) (by decide) (by decide) (by decide) ?_
              refine ⟨?_, rfl⟩
              simp only [own_exp, c1, c2, c3, c4, eq_true c5, c6, not_true_eq_false, not_false_eq_true, and_true, true_and, and_false, false_and, or_true, true_or, or_false, false_or, if_true, if_false]
            ·
              refine Go.iconst 77 (1) d6_76 (by decide) rfl ?_
              refine Go.goto 81 d6_77 (by decide) (by decide) ?_
              refine Go.nreturn (t := .boolean) (z' := (1 : Int32)) d6_81 rfl (by simp) (by decide) (by decide) (by decide) ?_
              refine ⟨?_, rfl⟩
              simp only [own_exp, c1, c2, c3, c4, eq_true c5, eq_true c6, not_true_eq_false, not_false_eq_true, and_true, true_and, and_false, false_and, or_true, true_or, or_false, false_or, if_true, if_false]
        ·
          refine Go.iload_n 54 d6_53 rfl rfl ?_
          refine Go.bipush 56 (8) d6_54 (by decide) rfl ?_
          refine Go.icmp_ne 63 59 d6_56 (by decide) (by decide) rfl (fun c7 => ?_) (fun c7 => ?_)
          ·
            refine Go.iconst 64 (0) d6_63 (by decide) rfl ?_
            refine Go.nreturn (t := .boolean) (z' := (0 : Int32)) d6_64 rfl (by simp) (by decide) (by decide) (by decide) ?_
            refine ⟨?_, rfl⟩
            simp only [own_exp, c1, c2, c3, eq_true c4, c7, not_true_eq_false, not_false_eq_true, and_true, true_and, and_false, false_and, or_true, true_or, or_false, false_or, if_true, if_false]
          ·
            refine Go.iconst 60 (1) d6_59 (by decide) rfl ?_
            refine Go.goto 64 d6_60 (by decide) (by decide) ?_
            refine Go.nreturn (t := .boolean) (z' := (1 : Int32)) d6_64 rfl (by simp) (by decide) (by decide) (by decide) ?_
            refine ⟨?_, rfl⟩
            simp only [own_exp, c1, c2, c3, eq_true c4, eq_true c7, not_true_eq_false, not_false_eq_true, and_true, true_and, and_false, false_and, or_true, true_or, or_false, false_or, if_true, if_false]
      ·
        refine Go.iload_n 37 d6_36 rfl rfl ?_
        refine Go.bipush 39 (8) d6_37 (by decide) rfl ?_
        refine Go.icmp_ne 46 42 d6_39 (by decide) (by decide) rfl (fun c8 => ?_) (fun c8 => ?_)
        ·
          refine Go.iconst 47 (0) d6_46 (by decide) rfl ?_
          refine Go.nreturn (t := .boolean) (z' := (0 : Int32)) d6_47 rfl (by simp) (by decide) (by decide) (by decide) ?_
          refine ⟨?_, rfl⟩
          simp only [own_exp, c1, c2, eq_true c3, c8, not_true_eq_false, not_false_eq_true, and_true, true_and, and_false, false_and, or_true, true_or, or_false, false_or, if_true, if_false]
        ·
          refine Go.iconst 43 (1) d6_42 (by decide) rfl ?_
          refine Go.goto 47 d6_43 (by decide) (by decide) ?_
          refine Go.nreturn (t := .boolean) (z' := (1 : Int32)) d6_47 rfl (by simp) (by decide) (by decide) (by decide) ?_
          refine ⟨?_, rfl⟩
          simp only [own_exp, c1, c2, eq_true c3, eq_true c8, not_true_eq_false, not_false_eq_true, and_true, true_and, and_false, false_and, or_true, true_or, or_false, false_or, if_true, if_false]
    ·
      refine Go.iload_n 21 d6_20 rfl rfl ?_
      refine Go.iconst 22 (4) d6_21 (by decide) rfl ?_
      refine Go.icmp_ne 29 25 d6_22 (by decide) (by decide) rfl (fun c9 => ?_) (fun c9 => ?_)
      ·
        refine Go.iconst 30 (0) d6_29 (by decide) rfl ?_
        refine Go.nreturn (t := .boolean) (z' := (0 : Int32)) d6_30 rfl (by simp) (by decide) (by decide) (by decide) ?_
        refine ⟨?_, rfl⟩
        simp only [own_exp, c1, eq_true c2, c9, not_true_eq_false, not_false_eq_true, and_true, true_and, and_false, false_and, or_true, true_or, or_false, false_or, if_true, if_false]
      ·
        refine Go.iconst 26 (1) d6_25 (by decide) rfl ?_
        refine Go.goto 30 d6_26 (by decide) (by decide) ?_
        refine Go.nreturn (t := .boolean) (z' := (1 : Int32)) d6_30 rfl (by simp) (by decide) (by decide) (by decide) ?_
        refine ⟨?_, rfl⟩
        simp only [own_exp, c1, eq_true c2, eq_true c9, not_true_eq_false, not_false_eq_true, and_true, true_and, and_false, false_and, or_true, true_or, or_false, false_or, if_true, if_false]
  ·
    refine Go.iload_n 5 d6_4 rfl rfl ?_
    refine Go.iconst 6 (1) d6_5 (by decide) rfl ?_
    refine Go.icmp_ne 13 9 d6_6 (by decide) (by decide) rfl (fun c10 => ?_) (fun c10 => ?_)
    ·
      refine Go.iconst 14 (0) d6_13 (by decide) rfl ?_
      refine Go.nreturn (t := .boolean) (z' := (0 : Int32)) d6_14 rfl (by simp) (by decide) (by decide) (by decide) ?_
      refine ⟨?_, rfl⟩
      simp only [own_exp, eq_true c1, c10, not_true_eq_false, not_false_eq_true, and_true, true_and, and_false, false_and, or_true, true_or, or_false, false_or, if_true, if_false]
    ·
      refine Go.iconst 10 (1) d6_9 (by decide) rfl ?_
      refine Go.goto 14 d6_10 (by decide) (by decide) ?_
      refine Go.nreturn (t := .boolean) (z' := (1 : Int32)) d6_14 rfl (by simp) (by decide) (by decide) (by decide) ?_
      refine ⟨?_, rfl⟩
      simp only [own_exp, eq_true c1, eq_true c10, not_true_eq_false, not_false_eq_true, and_true, true_and, and_false, false_and, or_true, true_or, or_false, false_or, if_true, if_false]

theorem ef_law0 (m : MethodId) (x0 : Int32) (x1 : Int32) (x2 : Int32) (x3 : Int32) (x4 : Int32) (x5 : Int32) : entryFrame m #[(.int x0), (.int x1), (.int x2), (.int x3), (.int x4), (.int x5)] maxLocals = mkF m 0 #[.val (.int x0), .val (.int x1), .val (.int x2), .val (.int x3), .val (.int x4), .val (.int x5), .unset, .unset, .unset, .unset, .unset, .unset] [] := by first | (simp [entryFrame, mkF, argsToLocals, Value.category, maxLocals]; done) | rfl

set_option maxRecDepth 65536 in
set_option maxHeartbeats 40000000 in
theorem law0 {l : Launch} {Z : State} {a0 : Array Value} (hw : ∀ d ∈ tables_1, d.before a0 Z = true)  (h : Heap) (hz : Z.heap.size ≤ h.size) (i0 : Int32) (i1 : Int32) (i2 : Int32) (i3 : Int32) (i4 : Int32) (i5 : Int32)     : GoB true l Z x code maxLocals ret room_1 (QI fun z h' => z = 1) 0 0 h 0 #[.val (.int i0), .val (.int i1), .val (.int i2), .val (.int i3), .val (.int i4), .val (.int i5), .unset, .unset, .unset, .unset, .unset, .unset] [] := by
  refine Go.iload_n 1 at_0 rfl rfl ?_
  refine Go.bipush 3 (8) at_1 (by decide) rfl ?_
  refine Go.iand 4 at_3 rfl ?_
  have J2 : ∀ (v3 : Int32), v3 = (if (i0 &&& (8 : Int32)) = (0 : Int32) then (i0 &&& (7 : Int32)) else i1) → GoB true l Z x code maxLocals ret room_1 (QI fun z h' => z = 1) 0 0 h 15 #[.val (.int i0), .val (.int i1), .val (.int i2), .val (.int i3), .val (.int i4), .val (.int i5), .unset, .unset, .unset, .unset, .unset, .unset] [.int v3] := by
    intro v3 e4
    refine Go.istore 17 #[.val (.int i0), .val (.int i1), .val (.int i2), .val (.int i3), .val (.int i4), .val (.int i5), .val (.int v3), .unset, .unset, .unset, .unset, .unset] at_15 rfl rfl ?_
    refine Go.iload 19 at_17 rfl rfl ?_
    refine Go.iconst 20 (1) at_19 (by decide) rfl ?_
    refine Go.iand 21 at_20 rfl ?_
    have J6 : ∀ (v7 : Int32), v7 = (if (i4 &&& (1 : Int32)) = (0 : Int32) then (i2 &&& (15 : Int32)) else i2) → GoB true l Z x code maxLocals ret room_1 (QI fun z h' => z = 1) 0 0 h 32 #[.val (.int i0), .val (.int i1), .val (.int i2), .val (.int i3), .val (.int i4), .val (.int i5), .val (.int v3), .unset, .unset, .unset, .unset, .unset] [.int v7] := by
      intro v7 e8
      refine Go.istore 34 #[.val (.int i0), .val (.int i1), .val (.int i2), .val (.int i3), .val (.int i4), .val (.int i5), .val (.int v3), .val (.int v7), .unset, .unset, .unset, .unset] at_32 rfl rfl ?_
      refine Go.iload 36 at_34 rfl rfl ?_
      refine Go.iconst 37 (2) at_36 (by decide) rfl ?_
      refine Go.iand 38 at_37 rfl ?_
      have J10 : ∀ (v11 : Int32), v11 = (if (i4 &&& (2 : Int32)) = (0 : Int32) then (0 : Int32) else (1 : Int32)) → GoB true l Z x code maxLocals ret room_1 (QI fun z h' => z = 1) 0 0 h 46 #[.val (.int i0), .val (.int i1), .val (.int i2), .val (.int i3), .val (.int i4), .val (.int i5), .val (.int v3), .val (.int v7), .unset, .unset, .unset, .unset] [.int v11] := by
        intro v11 e12
        refine Go.istore 48 #[.val (.int i0), .val (.int i1), .val (.int i2), .val (.int i3), .val (.int i4), .val (.int i5), .val (.int v3), .val (.int v7), .val (.int v11), .unset, .unset, .unset] at_46 rfl rfl ?_
        refine Go.iload_n 49 at_48 rfl rfl ?_
        refine Go.bipush 51 (15) at_49 (by decide) rfl ?_
        refine Go.iand 52 at_51 rfl ?_
        refine Go.nameI (fun v13 e14 => ?_)
        refine Go.istore 54 #[.val (.int i0), .val (.int i1), .val (.int i2), .val (.int i3), .val (.int i4), .val (.int i5), .val (.int v3), .val (.int v7), .val (.int v11), .val (.int v13), .unset, .unset] at_52 rfl rfl ?_
        have hn := own_n15 i3 v13 e14
        refine Go.iload 56 at_54 rfl rfl ?_
        refine Go.newI (cap := 15) (xs := (List.replicate (Int32.toNatClampNeg v13) 0)) 58 at_56 (tw0 hw) rfl hn.1 hn.2.1 (by decide) rfl (by decide) (by decide) rfl (fun a15 h16 q17 E18 A19 => ?_)
        have ge20 : Z.heap.size ≤ a15 := (Eq.symm q17) ▸ hz
        have zs21 : Z.heap.size ≤ h16.size := Nat.le_trans hz E18.1
        refine Go.astore 60 #[.val (.int i0), .val (.int i1), .val (.int i2), .val (.int i3), .val (.int i4), .val (.int i5), .val (.int v3), .val (.int v7), .val (.int v11), .val (.int v13), .val (.ref a15), .unset] at_58 rfl rfl rfl ?_
        refine Go.iload 62 at_60 rfl rfl ?_
        refine Go.if_le 87 65 at_62 (by decide) (by decide) rfl (fun c22 => ?_) (fun c22 => ?_)
        ·
          refine Go.new 90 at_87 (tw1 hw) (tw2 hw) (tw3 hw) (by decide) (by decide) rfl (fun a23 h24 q25 E26 A27 D28 => ?_)
          have ne29 : a15 ≠ a23 := fun e => absurd A19.lt (by rw [e, q25]; exact Nat.lt_irrefl _)
          have ge30 : Z.heap.size ≤ a23 := (Eq.symm q25) ▸ zs21
          have f31 : Ari Z h24 a15 .byte (List.replicate (Int32.toNatClampNeg v13) 0) := A19.ext E26
          have zs32 : Z.heap.size ≤ h24.size := Nat.le_trans zs21 E26.1
          have f33 : Fld Z h24 a23 "io/mereline/ParquetFormat$Column" "name" "Ljava/lang/String;" (.null) := D28 (Or.inr (tw36 hw)) (ty := (.object "java/lang/String")) (by decide)
          have f34 : Fld Z h24 a23 "io/mereline/ParquetFormat$Column" "type" "I" (.int (0 : Int32)) := D28 (Or.inr (tw38 hw)) (ty := .int) (by decide)
          have f35 : Fld Z h24 a23 "io/mereline/ParquetFormat$Column" "typeLength" "I" (.int (0 : Int32)) := D28 (Or.inr (tw40 hw)) (ty := .int) (by decide)
          have f36 : Fld Z h24 a23 "io/mereline/ParquetFormat$Column" "optional" "Z" (.int (0 : Int32)) := D28 (Or.inr (tw42 hw)) (ty := .boolean) (by decide)
          have f37 : Fld Z h24 a23 "io/mereline/ParquetFormat$Column" "logical" "Lio/mereline/ParquetFormat$Logical;" (.null) := D28 (Or.inr (tw44 hw)) (ty := (.object "io/mereline/ParquetFormat$Logical")) (by decide)
          refine Go.dup 91 at_90 rfl rfl ?_
          refine Go.ldcS 4 93 at_91 (tw4 hw) (by intro d hd; simp only [Bundle.stringAtoms, List.mem_cons, List.not_mem_nil, or_false] at hd; rcases hd with rfl | rfl | rfl | rfl | rfl | rfl | rfl <;> first | exact (tw5 hw) | exact (tw6 hw) | exact (tw0 hw) | exact (tw7 hw) | exact (tw8 hw) | exact (tw9 hw) | exact (tw10 hw)) (by decide) (by decide) (by decide) (by decide) rfl (fun a38 h39 E40 => ?_)
          have f41 : Ari Z h39 a15 .byte (List.replicate (Int32.toNatClampNeg v13) 0) := f31.ext E40
          have f42 : Exa Z h39 a23 "io/mereline/ParquetFormat$Column" := A27.ext E40
          have f43 : Fld Z h39 a23 "io/mereline/ParquetFormat$Column" "name" "Ljava/lang/String;" (.null) := f33.ext E40
          have f44 : Fld Z h39 a23 "io/mereline/ParquetFormat$Column" "type" "I" (.int (0 : Int32)) := f34.ext E40
          have f45 : Fld Z h39 a23 "io/mereline/ParquetFormat$Column" "typeLength" "I" (.int (0 : Int32)) := f35.ext E40
          have f46 : Fld Z h39 a23 "io/mereline/ParquetFormat$Column" "optional" "Z" (.int (0 : Int32)) := f36.ext E40
          have f47 : Fld Z h39 a23 "io/mereline/ParquetFormat$Column" "logical" "Lio/mereline/ParquetFormat$Logical;" (.null) := f37.ext E40
          have zs48 : Z.heap.size ≤ h39.size := Nat.le_trans zs32 E40.1
          refine Go.iload 95 at_93 rfl rfl ?_
          refine Go.iload 97 at_95 rfl rfl ?_
          refine Go.iload 99 at_97 rfl rfl ?_
          refine Go.new 102 at_99 (tw11 hw) (tw12 hw) (tw13 hw) (by decide) (by decide) rfl (fun a49 h50 q51 E52 A53 D54 => ?_)
          have ne55 : a15 ≠ a49 := fun e => absurd f41.lt (by rw [e, q51]; exact Nat.lt_irrefl _)
          have ne56 : a23 ≠ a49 := fun e => absurd f42.lt (by rw [e, q51]; exact Nat.lt_irrefl _)
          have ge57 : Z.heap.size ≤ a49 := (Eq.symm q51) ▸ zs48
          have f58 : Ari Z h50 a15 .byte (List.replicate (Int32.toNatClampNeg v13) 0) := f41.ext E52
          have f59 : Exa Z h50 a23 "io/mereline/ParquetFormat$Column" := f42.ext E52
          have f60 : Fld Z h50 a23 "io/mereline/ParquetFormat$Column" "name" "Ljava/lang/String;" (.null) := f43.ext E52
          have f61 : Fld Z h50 a23 "io/mereline/ParquetFormat$Column" "type" "I" (.int (0 : Int32)) := f44.ext E52
          have f62 : Fld Z h50 a23 "io/mereline/ParquetFormat$Column" "typeLength" "I" (.int (0 : Int32)) := f45.ext E52
          have f63 : Fld Z h50 a23 "io/mereline/ParquetFormat$Column" "optional" "Z" (.int (0 : Int32)) := f46.ext E52
          have f64 : Fld Z h50 a23 "io/mereline/ParquetFormat$Column" "logical" "Lio/mereline/ParquetFormat$Logical;" (.null) := f47.ext E52
          have zs65 : Z.heap.size ≤ h50.size := Nat.le_trans zs48 E52.1
          have lb66 : h39.size ≤ h50.size := Nat.le_trans (Nat.le_refl _) E52.1
          have f67 : Fld Z h50 a49 "io/mereline/ParquetFormat$Logical" "kind" "I" (.int (0 : Int32)) := D54 (Or.inr (tw26 hw)) (ty := .int) (by decide)
          have f68 : Fld Z h50 a49 "io/mereline/ParquetFormat$Logical" "precision" "I" (.int (0 : Int32)) := D54 (Or.inr (tw28 hw)) (ty := .int) (by decide)
          have f69 : Fld Z h50 a49 "io/mereline/ParquetFormat$Logical" "scale" "I" (.int (0 : Int32)) := D54 (Or.inr (tw30 hw)) (ty := .int) (by decide)
          refine Go.dup 103 at_102 rfl rfl ?_
          refine Go.iload 105 at_103 rfl rfl ?_
          refine Go.iconst 106 (0) at_105 (by decide) rfl ?_
          refine Go.iconst 107 (0) at_106 (by decide) rfl ?_
          refine Go.callC [.int i5, .int (0 : Int32), .int (0 : Int32)] [.ref a49, .int v11, .int v7, .int v3, .ref a38, .ref a23, .ref a23] 110 at_107 rfl (tw14 hw) (tw15 hw) (tw13 hw) (tw16 hw) pl1 (by decide) (lenOf pd1 rfl) rfl (fun m => ef_k_log m a49 i5 (0 : Int32) (0 : Int32)) _ (k_log hw h50 zs65 a49 i5 (0 : Int32) (0 : Int32) A53 f67 f68 f69 ge57) 7 rfl (Nat.le_of_eq rfl) (by decide) (by decide) (by decide) (by decide) rfl ?_
          rintro h71 ⟨K72, f73⟩
          have f74 : Ari Z h71 a15 .byte (List.replicate (Int32.toNatClampNeg v13) 0) := f58.keep K72 (ninS ne55 nin0)
          have f75 : Exa Z h71 a23 "io/mereline/ParquetFormat$Column" := f59.keep K72
          have f76 : Fld Z h71 a23 "io/mereline/ParquetFormat$Column" "name" "Ljava/lang/String;" (.null) := f60.keep K72 (ninS ne56 nin0)
          have f77 : Fld Z h71 a23 "io/mereline/ParquetFormat$Column" "type" "I" (.int (0 : Int32)) := f61.keep K72 (ninS ne56 nin0)
          have f78 : Fld Z h71 a23 "io/mereline/ParquetFormat$Column" "typeLength" "I" (.int (0 : Int32)) := f62.keep K72 (ninS ne56 nin0)
          have f79 : Fld Z h71 a23 "io/mereline/ParquetFormat$Column" "optional" "Z" (.int (0 : Int32)) := f63.keep K72 (ninS ne56 nin0)
          have f80 : Fld Z h71 a23 "io/mereline/ParquetFormat$Column" "logical" "Lio/mereline/ParquetFormat$Logical;" (.null) := f64.keep K72 (ninS ne56 nin0)
          have zs81 : Z.heap.size ≤ h71.size := Nat.le_trans zs65 K72.1
          have lb82 : h39.size ≤ h71.size := Nat.le_trans lb66 K72.1
          refine Go.callC [.ref a38, .int v3, .int v7, .int v11, .ref a49] [.ref a23] 113 at_110 rfl (tw31 hw) (tw32 hw) (tw3 hw) (tw33 hw) pl4 (by decide) (lenOf pd4 rfl) rfl (fun m => ef_k_col m a23 a38 v3 v7 v11 a49) _ (k_col hw h71 zs81 a23 a38 v3 v7 v11 a49 f75 f76 f77 f78 f79 f80 ge30) 1 rfl (Nat.le_of_eq rfl) (by decide) (by decide) (by decide) (by decide) rfl ?_
          rintro h84 ⟨K85, f86, f87, f88⟩
          have f89 : Ari Z h84 a15 .byte (List.replicate (Int32.toNatClampNeg v13) 0) := f74.keep K85 (ninS ne29 nin0)
          have f90 : Exa Z h84 a49 "io/mereline/ParquetFormat$Logical" := f73.keep K85
          have zs91 : Z.heap.size ≤ h84.size := Nat.le_trans zs81 K85.1
          have lb92 : h39.size ≤ h84.size := Nat.le_trans lb82 K85.1
          refine Go.astore 115 #[.val (.int i0), .val (.int i1), .val (.int i2), .val (.int i3), .val (.int i4), .val (.int i5), .val (.int v3), .val (.int v7), .val (.int v11), .val (.int v13), .val (.ref a15), .val (.ref a23)] at_113 rfl rfl rfl ?_
          refine Go.aload 117 at_115 rfl rfl rfl ?_
          refine Go.aload 119 at_117 rfl rfl rfl ?_
          refine Go.callVIp [.ref a15] [] 122 at_119 (tw45 hw) (tw46 hw) (tw48 hw) (tw47 hw) (tw3 hw) (tw49 hw) f86 pl5 (by decide) (lenOf pd5 rfl) rfl (fun m => ef_k_hold m a23 a15) _ (k_hold (n := v13) hw h84 zs91 a23 a15 f87 f88 f89 (by first | (rw [List.length_set, List.length_set, List.length_replicate]; exact hn.2.2.1) | (rw [List.length_replicate]; exact hn.2.2.1))) 0 rfl (Nat.le_of_eq rfl) (by decide) (by decide) (by decide) (by decide) rfl ?_
          refine Go.iload 124 at_122 rfl rfl ?_
          refine Go.iload 126 at_124 rfl rfl ?_
          refine Go.iload 128 at_126 rfl rfl ?_
          refine Go.callSIp [.int v3, .int v7, .int v13] [.int (own_holds v3 v7 v13)] 131 at_128 (tw50 hw) (tw51 hw) (tw52 hw) (tw53 hw) pl6 (by decide) (lenOf pd6 rfl) rfl (fun m => ef_k_exp m v3 v7 v13) _ (k_exp hw h84 zs91 v3 v7 v13) 1 rfl (Nat.le_of_eq rfl) (by decide) (by decide) (by decide) (by decide) rfl ?_
          refine Go.icmp_ne 138 134 at_131 (by decide) (by decide) rfl (fun c99 => ?_) (fun c99 => ?_)
          ·
            refine Go.iconst 139 (0) at_138 (by decide) rfl ?_
            refine Go.nreturn (t := .boolean) (z' := (0 : Int32)) at_139 rfl (by simp) (by decide) (by decide) (by decide) ?_
            exact absurd (own_same _ _ _) c99
          ·
            refine Go.iconst 135 (1) at_134 (by decide) rfl ?_
            refine Go.goto 139 at_135 (by decide) (by decide) ?_
            refine Go.nreturn (t := .boolean) (z' := (1 : Int32)) at_139 rfl (by simp) (by decide) (by decide) (by decide) ?_
            exact ⟨rfl, lb92⟩
        ·
          refine Go.aload 67 at_65 rfl rfl rfl ?_
          refine Go.iconst 68 (0) at_67 (by decide) rfl ?_
          refine Go.iload 70 at_68 rfl rfl ?_
          refine Go.iconst 71 (2) at_70 (by decide) rfl ?_
          refine Go.ishr 72 at_71 rfl ?_
          refine Go.i2b 73 at_72 rfl ?_
          refine Go.nameI (fun v100 e101 => ?_)
          refine Go.bastore (0) (((List.replicate (Int32.toNatClampNeg v13) 0).set 0 (nar .byte v100))) 74 at_73 A19 (by decide) (by decide) (by rw [List.length_replicate]; exact (own_last hn c22).2.2) rfl ge20 rfl (fun h102 W103 A104 => ?_)
          have zs105 : Z.heap.size ≤ h102.size := W103.size ▸ zs21
          refine Go.aload 76 at_74 rfl rfl rfl ?_
          refine Go.iload 78 at_76 rfl rfl ?_
          refine Go.iconst 79 (1) at_78 (by decide) rfl ?_
          refine Go.isub 80 at_79 rfl ?_
          refine Go.iload 82 at_80 rfl rfl ?_
          refine Go.bipush 84 (10) at_82 (by decide) rfl ?_
          refine Go.ishr 85 at_84 rfl ?_
          refine Go.i2b 86 at_85 rfl ?_
          refine Go.nameI (fun v106 e107 => ?_)
          refine Go.bastore ((Int32.toNatClampNeg (v13 - (1 : Int32)))) ((((List.replicate (Int32.toNatClampNeg v13) 0).set 0 (nar .byte v100)).set (Int32.toNatClampNeg (v13 - (1 : Int32))) (nar .byte v106))) 87 at_86 A104 (own_last hn c22).1 rfl (by rw [List.length_set, List.length_replicate]; exact (own_last hn c22).2.1) rfl ge20 rfl (fun h108 W109 A110 => ?_)
          have zs111 : Z.heap.size ≤ h108.size := W109.size ▸ zs105
          refine Go.new 90 at_87 (tw1 hw) (tw2 hw) (tw3 hw) (by decide) (by decide) rfl (fun a112 h113 q114 E115 A116 D117 => ?_)
          have ne118 : a15 ≠ a112 := fun e => absurd A110.lt (by rw [e, q114]; exact Nat.lt_irrefl _)
          have ge119 : Z.heap.size ≤ a112 := (Eq.symm q114) ▸ zs111
          have f120 : Ari Z h113 a15 .byte (((List.replicate (Int32.toNatClampNeg v13) 0).set 0 (nar .byte v100)).set (Int32.toNatClampNeg (v13 - (1 : Int32))) (nar .byte v106)) := A110.ext E115
          have zs121 : Z.heap.size ≤ h113.size := Nat.le_trans zs111 E115.1
          have f122 : Fld Z h113 a112 "io/mereline/ParquetFormat$Column" "name" "Ljava/lang/String;" (.null) := D117 (Or.inr (tw36 hw)) (ty := (.object "java/lang/String")) (by decide)
          have f123 : Fld Z h113 a112 "io/mereline/ParquetFormat$Column" "type" "I" (.int (0 : Int32)) := D117 (Or.inr (tw38 hw)) (ty := .int) (by decide)
          have f124 : Fld Z h113 a112 "io/mereline/ParquetFormat$Column" "typeLength" "I" (.int (0 : Int32)) := D117 (Or.inr (tw40 hw)) (ty := .int) (by decide)
          have f125 : Fld Z h113 a112 "io/mereline/ParquetFormat$Column" "optional" "Z" (.int (0 : Int32)) := D117 (Or.inr (tw42 hw)) (ty := .boolean) (by decide)
          have f126 : Fld Z h113 a112 "io/mereline/ParquetFormat$Column" "logical" "Lio/mereline/ParquetFormat$Logical;" (.null) := D117 (Or.inr (tw44 hw)) (ty := (.object "io/mereline/ParquetFormat$Logical")) (by decide)
          refine Go.dup 91 at_90 rfl rfl ?_
          refine Go.ldcS 4 93 at_91 (tw4 hw) (by intro d hd; simp only [Bundle.stringAtoms, List.mem_cons, List.not_mem_nil, or_false] at hd; rcases hd with rfl | rfl | rfl | rfl | rfl | rfl | rfl <;> first | exact (tw5 hw) | exact (tw6 hw) | exact (tw0 hw) | exact (tw7 hw) | exact (tw8 hw) | exact (tw9 hw) | exact (tw10 hw)) (by decide) (by decide) (by decide) (by decide) rfl (fun a127 h128 E129 => ?_)
          have f130 : Ari Z h128 a15 .byte (((List.replicate (Int32.toNatClampNeg v13) 0).set 0 (nar .byte v100)).set (Int32.toNatClampNeg (v13 - (1 : Int32))) (nar .byte v106)) := f120.ext E129
          have f131 : Exa Z h128 a112 "io/mereline/ParquetFormat$Column" := A116.ext E129
          have f132 : Fld Z h128 a112 "io/mereline/ParquetFormat$Column" "name" "Ljava/lang/String;" (.null) := f122.ext E129
          have f133 : Fld Z h128 a112 "io/mereline/ParquetFormat$Column" "type" "I" (.int (0 : Int32)) := f123.ext E129
          have f134 : Fld Z h128 a112 "io/mereline/ParquetFormat$Column" "typeLength" "I" (.int (0 : Int32)) := f124.ext E129
          have f135 : Fld Z h128 a112 "io/mereline/ParquetFormat$Column" "optional" "Z" (.int (0 : Int32)) := f125.ext E129
          have f136 : Fld Z h128 a112 "io/mereline/ParquetFormat$Column" "logical" "Lio/mereline/ParquetFormat$Logical;" (.null) := f126.ext E129
          have zs137 : Z.heap.size ≤ h128.size := Nat.le_trans zs121 E129.1
          refine Go.iload 95 at_93 rfl rfl ?_
          refine Go.iload 97 at_95 rfl rfl ?_
          refine Go.iload 99 at_97 rfl rfl ?_
          refine Go.new 102 at_99 (tw11 hw) (tw12 hw) (tw13 hw) (by decide) (by decide) rfl (fun a138 h139 q140 E141 A142 D143 => ?_)
          have ne144 : a15 ≠ a138 := fun e => absurd f130.lt (by rw [e, q140]; exact Nat.lt_irrefl _)
          have ne145 : a112 ≠ a138 := fun e => absurd f131.lt (by rw [e, q140]; exact Nat.lt_irrefl _)
          have ge146 : Z.heap.size ≤ a138 := (Eq.symm q140) ▸ zs137
          have f147 : Ari Z h139 a15 .byte (((List.replicate (Int32.toNatClampNeg v13) 0).set 0 (nar .byte v100)).set (Int32.toNatClampNeg (v13 - (1 : Int32))) (nar .byte v106)) := f130.ext E141
          have f148 : Exa Z h139 a112 "io/mereline/ParquetFormat$Column" := f131.ext E141
          have f149 : Fld Z h139 a112 "io/mereline/ParquetFormat$Column" "name" "Ljava/lang/String;" (.null) := f132.ext E141
          have f150 : Fld Z h139 a112 "io/mereline/ParquetFormat$Column" "type" "I" (.int (0 : Int32)) := f133.ext E141
          have f151 : Fld Z h139 a112 "io/mereline/ParquetFormat$Column" "typeLength" "I" (.int (0 : Int32)) := f134.ext E141
          have f152 : Fld Z h139 a112 "io/mereline/ParquetFormat$Column" "optional" "Z" (.int (0 : Int32)) := f135.ext E141
          have f153 : Fld Z h139 a112 "io/mereline/ParquetFormat$Column" "logical" "Lio/mereline/ParquetFormat$Logical;" (.null) := f136.ext E141
          have zs154 : Z.heap.size ≤ h139.size := Nat.le_trans zs137 E141.1
          have lb155 : h128.size ≤ h139.size := Nat.le_trans (Nat.le_refl _) E141.1
          have f156 : Fld Z h139 a138 "io/mereline/ParquetFormat$Logical" "kind" "I" (.int (0 : Int32)) := D143 (Or.inr (tw26 hw)) (ty := .int) (by decide)
          have f157 : Fld Z h139 a138 "io/mereline/ParquetFormat$Logical" "precision" "I" (.int (0 : Int32)) := D143 (Or.inr (tw28 hw)) (ty := .int) (by decide)
          have f158 : Fld Z h139 a138 "io/mereline/ParquetFormat$Logical" "scale" "I" (.int (0 : Int32)) := D143 (Or.inr (tw30 hw)) (ty := .int) (by decide)
          refine Go.dup 103 at_102 rfl rfl ?_
          refine Go.iload 105 at_103 rfl rfl ?_
          refine Go.iconst 106 (0) at_105 (by decide) rfl ?_
          refine Go.iconst 107 (0) at_106 (by decide) rfl ?_
          refine Go.callC [.int i5, .int (0 : Int32), .int (0 : Int32)] [.ref a138, .int v11, .int v7, .int v3, .ref a127, .ref a112, .ref a112] 110 at_107 rfl (tw14 hw) (tw15 hw) (tw13 hw) (tw16 hw) pl1 (by decide) (lenOf pd1 rfl) rfl (fun m => ef_k_log m a138 i5 (0 : Int32) (0 : Int32)) _ (k_log hw h139 zs154 a138 i5 (0 : Int32) (0 : Int32) A142 f156 f157 f158 ge146) 7 rfl (Nat.le_of_eq rfl) (by decide) (by decide) (by decide) (by decide) rfl ?_
          rintro h160 ⟨K161, f162⟩
          have f163 : Ari Z h160 a15 .byte (((List.replicate (Int32.toNatClampNeg v13) 0).set 0 (nar .byte v100)).set (Int32.toNatClampNeg (v13 - (1 : Int32))) (nar .byte v106)) := f147.keep K161 (ninS ne144 nin0)
          have f164 : Exa Z h160 a112 "io/mereline/ParquetFormat$Column" := f148.keep K161
          have f165 : Fld Z h160 a112 "io/mereline/ParquetFormat$Column" "name" "Ljava/lang/String;" (.null) := f149.keep K161 (ninS ne145 nin0)
          have f166 : Fld Z h160 a112 "io/mereline/ParquetFormat$Column" "type" "I" (.int (0 : Int32)) := f150.keep K161 (ninS ne145 nin0)
          have f167 : Fld Z h160 a112 "io/mereline/ParquetFormat$Column" "typeLength" "I" (.int (0 : Int32)) := f151.keep K161 (ninS ne145 nin0)
          have f168 : Fld Z h160 a112 "io/mereline/ParquetFormat$Column" "optional" "Z" (.int (0 : Int32)) := f152.keep K161 (ninS ne145 nin0)
          have f169 : Fld Z h160 a112 "io/mereline/ParquetFormat$Column" "logical" "Lio/mereline/ParquetFormat$Logical;" (.null) := f153.keep K161 (ninS ne145 nin0)
          have zs170 : Z.heap.size ≤ h160.size := Nat.le_trans zs154 K161.1
          have lb171 : h128.size ≤ h160.size := Nat.le_trans lb155 K161.1
          refine Go.callC [.ref a127, .int v3, .int v7, .int v11, .ref a138] [.ref a112] 113 at_110 rfl (tw31 hw) (tw32 hw) (tw3 hw) (tw33 hw) pl4 (by decide) (lenOf pd4 rfl) rfl (fun m => ef_k_col m a112 a127 v3 v7 v11 a138) _ (k_col hw h160 zs170 a112 a127 v3 v7 v11 a138 f164 f165 f166 f167 f168 f169 ge119) 1 rfl (Nat.le_of_eq rfl) (by decide) (by decide) (by decide) (by decide) rfl ?_
          rintro h173 ⟨K174, f175, f176, f177⟩
          have f178 : Ari Z h173 a15 .byte (((List.replicate (Int32.toNatClampNeg v13) 0).set 0 (nar .byte v100)).set (Int32.toNatClampNeg (v13 - (1 : Int32))) (nar .byte v106)) := f163.keep K174 (ninS ne118 nin0)
          have f179 : Exa Z h173 a138 "io/mereline/ParquetFormat$Logical" := f162.keep K174
          have zs180 : Z.heap.size ≤ h173.size := Nat.le_trans zs170 K174.1
          have lb181 : h128.size ≤ h173.size := Nat.le_trans lb171 K174.1
          refine Go.astore 115 #[.val (.int i0), .val (.int i1), .val (.int i2), .val (.int i3), .val (.int i4), .val (.int i5), .val (.int v3), .val (.int v7), .val (.int v11), .val (.int v13), .val (.ref a15), .val (.ref a112)] at_113 rfl rfl rfl ?_
          refine Go.aload 117 at_115 rfl rfl rfl ?_
          refine Go.aload 119 at_117 rfl rfl rfl ?_
          refine Go.callVIp [.ref a15] [] 122 at_119 (tw45 hw) (tw46 hw) (tw48 hw) (tw47 hw) (tw3 hw) (tw49 hw) f175 pl5 (by decide) (lenOf pd5 rfl) rfl (fun m => ef_k_hold m a112 a15) _ (k_hold (n := v13) hw h173 zs180 a112 a15 f176 f177 f178 (by first | (rw [List.length_set, List.length_set, List.length_replicate]; exact hn.2.2.1) | (rw [List.length_replicate]; exact hn.2.2.1))) 0 rfl (Nat.le_of_eq rfl) (by decide) (by decide) (by decide) (by decide) rfl ?_
          refine Go.iload 124 at_122 rfl rfl ?_
          refine Go.iload 126 at_124 rfl rfl ?_
          refine Go.iload 128 at_126 rfl rfl ?_
          refine Go.callSIp [.int v3, .int v7, .int v13] [.int (own_holds v3 v7 v13)] 131 at_128 (tw50 hw) (tw51 hw) (tw52 hw) (tw53 hw) pl6 (by decide) (lenOf pd6 rfl) rfl (fun m => ef_k_exp m v3 v7 v13) _ (k_exp hw h173 zs180 v3 v7 v13) 1 rfl (Nat.le_of_eq rfl) (by decide) (by decide) (by decide) (by decide) rfl ?_
          refine Go.icmp_ne 138 134 at_131 (by decide) (by decide) rfl (fun c188 => ?_) (fun c188 => ?_)
          ·
            refine Go.iconst 139 (0) at_138 (by decide) rfl ?_
            refine Go.nreturn (t := .boolean) (z' := (0 : Int32)) at_139 rfl (by simp) (by decide) (by decide) (by decide) ?_
            exact absurd (own_same _ _ _) c188
          ·
            refine Go.iconst 135 (1) at_134 (by decide) rfl ?_
            refine Go.goto 139 at_135 (by decide) (by decide) ?_
            refine Go.nreturn (t := .boolean) (z' := (1 : Int32)) at_139 rfl (by simp) (by decide) (by decide) (by decide) ?_
            exact ⟨rfl, lb181⟩
      refine Go.if_eq 45 41 at_38 (by decide) (by decide) rfl (fun c189 => ?_) (fun c189 => ?_)
      ·
        refine Go.iconst 46 (0) at_45 (by decide) rfl ?_
        exact (J10 _ (by first | rfl | (simp only [if_pos c189]; done) | simp [c189])).le (by decide) (by decide)
      ·
        refine Go.iconst 42 (1) at_41 (by decide) rfl ?_
        refine Go.goto 46 at_42 (by decide) (by decide) ?_
        exact (J10 _ (by first | rfl | (simp only [if_neg c189]; done) | simp [c189])).le (by decide) (by decide)
    refine Go.if_eq 28 24 at_21 (by decide) (by decide) rfl (fun c190 => ?_) (fun c190 => ?_)
    ·
      refine Go.iload_n 29 at_28 rfl rfl ?_
      refine Go.bipush 31 (15) at_29 (by decide) rfl ?_
      refine Go.iand 32 at_31 rfl ?_
      exact (J6 _ (by first | rfl | (simp only [if_pos c190]; done) | simp [c190])).le (by decide) (by decide)
    ·
      refine Go.iload_n 25 at_24 rfl rfl ?_
      refine Go.goto 32 at_25 (by decide) (by decide) ?_
      exact (J6 _ (by first | rfl | (simp only [if_neg c190]; done) | simp [c190])).le (by decide) (by decide)
  refine Go.if_eq 11 7 at_4 (by decide) (by decide) rfl (fun c191 => ?_) (fun c191 => ?_)
  ·
    refine Go.iload_n 12 at_11 rfl rfl ?_
    refine Go.bipush 14 (7) at_12 (by decide) rfl ?_
    refine Go.iand 15 at_14 rfl ?_
    exact (J2 _ (by first | rfl | (simp only [if_pos c191]; done) | simp [c191])).le (by decide) (by decide)
  ·
    refine Go.iload_n 8 at_7 rfl rfl ?_
    refine Go.goto 15 at_8 (by decide) (by decide) ?_
    exact (J2 _ (by first | rfl | (simp only [if_neg c191]; done) | simp [c191])).le (by decide) (by decide)
set_option maxRecDepth 65536 in
set_option maxHeartbeats 40000000 in
theorem comes_1 {Post : Tables → Env → Array Value → State → Outcome → State → Prop} (hpost : ∀ tb e args s v u, (limb_1_1.after args s (.returned v) u = true ∧ limb_1_2.after args s (.returned v) u = true ∧ True) → Jvm.D.FramedW s (.returned v) u (Jvm.fieldLocs frame_1_writes args s ++ Jvm.arrayLocs frame_1_arrays args s ++ Jvm.staticLocs frame_1_statics s) 16 1152 → Post tb e args s (.returned v) u) :
    ArmFor flags0 classFile x code maxLocals ret World_1 tables_1 room_1 Calls_1 rest_1 Pre_1 Post := by
  intro l hfl _ _ p e ha hc hk s m args below hf hA hF happ hP
  obtain ⟨hcalls, hrest, hpre⟩ := hP
  obtain ⟨-, -, -, hnamed, -, -, -, hat⟩ := (Spec.applies_iff hf).mp happ
  obtain ⟨hg, hn⟩ := and_e (Cond.before_iff.mp (show (Jvm.Cond.and given_1 narrow_1).before args s = true from hpre))
  obtain ⟨h1, g0⟩ := and_e hg
  obtain ⟨w0, w1, w2, w3, w4, w5, rfl⟩ : ∃ w0 w1 w2 w3 w4 w5 : Value, args = #[w0, w1, w2, w3, w4, w5] := by
    have hs : args.size = 6 := by simpa [Cond.value, given_1] using h1
    obtain ⟨L⟩ := args
    match L, hs with
    | [w0, w1, w2, w3, w4, w5], _ => exact ⟨w0, w1, w2, w3, w4, w5, rfl⟩
  have hw := fun d (hd : d ∈ tables_1) => atoms_spec (ws := Jvm.Cond.code x code maxLocals ret :: tables_1) hat d (List.mem_cons_of_mem _ hd)
  obtain ⟨b0, g1⟩ := and_e g0
  obtain ⟨i0, ei0⟩ := is_v b0
  obtain rfl : w0 = (.int i0) := Option.some.inj ei0
  obtain ⟨b1, g2⟩ := and_e g1
  obtain ⟨i1, ei1⟩ := is_v b1
  obtain rfl : w1 = (.int i1) := Option.some.inj ei1
  obtain ⟨b2, g3⟩ := and_e g2
  obtain ⟨i2, ei2⟩ := is_v b2
  obtain rfl : w2 = (.int i2) := Option.some.inj ei2
  obtain ⟨b3, g4⟩ := and_e g3
  obtain ⟨i3, ei3⟩ := is_v b3
  obtain rfl : w3 = (.int i3) := Option.some.inj ei3
  obtain ⟨b4, g5⟩ := and_e g4
  obtain ⟨i4, ei4⟩ := is_v b4
  obtain rfl : w4 = (.int i4) := Option.some.inj ei4
  have b5 := g5
  obtain ⟨i5, ei5⟩ := is_v b5
  obtain rfl : w5 = (.int i5) := Option.some.inj ei5
  have G := law0 (l := l) hw s.heap (Nat.le_refl _) i0 i1 i2 i3 i4 i5
  obtain ⟨n, o, h1, h2, h3, _, L, rfl, ⟨⟨z, rfl, rfl⟩, N⟩, hq⟩ := Go.metW (as' := #[.int i0, .int i1, .int i2, .int i3, .int i4, .int i5]) (plainFor_of_name pnx) (fun m => ef_law0 m i0 i1 i2 i3 i4 i5) G tables_1 p e ha hc hk s m _ below hf ((Spec.applies_iff_loose hf).mp happ).1 ⟨rfl, State.Warmed39.refl s, rfl⟩ trivial
  refine ⟨n, _, h1, h2, h3, hpost _ _ _ _ _ _ ⟨Cond.after_iff.mpr rfl, Cond.after_iff.mpr (eq_i res_at (Term.int_eval (1)) rfl), trivial⟩ ⟨hq.1, hq.2.1, hq.2.2.1, (hq.2.2.2.sift fun y hy => Or.inr (N y hy)).mono (by decide) (by decide)⟩⟩
theorem main_1_1 : Claimed_1_1 := comes_1 fun _ _ _ _ _ _ h hF => ⟨h.1, hF⟩
theorem main_1_2 : Claimed_1_2 := comes_1 fun _ _ _ _ _ _ h hF => ⟨h.2.1, hF⟩
end Jvm.Pilot.@@N@@
namespace Jvm.Pilot.@@N@@
open Jvm Jvm.ClassFile Sem Op Lib Jvm.Free Jvm.Stand Jvm.Pilot.@@N@@.Jvm.D
/-! MADE BY PROGRAM (witnessworld.py) out of the Statement's table words and the real class files: 16 classes; the members and pool entries that the words name. The judged class is class 1, her method 2. -/
namespace start1
open Jvm.ClassFile
def u (s : String) : CpInfo := .utf8 (stringToUtf16 s)
/-- a pool by its gaps: so many unusable entries, then the entry; so many at the end -/
def gap : Nat → List CpInfo → List CpInfo
  | 0, r => r
  | n + 1, r => .unusable :: gap n r
def poolList (es : List (Nat × CpInfo)) (last : Nat) : List CpInfo := es.foldr (fun e r => gap e.1 (e.2 :: r)) (gap last [])
def pool (es : List (Nat × CpInfo)) (last : Nat) : Array CpInfo := ⟨poolList es last⟩
def fileOf (pool : Array CpInfo) (this : Nat) (attrs : Array Attribute := #[]) (ms : Array MethodInfo := #[]) (fl : Nat := 33) (sup : Nat := 0) (ifs : Array Nat := #[]) (fds : Array FieldInfo := #[]) : ClassFile where
  minorVersion := 0
  majorVersion := 65
  constantPool := pool
  accessFlags := fl
  thisClass := this
  superClass := sup
  interfaces := ifs
  fields := fds
  methods := ms
  attributes := attrs
def plain (name : String) (sup : Option ClassId) : Class where
  name := name
  kind := .ordinary
  loader := none
  accessFlags := 33
  super := sup
  interfaces := #[]
  cf := none
  fields := #[]
  methods := #[]
  instanceTypes := #[]
  staticTypes := #[]
  resolved := #[]
  callSites := []
  init := .initialized
  statics := none
  mirror := none

def pool0 : Array CpInfo := pool [(5, u "<init>"), (0, u "()V"), (1, .class_ 10), (1, u "java/lang/Object")] 113

def k0c0 : Code := { maxStack := 0, maxLocals := 1, code := object_method_1_code, exceptionTable := #[], attributes := #[] }
def k0m0 : Method := { name := "<init>", desc := "()V", sig := { parameters := [], returnType := none }, accessFlags := 1, code := some k0c0 }
/-- java/lang/Object -/
def k0 : Class := { plain "java/lang/Object" none with
  accessFlags := 33
  interfaces := #[]
  cf := some (fileOf pool0 8 #[] #[{ accessFlags := 1, nameIndex := 5, descriptorIndex := 6, attributes := #[] }] 33 0 #[] #[])
  fields := #[]
  methods := #[k0m0]
  instanceTypes := #[]
  staticTypes := #[]
  resolved := Array.replicate 124 none
  statics := none }

def pool1 : Array CpInfo := pool [(2, .class_ 4), (1, u "java/lang/Object"), (0, u "<init>"), (0, u "()V"), (0, .class_ 8), (0, u "io/mereline/ParquetFormat$Column"), (0, .string 10), (0, u "c"), (0, .class_ 12), (0, u "io/mereline/ParquetFormat$Logical"), (0, .methodref 11 14), (0, .nameAndType 5 15), (0, u "(III)V"), (0, .methodref 7 17), (0, .nameAndType 5 18), (0, u "(Ljava/lang/String;IIZLio/mereline/ParquetFormat$Logical;)V"), (0, .methodref 7 20), (0, .nameAndType 21 22), (0, u "holdsValue"), (0, u "([B)Z"), (0, .methodref 24 25), (0, .class_ 26), (0, .nameAndType 27 28), (0, u "io/mereline/ColumnHoldsValuePinLaw"), (0, u "expected"), (0, u "(III)Z"), (3, u "law"), (0, u "(IIIIII)Z")] 9

def k1m0 : Method := { name := "<init>", desc := "()V", sig := { parameters := [], returnType := none }, accessFlags := 2, code := none }
def k1c1 : Code := { maxStack := 2, maxLocals := 3, code := method_2_code, exceptionTable := #[], attributes := #[] }
def k1m1 : Method := { name := "expected", desc := "(III)Z", sig := { parameters := [.int, .int, .int], returnType := some .boolean }, accessFlags := 10, code := some k1c1 }
def k1c2 : Code := { maxStack := 11, maxLocals := 12, code := code, exceptionTable := #[], attributes := #[] }
def k1m2 : Method := { name := "law", desc := "(IIIIII)Z", sig := { parameters := [.int, .int, .int, .int, .int, .int], returnType := some .boolean }, accessFlags := 9, code := some k1c2 }
/-- io/mereline/ColumnHoldsValuePinLaw -/
def k1 : Class := { plain "io/mereline/ColumnHoldsValuePinLaw" (some 0) with
  accessFlags := 49
  interfaces := #[]
  cf := some (fileOf pool1 24 #[] #[{ accessFlags := 2, nameIndex := 5, descriptorIndex := 6, attributes := #[] }, { accessFlags := 10, nameIndex := 27, descriptorIndex := 28, attributes := #[] }, { accessFlags := 9, nameIndex := 32, descriptorIndex := 33, attributes := #[] }] 49 2 #[] #[])
  fields := #[]
  methods := #[k1m0, k1m1, k1m2]
  instanceTypes := #[]
  staticTypes := #[]
  resolved := Array.replicate 43 none
  statics := none }

def pool2 : Array CpInfo := pool [(1, .methodref 2 3), (0, .class_ 4), (0, .nameAndType 5 6), (0, u "java/lang/Object"), (0, u "<init>"), (0, u "()V"), (0, .class_ 8), (0, u "java/lang/Record")] 13

def k2c0 : Code := { maxStack := 1, maxLocals := 1, code := jdk_30_method_1_code, exceptionTable := #[], attributes := #[] }
def k2m0 : Method := { name := "<init>", desc := "()V", sig := { parameters := [], returnType := none }, accessFlags := 4, code := some k2c0 }
/-- java/lang/Record -/
def k2 : Class := { plain "java/lang/Record" (some 0) with
  accessFlags := 1057
  interfaces := #[]
  cf := some (fileOf pool2 7 #[] #[{ accessFlags := 4, nameIndex := 5, descriptorIndex := 6, attributes := #[] }] 1057 2 #[] #[])
  fields := #[]
  methods := #[k2m0]
  instanceTypes := #[]
  staticTypes := #[]
  resolved := Array.replicate 22 none
  statics := none }

def pool3 : Array CpInfo := pool [(1, .class_ 2), (0, u "io/mereline/ParquetFormat"), (0, .methodref 4 5), (0, .class_ 6), (0, .nameAndType 7 8), (0, u "java/lang/Record"), (0, u "<init>"), (0, u "()V"), (0, .fieldref 10 11), (0, .class_ 12), (0, .nameAndType 13 14), (0, u "io/mereline/ParquetFormat$Column"), (0, u "name"), (0, u "Ljava/lang/String;"), (0, .fieldref 10 16), (0, .nameAndType 17 18), (0, u "type"), (0, u "I"), (0, .fieldref 10 20), (0, .nameAndType 21 18), (0, u "typeLength"), (0, .fieldref 10 23), (0, .nameAndType 24 25), (0, u "optional"), (0, u "Z"), (0, .fieldref 10 27), (0, .nameAndType 28 29), (0, u "logical"), (0, u "Lio/mereline/ParquetFormat$Logical;"), (60, u "(Ljava/lang/String;IIZLio/mereline/ParquetFormat$Logical;)V"), (3, u "holdsValue"), (0, u "([B)Z")] 32

def k3c0 : Code := { maxStack := 2, maxLocals := 6, code := prog_106_method_1_code, exceptionTable := #[], attributes := #[] }
def k3m0 : Method := { name := "<init>", desc := "(Ljava/lang/String;IIZLio/mereline/ParquetFormat$Logical;)V", sig := { parameters := [(.object "java/lang/String"), .int, .int, .boolean, (.object "io/mereline/ParquetFormat$Logical")], returnType := none }, accessFlags := 0, code := some k3c0 }
def k3c1 : Code := { maxStack := 2, maxLocals := 3, code := prog_106_method_2_code, exceptionTable := #[], attributes := #[] }
def k3m1 : Method := { name := "holdsValue", desc := "([B)Z", sig := { parameters := [(.array .byte)], returnType := some .boolean }, accessFlags := 0, code := some k3c1 }
/-- io/mereline/ParquetFormat$Column -/
def k3 : Class := { plain "io/mereline/ParquetFormat$Column" (some 2) with
  accessFlags := 48
  interfaces := #[]
  cf := some (fileOf pool3 10 #[.nestHost 1] #[{ accessFlags := 0, nameIndex := 7, descriptorIndex := 90, attributes := #[] }, { accessFlags := 0, nameIndex := 94, descriptorIndex := 95, attributes := #[] }] 48 4 #[] #[{ accessFlags := 18, nameIndex := 13, descriptorIndex := 14, attributes := #[] }, { accessFlags := 18, nameIndex := 17, descriptorIndex := 18, attributes := #[] }, { accessFlags := 18, nameIndex := 21, descriptorIndex := 18, attributes := #[] }, { accessFlags := 18, nameIndex := 24, descriptorIndex := 25, attributes := #[] }, { accessFlags := 18, nameIndex := 28, descriptorIndex := 29, attributes := #[] }])
  fields := #[{ name := "name", type := (.object "java/lang/String"), accessFlags := 18, slot := 0, constantValue := 0 }, { name := "type", type := .int, accessFlags := 18, slot := 1, constantValue := 0 }, { name := "typeLength", type := .int, accessFlags := 18, slot := 2, constantValue := 0 }, { name := "optional", type := .boolean, accessFlags := 18, slot := 3, constantValue := 0 }, { name := "logical", type := (.object "io/mereline/ParquetFormat$Logical"), accessFlags := 18, slot := 4, constantValue := 0 }]
  methods := #[k3m0, k3m1]
  instanceTypes := #[(.object "java/lang/String"), .int, .int, .boolean, (.object "io/mereline/ParquetFormat$Logical")]
  staticTypes := #[]
  resolved := Array.replicate 128 none
  statics := none }

def pool4 : Array CpInfo := pool [(1, .class_ 2), (0, u "java/io/Serializable"), (0, .class_ 4), (0, u "java/lang/Object")] 2

/-- java/io/Serializable -/
def k4 : Class := { plain "java/io/Serializable" (some 0) with
  accessFlags := 1537
  interfaces := #[]
  cf := some (fileOf pool4 1 #[] #[] 1537 3 #[] #[])
  fields := #[]
  methods := #[]
  instanceTypes := #[]
  staticTypes := #[]
  resolved := Array.replicate 7 none
  statics := none }

def pool5 : Array CpInfo := pool [(1, .class_ 2), (0, u "java/lang/Comparable"), (0, .class_ 4), (0, u "java/lang/Object")] 7

/-- java/lang/Comparable -/
def k5 : Class := { plain "java/lang/Comparable" (some 0) with
  accessFlags := 1537
  interfaces := #[]
  cf := some (fileOf pool5 1 #[] #[] 1537 3 #[] #[])
  fields := #[]
  methods := #[]
  instanceTypes := #[]
  staticTypes := #[]
  resolved := Array.replicate 12 none
  statics := none }

def pool6 : Array CpInfo := pool [(2, .class_ 4), (1, u "java/lang/CharSequence"), (42, .class_ 48), (0, u "java/lang/CharSequence$1CodePointIterator"), (10, .class_ 60), (0, u "java/lang/CharSequence$1CharIterator"), (5, .class_ 67), (0, u "java/lang/Object")] 63

/-- java/lang/CharSequence -/
def k6 : Class := { plain "java/lang/CharSequence" (some 0) with
  accessFlags := 1537
  interfaces := #[]
  cf := some (fileOf pool6 2 #[.nestMembers #[47, 59]] #[] 1537 66 #[] #[])
  fields := #[]
  methods := #[]
  instanceTypes := #[]
  staticTypes := #[]
  resolved := Array.replicate 131 none
  statics := none }

def pool7 : Array CpInfo := pool [(1, .class_ 2), (0, u "java/lang/constant/Constable"), (0, .class_ 4), (0, u "java/lang/Object")] 6

/-- java/lang/constant/Constable -/
def k7 : Class := { plain "java/lang/constant/Constable" (some 0) with
  accessFlags := 1537
  interfaces := #[]
  cf := some (fileOf pool7 1 #[] #[] 1537 3 #[] #[])
  fields := #[]
  methods := #[]
  instanceTypes := #[]
  staticTypes := #[]
  resolved := Array.replicate 11 none
  statics := none }

def pool8 : Array CpInfo := pool [(1, .class_ 2), (0, u "java/lang/constant/ConstantDesc"), (0, .class_ 4), (0, u "java/lang/Object")] 32

/-- java/lang/constant/ConstantDesc -/
def k8 : Class := { plain "java/lang/constant/ConstantDesc" (some 0) with
  accessFlags := 1537
  interfaces := #[]
  cf := some (fileOf pool8 1 #[] #[] 1537 3 #[] #[])
  fields := #[]
  methods := #[]
  instanceTypes := #[]
  staticTypes := #[]
  resolved := Array.replicate 37 none
  statics := none }

def pool9 : Array CpInfo := pool [(2, .class_ 4), (1, u "java/lang/Object"), (0, u "<init>"), (0, u "()V"), (3, .class_ 12), (1, u "java/lang/String"), (0, u "value"), (0, u "[B"), (2, u "coder"), (0, u "B"), (2, u "hash"), (0, u "I"), (2, u "hashIsZero"), (0, u "Z"), (13, u "COMPACT_STRINGS"), (534, .class_ 576), (0, u "java/lang/CharSequence"), (22, u "CASE_INSENSITIVE_ORDER"), (0, u "Ljava/util/Comparator;"), (500, u "serialPersistentFields"), (0, u "[Ljava/io/ObjectStreamField;"), (0, .class_ 1104), (0, u "java/lang/String$CaseInsensitiveComparator"), (1, .class_ 1107), (0, u "java/io/Serializable"), (0, .class_ 1109), (0, u "java/lang/Comparable"), (0, .class_ 1111), (0, u "java/lang/constant/Constable"), (0, .class_ 1113), (0, u "java/lang/constant/ConstantDesc"), (2, u "serialVersionUID"), (0, u "J"), (3, u "REPL"), (0, u "C"), (2, u "LATIN1"), (1, u "UTF16")] 323

def k9m0 : Method := { name := "<init>", desc := "()V", sig := { parameters := [], returnType := none }, accessFlags := 1, code := none }
/-- java/lang/String -/
def k9 : Class := { plain "java/lang/String" (some 0) with
  accessFlags := 49
  interfaces := #[4, 5, 6, 7, 8]
  cf := some (fileOf pool9 10 #[.nestMembers #[1103]] #[{ accessFlags := 1, nameIndex := 5, descriptorIndex := 6, attributes := #[] }] 49 2 #[1106, 1108, 575, 1110, 1112] #[{ accessFlags := 18, nameIndex := 13, descriptorIndex := 14, attributes := #[] }, { accessFlags := 18, nameIndex := 17, descriptorIndex := 18, attributes := #[] }, { accessFlags := 2, nameIndex := 21, descriptorIndex := 22, attributes := #[] }, { accessFlags := 2, nameIndex := 25, descriptorIndex := 26, attributes := #[] }, { accessFlags := 26, nameIndex := 1116, descriptorIndex := 1117, attributes := #[] }, { accessFlags := 24, nameIndex := 40, descriptorIndex := 26, attributes := #[] }, { accessFlags := 26, nameIndex := 1101, descriptorIndex := 1102, attributes := #[] }, { accessFlags := 26, nameIndex := 1121, descriptorIndex := 1122, attributes := #[] }, { accessFlags := 25, nameIndex := 599, descriptorIndex := 600, attributes := #[] }, { accessFlags := 24, nameIndex := 1125, descriptorIndex := 18, attributes := #[] }, { accessFlags := 24, nameIndex := 1127, descriptorIndex := 18, attributes := #[] }])
  fields := #[{ name := "value", type := (.array .byte), accessFlags := 18, slot := 0, constantValue := 0 }, { name := "coder", type := .byte, accessFlags := 18, slot := 1, constantValue := 0 }, { name := "hash", type := .int, accessFlags := 2, slot := 2, constantValue := 0 }, { name := "hashIsZero", type := .boolean, accessFlags := 2, slot := 3, constantValue := 0 }, { name := "serialVersionUID", type := .long, accessFlags := 26, slot := 0, constantValue := 0 }, { name := "COMPACT_STRINGS", type := .boolean, accessFlags := 24, slot := 1, constantValue := 0 }, { name := "serialPersistentFields", type := (.array (.object "java/io/ObjectStreamField")), accessFlags := 26, slot := 2, constantValue := 0 }, { name := "REPL", type := .char, accessFlags := 26, slot := 3, constantValue := 0 }, { name := "CASE_INSENSITIVE_ORDER", type := (.object "java/util/Comparator"), accessFlags := 25, slot := 4, constantValue := 0 }, { name := "LATIN1", type := .byte, accessFlags := 24, slot := 5, constantValue := 0 }, { name := "UTF16", type := .byte, accessFlags := 24, slot := 6, constantValue := 0 }]
  methods := #[k9m0]
  instanceTypes := #[(.array .byte), .byte, .int, .boolean]
  staticTypes := #[.long, .boolean, (.array (.object "java/io/ObjectStreamField")), .char, (.object "java/util/Comparator"), .byte, .byte]
  resolved := Array.replicate 1451 none
  statics := none }

def pool10 : Array CpInfo := pool [(1, .class_ 2), (0, u "io/mereline/ParquetFormat"), (0, .methodref 4 5), (0, .class_ 6), (0, .nameAndType 7 8), (0, u "java/lang/Record"), (0, u "<init>"), (0, u "()V"), (0, .fieldref 10 11), (0, .class_ 12), (0, .nameAndType 13 14), (0, u "io/mereline/ParquetFormat$Logical"), (0, u "kind"), (0, u "I"), (0, .fieldref 10 16), (0, .nameAndType 17 14), (0, u "precision"), (0, .fieldref 10 19), (0, .nameAndType 20 14), (0, u "scale"), (2, u "(III)V"), (8, u "NONE"), (0, u "Lio/mereline/ParquetFormat$Logical;"), (13, u "STRING"), (6, u "DATE"), (2, u "TIMESTAMP"), (2, u "OTHER")] 84

def k10c0 : Code := { maxStack := 2, maxLocals := 4, code := prog_109_method_1_code, exceptionTable := #[], attributes := #[] }
def k10m0 : Method := { name := "<init>", desc := "(III)V", sig := { parameters := [.int, .int, .int], returnType := none }, accessFlags := 0, code := some k10c0 }
/-- io/mereline/ParquetFormat$Logical -/
def k10 : Class := { plain "io/mereline/ParquetFormat$Logical" (some 2) with
  accessFlags := 48
  interfaces := #[]
  cf := some (fileOf pool10 10 #[.nestHost 1] #[{ accessFlags := 0, nameIndex := 7, descriptorIndex := 23, attributes := #[] }] 48 4 #[] #[{ accessFlags := 18, nameIndex := 13, descriptorIndex := 14, attributes := #[] }, { accessFlags := 18, nameIndex := 17, descriptorIndex := 14, attributes := #[] }, { accessFlags := 18, nameIndex := 20, descriptorIndex := 14, attributes := #[] }, { accessFlags := 24, nameIndex := 32, descriptorIndex := 33, attributes := #[] }, { accessFlags := 24, nameIndex := 47, descriptorIndex := 33, attributes := #[] }, { accessFlags := 24, nameIndex := 54, descriptorIndex := 33, attributes := #[] }, { accessFlags := 24, nameIndex := 57, descriptorIndex := 33, attributes := #[] }, { accessFlags := 26, nameIndex := 60, descriptorIndex := 33, attributes := #[] }])
  fields := #[{ name := "kind", type := .int, accessFlags := 18, slot := 0, constantValue := 0 }, { name := "precision", type := .int, accessFlags := 18, slot := 1, constantValue := 0 }, { name := "scale", type := .int, accessFlags := 18, slot := 2, constantValue := 0 }, { name := "NONE", type := (.object "io/mereline/ParquetFormat$Logical"), accessFlags := 24, slot := 0, constantValue := 0 }, { name := "STRING", type := (.object "io/mereline/ParquetFormat$Logical"), accessFlags := 24, slot := 1, constantValue := 0 }, { name := "DATE", type := (.object "io/mereline/ParquetFormat$Logical"), accessFlags := 24, slot := 2, constantValue := 0 }, { name := "TIMESTAMP", type := (.object "io/mereline/ParquetFormat$Logical"), accessFlags := 24, slot := 3, constantValue := 0 }, { name := "OTHER", type := (.object "io/mereline/ParquetFormat$Logical"), accessFlags := 26, slot := 4, constantValue := 0 }]
  methods := #[k10m0]
  instanceTypes := #[.int, .int, .int]
  staticTypes := #[(.object "io/mereline/ParquetFormat$Logical"), (.object "io/mereline/ParquetFormat$Logical"), (.object "io/mereline/ParquetFormat$Logical"), (.object "io/mereline/ParquetFormat$Logical"), (.object "io/mereline/ParquetFormat$Logical")]
  resolved := Array.replicate 145 none
  statics := none }

def pool11 : Array CpInfo := pool [(1, u "java/lang/Cloneable"), (0, .class_ 1), (0, u "java/lang/Object"), (0, .class_ 3)] 3

/-- java/lang/Cloneable -/
def k11 : Class := { plain "java/lang/Cloneable" (some 0) with
  accessFlags := 1537
  interfaces := #[]
  cf := some (fileOf pool11 2 #[] #[] 1537 4 #[] #[])
  fields := #[]
  methods := #[]
  instanceTypes := #[]
  staticTypes := #[]
  resolved := Array.replicate 8 none
  statics := none }

/-- the primitive byte -/
def k12 : Class := { plain "byte" none with kind := .primitive 'B', accessFlags := 0x411 }
/-- [B -/
def k13 : Class := { plain "[B" (some 0) with kind := .array 12 .byte, interfaces := #[11, 4], accessFlags := 1041 }

/-- the primitive int -/
def k14 : Class := { plain "int" none with kind := .primitive 'I', accessFlags := 0x411 }
/-- [I -/
def k15 : Class := { plain "[I" (some 0) with kind := .array 14 .int, interfaces := #[11, 4], accessFlags := 1041 }

def heap : Heap := #[]
def classes : Array Class := #[k0, k1, k2, k3, k4, k5, k6, k7, k8, k9, k10, k11, k12, k13, k14, k15]
def interned : List (Array UInt16 × Addr) := []
def slotsUsed : Nat := 0
def theMethod : MethodId := ⟨1, 2⟩
def args0 : Array Value := #[.int 5, .int 6, .int 7, .int 3, .int 3, .int 3]
def aboutOver (below : List Frame) : State where
  vm := { classes := classes, interned := interned.toArray }
  heap := heap
  slotsUsed := slotsUsed
  threads := #[{ frames := .invoking theMethod args0 :: below }]
def below0 : List Frame := [.native { method := ⟨0, 0⟩, args := #[] }]
def about1 : State := aboutOver below0
def p0 : Program := .bare "" "" ""
def e0 : Env := launch0.env 0 0 0
theorem w_frames : about1.frames = Frame.invoking theMethod args0 :: below0 := rfl
set_option maxRecDepth 65536 in
theorem w_args : argsFit about1.vm theMethod args0 = true := by decide +kernel
set_option maxRecDepth 65536 in
theorem w_heap : heapFits about1 = true := by decide +kernel
set_option maxRecDepth 65536 in
theorem w_runnable : about1.curStatus? = some .runnable := by decide +kernel
set_option maxRecDepth 65536 in
theorem w_alone : about1.alone = true := by decide +kernel
set_option maxRecDepth 65536 in
theorem w_named : about1.methodNamed? x = some theMethod := by decide +kernel
set_option maxRecDepth 65536 in
theorem w_hears : about1.hears theMethod below0 = true := by decide +kernel
set_option maxRecDepth 65536 in
theorem w_ripe : about1.ripe theMethod args0 below0 = true := by decide +kernel
theorem w_running : about1.status = .running := rfl
set_option maxRecDepth 65536 in
theorem w_room : about1.hasRoom e0.platform room_1 = true :=
  launch0.hasRoom_least _ room_1 (by decide +kernel) (by decide +kernel) (by decide +kernel) (by decide +kernel) (by decide +kernel) (by decide +kernel)
theorem allAtoms_all (ts : List Jvm.Cond) (a : Array Jvm.Value) (st : Jvm.State) : (allAtoms ts).before a st = ts.all (fun c => c.before a st) := by
  induction ts with
  | nil => rfl
  | cons c t ih =>
    show (Jvm.Cond.and c (allAtoms t)).before a st = _
    rw [Jvm.Cond.before_and, ih, List.all_cons]
def words1 : List Jvm.Cond := Jvm.Cond.code x code maxLocals ret :: tables_1
/-- a 'code' word, met by the world's own term for the bytes: nothing is compared byte by byte -/
theorem code_word {y : MethodName} {bytes : ByteArray} {mx : Nat} {rt : Option FieldType} {a : Array Value} {s : State} {m : MethodId} {meth : Method} {c : Code} (h1 : s.methodNamed? y = some m) (h2 : s.vm.method? m = some meth) (h3 : meth.code = some c) (h4 : c.code = bytes)
    (h5 : (c.maxLocals == mx && c.exceptionTable.isEmpty && decide (c.maxStack ≤ mostOperands) && decide (meth.sig.returnType = rt) && !meth.locks && decide (parseMethodDescriptor y.desc = some meth.sig)) = true) : (Jvm.Cond.code y bytes mx rt).before a s = true := by
  simp only [Bool.and_eq_true, beq_iff_eq, Bool.not_eq_true', decide_eq_true_eq] at h5
  obtain ⟨⟨⟨⟨⟨g1, g2⟩, g3⟩, g4⟩, g5⟩, g6⟩ := h5
  simp [Cond.before, Cond.holds, Cond.value, h1, h2, h3, h4, g1, g2, g3, g4, g5, g6]
def isCode : Jvm.Cond → Bool
  | .code _ _ _ _ => true
  | _ => false
theorem all_split {L : List Jvm.Cond} {P : Jvm.Cond → Bool} (h1 : L.all (fun c => isCode c || P c) = true) (h2 : ∀ c ∈ L.filter isCode, P c = true) : L.all P = true := by
  refine List.all_eq_true.mpr fun c hc => ?_
  have h := List.all_eq_true.mp h1 c hc
  rcases Bool.eq_false_or_eq_true (isCode c) with hi | hi
  · exact h2 c (List.mem_filter.mpr ⟨hc, hi⟩)
  · simpa [hi] using h
set_option maxRecDepth 65536 in
theorem w_c0 : (Jvm.Cond.code x code maxLocals ret).before args0 about1 = true := code_word (m := ⟨1, 2⟩) (meth := k1m2) (c := k1c2) (by decide +kernel) rfl rfl rfl (by decide +kernel)
set_option maxRecDepth 65536 in
theorem w_c1 : (Jvm.Cond.code ({ cls := "io/mereline/ParquetFormat$Logical", name := "<init>", desc := "(III)V" } : Jvm.MethodName) prog_109_method_1_code (4 : Nat) (Option.none : Option Jvm.ClassFile.FieldType)).before args0 about1 = true := code_word (m := ⟨10, 0⟩) (meth := k10m0) (c := k10c0) (by decide +kernel) rfl rfl rfl (by decide +kernel)
set_option maxRecDepth 65536 in
theorem w_c2 : (Jvm.Cond.code ({ cls := "java/lang/Record", name := "<init>", desc := "()V" } : Jvm.MethodName) jdk_30_method_1_code (1 : Nat) (Option.none : Option Jvm.ClassFile.FieldType)).before args0 about1 = true := code_word (m := ⟨2, 0⟩) (meth := k2m0) (c := k2c0) (by decide +kernel) rfl rfl rfl (by decide +kernel)
set_option maxRecDepth 65536 in
theorem w_c3 : (Jvm.Cond.code ({ cls := "java/lang/Object", name := "<init>", desc := "()V" } : Jvm.MethodName) object_method_1_code (1 : Nat) (Option.none : Option Jvm.ClassFile.FieldType)).before args0 about1 = true := code_word (m := ⟨0, 0⟩) (meth := k0m0) (c := k0c0) (by decide +kernel) rfl rfl rfl (by decide +kernel)
set_option maxRecDepth 65536 in
theorem w_c4 : (Jvm.Cond.code ({ cls := "io/mereline/ParquetFormat$Column", name := "<init>", desc := "(Ljava/lang/String;IIZLio/mereline/ParquetFormat$Logical;)V" } : Jvm.MethodName) prog_106_method_1_code (6 : Nat) (Option.none : Option Jvm.ClassFile.FieldType)).before args0 about1 = true := code_word (m := ⟨3, 0⟩) (meth := k3m0) (c := k3c0) (by decide +kernel) rfl rfl rfl (by decide +kernel)
set_option maxRecDepth 65536 in
theorem w_c5 : (Jvm.Cond.code ({ cls := "io/mereline/ParquetFormat$Column", name := "holdsValue", desc := "([B)Z" } : Jvm.MethodName) prog_106_method_2_code (3 : Nat) (Option.some Jvm.ClassFile.FieldType.boolean)).before args0 about1 = true := code_word (m := ⟨3, 1⟩) (meth := k3m1) (c := k3c1) (by decide +kernel) rfl rfl rfl (by decide +kernel)
set_option maxRecDepth 65536 in
theorem w_c6 : (Jvm.Cond.code ({ cls := "io/mereline/ColumnHoldsValuePinLaw", name := "expected", desc := "(III)Z" } : Jvm.MethodName) method_2_code (3 : Nat) (Option.some Jvm.ClassFile.FieldType.boolean)).before args0 about1 = true := code_word (m := ⟨1, 1⟩) (meth := k1m1) (c := k1c1) (by decide +kernel) rfl rfl rfl (by decide +kernel)
def codes1 : List Jvm.Cond := [Jvm.Cond.code x code maxLocals ret, Jvm.Cond.code ({ cls := "io/mereline/ParquetFormat$Logical", name := "<init>", desc := "(III)V" } : Jvm.MethodName) prog_109_method_1_code (4 : Nat) (Option.none : Option Jvm.ClassFile.FieldType), Jvm.Cond.code ({ cls := "java/lang/Record", name := "<init>", desc := "()V" } : Jvm.MethodName) jdk_30_method_1_code (1 : Nat) (Option.none : Option Jvm.ClassFile.FieldType), Jvm.Cond.code ({ cls := "java/lang/Object", name := "<init>", desc := "()V" } : Jvm.MethodName) object_method_1_code (1 : Nat) (Option.none : Option Jvm.ClassFile.FieldType), Jvm.Cond.code ({ cls := "io/mereline/ParquetFormat$Column", name := "<init>", desc := "(Ljava/lang/String;IIZLio/mereline/ParquetFormat$Logical;)V" } : Jvm.MethodName) prog_106_method_1_code (6 : Nat) (Option.none : Option Jvm.ClassFile.FieldType), Jvm.Cond.code ({ cls := "io/mereline/ParquetFormat$Column", name := "holdsValue", desc := "([B)Z" } : Jvm.MethodName) prog_106_method_2_code (3 : Nat) (Option.some Jvm.ClassFile.FieldType.boolean), Jvm.Cond.code ({ cls := "io/mereline/ColumnHoldsValuePinLaw", name := "expected", desc := "(III)Z" } : Jvm.MethodName) method_2_code (3 : Nat) (Option.some Jvm.ClassFile.FieldType.boolean)]
set_option maxRecDepth 65536 in
theorem codes_eq : words1.filter isCode = codes1 := rfl
theorem w_codes : ∀ c ∈ words1.filter isCode, c.before args0 about1 = true := by
  rw [codes_eq]
  intro c hc
  simp only [codes1, List.mem_cons, List.not_mem_nil, or_false] at hc
  rcases hc with rfl | rfl | rfl | rfl | rfl | rfl | rfl
  · exact w_c0
  · exact w_c1
  · exact w_c2
  · exact w_c3
  · exact w_c4
  · exact w_c5
  · exact w_c6
set_option maxRecDepth 65536 in
theorem w_t1 : (words1.take 24).all (fun c => isCode c || c.before args0 about1) = true := by decide +kernel
set_option maxRecDepth 65536 in
theorem w_t2 : ((words1.drop 24).take 24).all (fun c => isCode c || c.before args0 about1) = true := by decide +kernel
set_option maxRecDepth 65536 in
theorem w_t3 : ((words1.drop 24).drop 24).all (fun c => isCode c || c.before args0 about1) = true := by decide +kernel
theorem w_tables : (allAtoms (Jvm.Cond.code x code maxLocals ret :: tables_1)).before args0 about1 = true := by
  rw [allAtoms_all]
  show words1.all (fun c => c.before args0 about1) = true
  refine all_split ?_ w_codes
  rw [← List.take_append_drop 24 words1, List.all_append, w_t1, ← List.take_append_drop 24 (words1.drop 24), List.all_append, w_t2, w_t3]
  rfl
set_option maxRecDepth 65536 in
theorem w_case : (Jvm.Cond.and given_1 narrow_1).before args0 about1 = true := by decide +kernel
theorem w_applies : (headSpec (Jvm.Cond.code x code maxLocals ret :: tables_1) room_1).applies x e0.platform about1 = true :=
  (Spec.applies_iff w_frames).mpr ⟨w_running, w_runnable, w_alone, w_named, w_hears, w_ripe, w_room, w_tables⟩
theorem atStart : AtStart classFile x code maxLocals ret World_1 tables_1 room_1 Calls_1 rest_1 Pre_1 launch0 p0 e0 about1 theMethod args0 below0 :=
  ⟨lists_1, trivial, launch0.admits_env _ _ _, launch0.least_env, fairChoices_fair.cas, fairChoices_fair.clock, w_frames, w_args, w_heap, w_applies, trivial, trivial, w_case⟩
end start1
theorem witness_1 : WitnessClaimed_1 := ⟨start1.p0, start1.e0, start1.about1, start1.theMethod, start1.args0, start1.below0, start1.atStart⟩
end Jvm.Pilot.@@N@@
