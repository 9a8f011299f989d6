import JvmDerived
import JvmDerived.Pilot.@@N@@Statement
import JvmDerived.Pilot.@@N@@Code
set_option linter.unusedVariables false
set_option linter.unusedSimpArgs false

namespace Jvm.OwnGo
open Sem ClassFile Op Lib Jvm.Stand Jvm.Free Jvm.LawKit Jvm.RoadKit
/-- what is known of a body while it is walked -/
def Cx (Z : State) (y : MethodName) (code : ByteArray) (ml : Nat) (ret : Option FieldType) (p : Program) (s : State) (m : MethodId) (meth : Method) (c : Code) : Prop :=
  p.tables.exec = Jvm.exec ∧ c.code = code ∧ Z.Warmed39 s.vm ∧ s.vm.findClass y.cls = some m.cls ∧ c.maxLocals = ml ∧ meth.sig.returnType = ret ∧ meth.locks = false ∧ meth.name = y.name
/-- the start that the last Stand is over: the start itself, or (w) the start with tables that have interned -/
def OkW (w : Bool) (s s' T' : State) : Prop := s' = s ∨ (w = true ∧ ∃ (vm : Vm) (k1 : Nat), s' = s.setVm vm ∧ s.Since vm k1 ∧ k1 ≤ T'.heap.size)
/-- from the frame (pc, Ls, st) over the heap h, with at most k cells and n slots made so far, the body of y returns with Q -/
def GoB (w : Bool) (l : Launch) (Z : State) (y : MethodName) (code : ByteArray) (ml : Nat) (ret : Option FieldType) (R : Room) (Q : Option Value → Heap → Prop) (k n : Nat) (h : Heap) (pc : Nat) (Ls : Array Slot) (st : List Value) : Prop :=
  ∀ (p : Program) (e : Env) (s : State) (m : MethodId) (args : Array Value) (below : List Frame) (meth : Method) (c : Code), Cx Z y code ml ret p s m meth c →
  ∀ (T : State) (L : List Loc) (k' n' : Nat), Stand p l e R s m args below meth c T L k' n' → k' ≤ k → n' ≤ n → Fr Z.heap.size L → T.heap = h →
  ∃ (s' : State) (v : Option Value) (T' : State) (L' : List Loc) (k'' n'' : Nat), OkW w s s' T' ∧ Stand p l e R s' m args below meth c T' L' k'' n'' ∧ k'' ≤ R.cells ∧ n'' ≤ R.slots ∧ Fr Z.heap.size L' ∧ Q v T'.heap ∧ (ret = none → v = none) ∧
    ∀ fs, (∀ (f : JFrame) (acts : List Action), f.method = m → f.locked = none → f.entered = [] → (doReturn e (T'.setTop f) acts v).1 = T'.setFrames fs) → Steps p.tables e below (T.setTop (mkF m pc Ls st)) (T'.setFrames fs)
abbrev Go (l : Launch) (Z : State) (y : MethodName) (code : ByteArray) (ml : Nat) (ret : Option FieldType) (R : Room) (Q : Option Value → Heap → Prop) (k n : Nat) (h : Heap) (pc : Nat) (Ls : Array Slot) (st : List Value) : Prop := GoB false l Z y code ml ret R Q k n h pc Ls st
/-- the shapes of an answer -/
def QI (P : Int32 → Heap → Prop) (v : Option Value) (h : Heap) : Prop := ∃ z : Int32, v = some (.int z) ∧ P z h
def QJ (P : Int64 → Heap → Prop) (v : Option Value) (h : Heap) : Prop := ∃ z : Int64, v = some (.long z) ∧ P z h
def QR (P : Value → Heap → Prop) (v : Option Value) (h : Heap) : Prop := ∃ z : Value, v = some z ∧ P z h
def QV (P : Heap → Prop) (v : Option Value) (h : Heap) : Prop := v = none ∧ P h
section Laws
variable {wf : Bool} {l : Launch} {Z : State} {y : MethodName} {code : ByteArray} {ml : Nat} {ret : Option FieldType} {R : Room} {Q : Option Value → Heap → Prop} {k n : Nat} {h : Heap} {pc : Nat} {Ls : Array Slot} {st : List Value} {a0 : Array Value}
theorem GoB.pure {pc' : Nat} {Ls' : Array Slot} {st' : List Value} (g : GoB wf l Z y code ml ret R Q k n h pc' Ls' st')
    (f : ∀ (p : Program) (e : Env) (s : State) (m : MethodId) (args : Array Value) (below : List Frame) (meth : Method) (c : Code), Cx Z y code ml ret p s m meth c → ∀ (T : State) (L : List Loc) (k' n' : Nat), Stand p l e R s m args below meth c T L k' n' → T.heap = h → ∀ target, Steps p.tables e below (T.setTop (mkF m pc' Ls' st')) target → Steps p.tables e below (T.setTop (mkF m pc Ls st)) target) :
    GoB wf l Z y code ml ret R Q k n h pc Ls st := by
  intro p e s m args below meth c K T L k' n' X h1 h2 N hT
  obtain ⟨s', v, T', L', k'', n'', ok', X', b1, b2, N', q, hv, stp⟩ := g p e s m args below meth c K T L k' n' X h1 h2 N hT
  exact ⟨s', v, T', L', k'', n'', ok', X', b1, b2, N', q, hv, fun fs hl => f p e s m args below meth c K T L k' n' X hT _ (stp fs hl)⟩
/-- a step that moves the state: by a law that hands out the new Stand -/
theorem GoB.move {pc' : Nat} {Ls' : Array Slot} {st' : List Value} {kk nn : Nat} {P : Heap → Prop} (g : ∀ h', P h' → GoB wf l Z y code ml ret R Q kk nn h' pc' Ls' st')
    (f : ∀ (p : Program) (e : Env) (s : State) (m : MethodId) (args : Array Value) (below : List Frame) (meth : Method) (c : Code), Cx Z y code ml ret p s m meth c → ∀ (T : State) (L : List Loc) (k' n' : Nat), Stand p l e R s m args below meth c T L k' n' → k' ≤ k → n' ≤ n → Fr Z.heap.size L → T.heap = h →
      ∃ (T' : State) (L' : List Loc) (k'' n'' : Nat), Stand p l e R s m args below meth c T' L' k'' n'' ∧ k'' ≤ kk ∧ n'' ≤ nn ∧ Fr Z.heap.size L' ∧ P T'.heap ∧ ∀ target, Steps p.tables e below (T'.setTop (mkF m pc' Ls' st')) target → Steps p.tables e below (T.setTop (mkF m pc Ls st)) target) :
    GoB wf l Z y code ml ret R Q k n h pc Ls st := by
  intro p e s m args below meth c K T L k' n' X h1 h2 N hT
  obtain ⟨T1, L1, k1, n1, X1, c1, c2, N1, p1, s1⟩ := f p e s m args below meth c K T L k' n' X h1 h2 N hT
  obtain ⟨s', v, T', L', k'', n'', ok', X', b1, b2, N', q, hv, stp⟩ := g _ p1 p e s m args below meth c K T1 L1 k1 n1 X1 c1 c2 N1 rfl
  exact ⟨s', v, T', L', k'', n'', ok', X', b1, b2, N', q, hv, fun fs hl => s1 _ (stp fs hl)⟩
theorem GoB.le {k₀ n₀ : Nat} (g : GoB wf l Z y code ml ret R Q k n h pc Ls st) (hk : k₀ ≤ k) (hn : n₀ ≤ n) : GoB wf l Z y code ml ret R Q k₀ n₀ h pc Ls st :=
  fun p e s m args below meth c K T L k' n' X h1 h2 N hT => g p e s m args below meth c K T L k' n' X (Nat.le_trans h1 hk) (Nat.le_trans h2 hn) N hT
theorem GoB.mono {Q' : Option Value → Heap → Prop} (g : GoB wf l Z y code ml ret R Q k n h pc Ls st) (hq : ∀ v h', Q v h' → Q' v h') : GoB wf l Z y code ml ret R Q' k n h pc Ls st := by
  intro p e s m args below meth c K T L k' n' X h1 h2 N hT
  obtain ⟨s', v, T', L', k'', n'', ok', X', b1, b2, N', q, r⟩ := g p e s m args below meth c K T L k' n' X h1 h2 N hT
  exact ⟨s', v, T', L', k'', n'', ok', X', b1, b2, N', hq _ _ q, r⟩
theorem Go.nameI {x : Int32} (g : ∀ v : Int32, v = x → GoB wf l Z y code ml ret R Q k n h pc Ls (.int v :: st)) : GoB wf l Z y code ml ret R Q k n h pc Ls (.int x :: st) := g x rfl
theorem Go.nameJ {x : Int64} (g : ∀ v : Int64, v = x → GoB wf l Z y code ml ret R Q k n h pc Ls (.long v :: st)) : GoB wf l Z y code ml ret R Q k n h pc Ls (.long x :: st) := g x rfl

theorem Go.iadd {x z : Int32} (q : Nat) (hd : decode code pc = .ok (.iadd, 1))  (hq : pc + 1 = q) (g : GoB wf l Z y code ml ret R Q k n h q Ls (.int (x + z) :: st)) : GoB wf l Z y code ml ret R Q k n h pc Ls (.int z :: .int x :: st) := by
  subst hq; exact g.pure fun p e s m args below meth c K T L k' n' X hT t r => XS.iadd X.here K.1 rfl (hb K.2.1 hd) rfl  r
theorem Go.isub {x z : Int32} (q : Nat) (hd : decode code pc = .ok (.isub, 1))  (hq : pc + 1 = q) (g : GoB wf l Z y code ml ret R Q k n h q Ls (.int (x - z) :: st)) : GoB wf l Z y code ml ret R Q k n h pc Ls (.int z :: .int x :: st) := by
  subst hq; exact g.pure fun p e s m args below meth c K T L k' n' X hT t r => XS.isub X.here K.1 rfl (hb K.2.1 hd) rfl  r
theorem Go.iand {x z : Int32} (q : Nat) (hd : decode code pc = .ok (.iand, 1))  (hq : pc + 1 = q) (g : GoB wf l Z y code ml ret R Q k n h q Ls (.int (x &&& z) :: st)) : GoB wf l Z y code ml ret R Q k n h pc Ls (.int z :: .int x :: st) := by
  subst hq; exact g.pure fun p e s m args below meth c K T L k' n' X hT t r => XS.iand X.here K.1 rfl (hb K.2.1 hd) rfl  r
theorem Go.imul {x z : Int32} (q : Nat) (hd : decode code pc = .ok (.imul, 1))  (hq : pc + 1 = q) (g : GoB wf l Z y code ml ret R Q k n h q Ls (.int (x * z) :: st)) : GoB wf l Z y code ml ret R Q k n h pc Ls (.int z :: .int x :: st) := by
  subst hq; exact g.pure fun p e s m args below meth c K T L k' n' X hT t r => XS.imul X.here K.1 rfl (hb K.2.1 hd) rfl  r
theorem Go.ixor {x z : Int32} (q : Nat) (hd : decode code pc = .ok (.ixor, 1))  (hq : pc + 1 = q) (g : GoB wf l Z y code ml ret R Q k n h q Ls (.int (x ^^^ z) :: st)) : GoB wf l Z y code ml ret R Q k n h pc Ls (.int z :: .int x :: st) := by
  subst hq; exact g.pure fun p e s m args below meth c K T L k' n' X hT t r => XT.ixor X.here K.1 rfl (hb K.2.1 hd) rfl  r
theorem Go.ior {x z : Int32} (q : Nat) (hd : decode code pc = .ok (.ior, 1))  (hq : pc + 1 = q) (g : GoB wf l Z y code ml ret R Q k n h q Ls (.int (x ||| z) :: st)) : GoB wf l Z y code ml ret R Q k n h pc Ls (.int z :: .int x :: st) := by
  subst hq; exact g.pure fun p e s m args below meth c K T L k' n' X hT t r => XT.ior X.here K.1 rfl (hb K.2.1 hd) rfl  r
theorem Go.ishl {x z : Int32} (q : Nat) (hd : decode code pc = .ok (.ishl, 1))  (hq : pc + 1 = q) (g : GoB wf l Z y code ml ret R Q k n h q Ls (.int (x <<< (z &&& 31)) :: st)) : GoB wf l Z y code ml ret R Q k n h pc Ls (.int z :: .int x :: st) := by
  subst hq; exact g.pure fun p e s m args below meth c K T L k' n' X hT t r => XT.ishl X.here K.1 rfl (hb K.2.1 hd) rfl  r
theorem Go.ishr {x z : Int32} (q : Nat) (hd : decode code pc = .ok (.ishr, 1))  (hq : pc + 1 = q) (g : GoB wf l Z y code ml ret R Q k n h q Ls (.int (x >>> (z &&& 31)) :: st)) : GoB wf l Z y code ml ret R Q k n h pc Ls (.int z :: .int x :: st) := by
  subst hq; exact g.pure fun p e s m args below meth c K T L k' n' X hT t r => XT.ishr X.here K.1 rfl (hb K.2.1 hd) rfl  r
theorem Go.iushr {x z : Int32} (q : Nat) (hd : decode code pc = .ok (.iushr, 1))  (hq : pc + 1 = q) (g : GoB wf l Z y code ml ret R Q k n h q Ls (.int (XT.ushr x z) :: st)) : GoB wf l Z y code ml ret R Q k n h pc Ls (.int z :: .int x :: st) := by
  subst hq; exact g.pure fun p e s m args below meth c K T L k' n' X hT t r => XT.iushr X.here K.1 rfl (hb K.2.1 hd) rfl  r
theorem Go.idiv {x z : Int32} (q : Nat) (hd : decode code pc = .ok (.idiv, 1)) (hz : z ≠ 0) (hq : pc + 1 = q) (g : GoB wf l Z y code ml ret R Q k n h q Ls (.int (x / z) :: st)) : GoB wf l Z y code ml ret R Q k n h pc Ls (.int z :: .int x :: st) := by
  subst hq; exact g.pure fun p e s m args below meth c K T L k' n' X hT t r => XS.idiv X.here K.1 rfl (hb K.2.1 hd) rfl hz r
theorem Go.irem {x z : Int32} (q : Nat) (hd : decode code pc = .ok (.irem, 1)) (hz : z ≠ 0) (hq : pc + 1 = q) (g : GoB wf l Z y code ml ret R Q k n h q Ls (.int (x % z) :: st)) : GoB wf l Z y code ml ret R Q k n h pc Ls (.int z :: .int x :: st) := by
  subst hq; exact g.pure fun p e s m args below meth c K T L k' n' X hT t r => iremM X K.1 rfl (hb K.2.1 hd) rfl hz r
theorem Go.ineg {x : Int32} (q : Nat) (hd : decode code pc = .ok (.ineg, 1))  (hq : pc + 1 = q) (g : GoB wf l Z y code ml ret R Q k n h q Ls (.int (-x) :: st)) : GoB wf l Z y code ml ret R Q k n h pc Ls (.int x :: st) := by
  subst hq; exact g.pure fun p e s m args below meth c K T L k' n' X hT t r => XS.ineg X.here K.1 rfl (hb K.2.1 hd) rfl  r
theorem Go.ladd {x z : Int64} (q : Nat) (hd : decode code pc = .ok (.ladd, 1))  (hq : pc + 1 = q) (g : GoB wf l Z y code ml ret R Q k n h q Ls (.long (x + z) :: st)) : GoB wf l Z y code ml ret R Q k n h pc Ls (.long z :: .long x :: st) := by
  subst hq; exact g.pure fun p e s m args below meth c K T L k' n' X hT t r => XT.ladd X.here K.1 rfl (hb K.2.1 hd) rfl  r
theorem Go.lsub {x z : Int64} (q : Nat) (hd : decode code pc = .ok (.lsub, 1))  (hq : pc + 1 = q) (g : GoB wf l Z y code ml ret R Q k n h q Ls (.long (x - z) :: st)) : GoB wf l Z y code ml ret R Q k n h pc Ls (.long z :: .long x :: st) := by
  subst hq; exact g.pure fun p e s m args below meth c K T L k' n' X hT t r => XT.lsub X.here K.1 rfl (hb K.2.1 hd) rfl  r
theorem Go.lmul {x z : Int64} (q : Nat) (hd : decode code pc = .ok (.lmul, 1))  (hq : pc + 1 = q) (g : GoB wf l Z y code ml ret R Q k n h q Ls (.long (x * z) :: st)) : GoB wf l Z y code ml ret R Q k n h pc Ls (.long z :: .long x :: st) := by
  subst hq; exact g.pure fun p e s m args below meth c K T L k' n' X hT t r => XT.lmul X.here K.1 rfl (hb K.2.1 hd) rfl  r
theorem Go.land {x z : Int64} (q : Nat) (hd : decode code pc = .ok (.land, 1))  (hq : pc + 1 = q) (g : GoB wf l Z y code ml ret R Q k n h q Ls (.long (x &&& z) :: st)) : GoB wf l Z y code ml ret R Q k n h pc Ls (.long z :: .long x :: st) := by
  subst hq; exact g.pure fun p e s m args below meth c K T L k' n' X hT t r => XT.land X.here K.1 rfl (hb K.2.1 hd) rfl  r
theorem Go.lor {x z : Int64} (q : Nat) (hd : decode code pc = .ok (.lor, 1))  (hq : pc + 1 = q) (g : GoB wf l Z y code ml ret R Q k n h q Ls (.long (x ||| z) :: st)) : GoB wf l Z y code ml ret R Q k n h pc Ls (.long z :: .long x :: st) := by
  subst hq; exact g.pure fun p e s m args below meth c K T L k' n' X hT t r => XT.lor X.here K.1 rfl (hb K.2.1 hd) rfl  r
theorem Go.lxor {x z : Int64} (q : Nat) (hd : decode code pc = .ok (.lxor, 1))  (hq : pc + 1 = q) (g : GoB wf l Z y code ml ret R Q k n h q Ls (.long (x ^^^ z) :: st)) : GoB wf l Z y code ml ret R Q k n h pc Ls (.long z :: .long x :: st) := by
  subst hq; exact g.pure fun p e s m args below meth c K T L k' n' X hT t r => XT.lxor X.here K.1 rfl (hb K.2.1 hd) rfl  r
theorem Go.ldiv {x z : Int64} (q : Nat) (hd : decode code pc = .ok (.ldiv, 1)) (hz : z ≠ 0) (hq : pc + 1 = q) (g : GoB wf l Z y code ml ret R Q k n h q Ls (.long (x / z) :: st)) : GoB wf l Z y code ml ret R Q k n h pc Ls (.long z :: .long x :: st) := by
  subst hq; exact g.pure fun p e s m args below meth c K T L k' n' X hT t r => XT.ldiv X.here K.1 rfl (hb K.2.1 hd) rfl hz r
theorem Go.lrem {x z : Int64} (q : Nat) (hd : decode code pc = .ok (.lrem, 1)) (hz : z ≠ 0) (hq : pc + 1 = q) (g : GoB wf l Z y code ml ret R Q k n h q Ls (.long (x - (x / z) * z) :: st)) : GoB wf l Z y code ml ret R Q k n h pc Ls (.long z :: .long x :: st) := by
  subst hq; exact g.pure fun p e s m args below meth c K T L k' n' X hT t r => XT.lrem X.here K.1 rfl (hb K.2.1 hd) rfl hz r
theorem Go.lneg {x : Int64} (q : Nat) (hd : decode code pc = .ok (.lneg, 1))  (hq : pc + 1 = q) (g : GoB wf l Z y code ml ret R Q k n h q Ls (.long (-x) :: st)) : GoB wf l Z y code ml ret R Q k n h pc Ls (.long x :: st) := by
  subst hq; exact g.pure fun p e s m args below meth c K T L k' n' X hT t r => XT.lneg X.here K.1 rfl (hb K.2.1 hd) rfl  r
theorem Go.lshl {x : Int64} {z : Int32} (q : Nat) (hd : decode code pc = .ok (.lshl, 1))  (hq : pc + 1 = q) (g : GoB wf l Z y code ml ret R Q k n h q Ls (.long (x <<< (z.toInt64 &&& 63)) :: st)) : GoB wf l Z y code ml ret R Q k n h pc Ls (.int z :: .long x :: st) := by
  subst hq; exact g.pure fun p e s m args below meth c K T L k' n' X hT t r => XT.lshl X.here K.1 rfl (hb K.2.1 hd) rfl  r
theorem Go.lshr {x : Int64} {z : Int32} (q : Nat) (hd : decode code pc = .ok (.lshr, 1))  (hq : pc + 1 = q) (g : GoB wf l Z y code ml ret R Q k n h q Ls (.long (x >>> (z.toInt64 &&& 63)) :: st)) : GoB wf l Z y code ml ret R Q k n h pc Ls (.int z :: .long x :: st) := by
  subst hq; exact g.pure fun p e s m args below meth c K T L k' n' X hT t r => XT.lshr X.here K.1 rfl (hb K.2.1 hd) rfl  r
theorem Go.lushr {x : Int64} {z : Int32} (q : Nat) (hd : decode code pc = .ok (.lushr, 1))  (hq : pc + 1 = q) (g : GoB wf l Z y code ml ret R Q k n h q Ls (.long (XT.ushrL x z) :: st)) : GoB wf l Z y code ml ret R Q k n h pc Ls (.int z :: .long x :: st) := by
  subst hq; exact g.pure fun p e s m args below meth c K T L k' n' X hT t r => XT.lushr X.here K.1 rfl (hb K.2.1 hd) rfl  r
theorem Go.lcmp {x z : Int64} (q : Nat) (hd : decode code pc = .ok (.lcmp, 1))  (hq : pc + 1 = q) (g : GoB wf l Z y code ml ret R Q k n h q Ls (.int (XT.cmpL x z) :: st)) : GoB wf l Z y code ml ret R Q k n h pc Ls (.long z :: .long x :: st) := by
  subst hq; exact g.pure fun p e s m args below meth c K T L k' n' X hT t r => XT.lcmp X.here K.1 rfl (hb K.2.1 hd) rfl  r
theorem Go.i2l {x : Int32} (q : Nat) (hd : decode code pc = .ok (.i2l, 1))  (hq : pc + 1 = q) (g : GoB wf l Z y code ml ret R Q k n h q Ls (.long x.toInt64 :: st)) : GoB wf l Z y code ml ret R Q k n h pc Ls (.int x :: st) := by
  subst hq; exact g.pure fun p e s m args below meth c K T L k' n' X hT t r => XT.i2l X.here K.1 rfl (hb K.2.1 hd) rfl  r
theorem Go.l2i {x : Int64} (q : Nat) (hd : decode code pc = .ok (.l2i, 1))  (hq : pc + 1 = q) (g : GoB wf l Z y code ml ret R Q k n h q Ls (.int x.toInt32 :: st)) : GoB wf l Z y code ml ret R Q k n h pc Ls (.long x :: st) := by
  subst hq; exact g.pure fun p e s m args below meth c K T L k' n' X hT t r => XT.l2i X.here K.1 rfl (hb K.2.1 hd) rfl  r
theorem Go.i2b {x : Int32} (q : Nat) (hd : decode code pc = .ok (.i2b, 1))  (hq : pc + 1 = q) (g : GoB wf l Z y code ml ret R Q k n h q Ls (.int x.toInt8.toInt32 :: st)) : GoB wf l Z y code ml ret R Q k n h pc Ls (.int x :: st) := by
  subst hq; exact g.pure fun p e s m args below meth c K T L k' n' X hT t r => XT.i2b X.here K.1 rfl (hb K.2.1 hd) rfl  r
theorem Go.i2c {x : Int32} (q : Nat) (hd : decode code pc = .ok (.i2c, 1))  (hq : pc + 1 = q) (g : GoB wf l Z y code ml ret R Q k n h q Ls (.int x.toUInt32.toUInt16.toUInt32.toInt32 :: st)) : GoB wf l Z y code ml ret R Q k n h pc Ls (.int x :: st) := by
  subst hq; exact g.pure fun p e s m args below meth c K T L k' n' X hT t r => XT.i2c X.here K.1 rfl (hb K.2.1 hd) rfl  r
theorem Go.i2s {x : Int32} (q : Nat) (hd : decode code pc = .ok (.i2s, 1))  (hq : pc + 1 = q) (g : GoB wf l Z y code ml ret R Q k n h q Ls (.int x.toInt16.toInt32 :: st)) : GoB wf l Z y code ml ret R Q k n h pc Ls (.int x :: st) := by
  subst hq; exact g.pure fun p e s m args below meth c K T L k' n' X hT t r => XT.i2s X.here K.1 rfl (hb K.2.1 hd) rfl  r
theorem Go.pop {x : Value} (q : Nat) (hd : decode code pc = .ok (.pop, 1)) (hc : x.category = 1) (hq : pc + 1 = q) (g : GoB wf l Z y code ml ret R Q k n h q Ls (st)) : GoB wf l Z y code ml ret R Q k n h pc Ls (x :: st) := by
  subst hq; exact g.pure fun p e s m args below meth c K T L k' n' X hT t r => XT.pop X.here K.1 rfl (hb K.2.1 hd) rfl hc r
theorem Go.dup {x : Value} (q : Nat) (hd : decode code pc = .ok (.dup, 1)) (hc : x.category = 1) (hq : pc + 1 = q) (g : GoB wf l Z y code ml ret R Q k n h q Ls (x :: x :: st)) : GoB wf l Z y code ml ret R Q k n h pc Ls (x :: st) := by
  subst hq; exact g.pure fun p e s m args below meth c K T L k' n' X hT t r => XS.dup X.here K.1 rfl (hb K.2.1 hd) rfl hc r
theorem Go.dupX1 {x z : Value} (q : Nat) (hd : decode code pc = .ok (.dup_x1, 1)) (hc : x.category = 1) (hc' : z.category = 1) (hq : pc + 1 = q) (g : GoB wf l Z y code ml ret R Q k n h q Ls (x :: z :: x :: st)) : GoB wf l Z y code ml ret R Q k n h pc Ls (x :: z :: st) := by
  subst hq; exact g.pure fun p e s m args below meth c K T L k' n' X hT t r => XT.dupX1 X.here K.1 rfl (hb K.2.1 hd) rfl hc hc' r
theorem Go.dup2 {x z : Value} (q : Nat) (hd : decode code pc = .ok (.dup2, 1)) (hc : x.category = 1) (hc' : z.category = 1) (hq : pc + 1 = q) (g : GoB wf l Z y code ml ret R Q k n h q Ls (x :: z :: x :: z :: st)) : GoB wf l Z y code ml ret R Q k n h pc Ls (x :: z :: st) := by
  subst hq; exact g.pure fun p e s m args below meth c K T L k' n' X hT t r => XT.dup2 X.here K.1 rfl (hb K.2.1 hd) rfl hc hc' r
theorem Go.dup2L {x : Int64} (q : Nat) (hd : decode code pc = .ok (.dup2, 1))  (hq : pc + 1 = q) (g : GoB wf l Z y code ml ret R Q k n h q Ls (.long x :: .long x :: st)) : GoB wf l Z y code ml ret R Q k n h pc Ls (.long x :: st) := by
  subst hq; exact g.pure fun p e s m args below meth c K T L k' n' X hT t r => XT.dup2L X.here K.1 rfl (hb K.2.1 hd) rfl  r
theorem Go.iconst {i : Int} (q : Nat) (v : Int32) (hd : decode code pc = .ok (.iconst i, 1)) (hv : Int32.ofInt i = v) (hq : pc + 1 = q) (g : GoB wf l Z y code ml ret R Q k n h q Ls (.int v :: st)) : GoB wf l Z y code ml ret R Q k n h pc Ls st := by
  subst hq; exact g.pure fun p e s m args below meth c K T L k' n' X hT t r => XT.iconstV X.here K.1 rfl v (hb K.2.1 hd) hv r
theorem Go.bipush {i : Int} (q : Nat) (v : Int32) (hd : decode code pc = .ok (.bipush i, 2)) (hv : (Int8.ofInt i).toInt32 = v) (hq : pc + 2 = q) (g : GoB wf l Z y code ml ret R Q k n h q Ls (.int v :: st)) : GoB wf l Z y code ml ret R Q k n h pc Ls st := by
  subst hq; exact g.pure fun p e s m args below meth c K T L k' n' X hT t r => XT.bipushV X.here K.1 rfl v (hb K.2.1 hd) hv r
theorem Go.sipush {i : Int} (q : Nat) (v : Int32) (hd : decode code pc = .ok (.sipush i, 3)) (hv : (Int16.ofInt i).toInt32 = v) (hq : pc + 3 = q) (g : GoB wf l Z y code ml ret R Q k n h q Ls (.int v :: st)) : GoB wf l Z y code ml ret R Q k n h pc Ls st := by
  subst hq; exact g.pure fun p e s m args below meth c K T L k' n' X hT t r => XT.sipushV X.here K.1 rfl v (hb K.2.1 hd) hv r
theorem Go.lconst {i : Fin 2} (q : Nat) (v : Int64) (hd : decode code pc = .ok (.lconst i, 1)) (hv : Int64.ofNat i = v) (hq : pc + 1 = q) (g : GoB wf l Z y code ml ret R Q k n h q Ls (.long v :: st)) : GoB wf l Z y code ml ret R Q k n h pc Ls st := by
  subst hq; exact g.pure fun p e s m args below meth c K T L k' n' X hT t r => XT.lconstV X.here K.1 rfl v (hb K.2.1 hd) hv r
theorem Go.aconst_null (q : Nat) (hd : decode code pc = .ok (.aconst_null, 1)) (hq : pc + 1 = q) (g : GoB wf l Z y code ml ret R Q k n h q Ls (.null :: st)) : GoB wf l Z y code ml ret R Q k n h pc Ls st := by
  subst hq; exact g.pure fun p e s m args below meth c K T L k' n' X hT t r => XS.aconstNull X.here K.1 rfl (hb K.2.1 hd) r
theorem Go.ldc {i : Nat} {v : Int32} (q : Nat) (hd : decode code pc = .ok (.ldc i, 2)) (w : (Cond.constant y.cls i v).before a0 Z = true) (hq : pc + 2 = q) (g : GoB wf l Z y code ml ret R Q k n h q Ls (.int v :: st)) : GoB wf l Z y code ml ret R Q k n h pc Ls st := by
  subst hq; exact g.pure fun p e s m args below meth c K T L k' n' X hT t r => X.ldcI K.1 K.2.2.2.1 (mvT K.2.2.1 w) rfl (hb K.2.1 hd) r
theorem Go.ldc_w {i : Nat} {v : Int32} (q : Nat) (hd : decode code pc = .ok (.ldc_w i, 3)) (w : (Cond.constant y.cls i v).before a0 Z = true) (hq : pc + 3 = q) (g : GoB wf l Z y code ml ret R Q k n h q Ls (.int v :: st)) : GoB wf l Z y code ml ret R Q k n h pc Ls st := by
  subst hq; exact g.pure fun p e s m args below meth c K T L k' n' X hT t r => X.ldcWI K.1 K.2.2.2.1 (mvT K.2.2.1 w) rfl (hb K.2.1 hd) r
theorem Go.ldc2_w {i : Nat} {v : Int64} (q : Nat) (hd : decode code pc = .ok (.ldc2_w i, 3)) (w : (Cond.constantLong y.cls i v).before a0 Z = true) (hq : pc + 3 = q) (g : GoB wf l Z y code ml ret R Q k n h q Ls (.long v :: st)) : GoB wf l Z y code ml ret R Q k n h pc Ls st := by
  subst hq; exact g.pure fun p e s m args below meth c K T L k' n' X hT t r => X.ldc2J K.1 K.2.2.2.1 (mvT K.2.2.1 w) rfl (hb K.2.1 hd) r
theorem Go.iload {i : Nat} {v : Int32} (q : Nat) (hd : decode code pc = .ok (.iload i, 2)) (hl : Ls[i]? = some (.val (.int v))) (hq : pc + 2 = q) (g : GoB wf l Z y code ml ret R Q k n h q Ls (.int v :: st)) : GoB wf l Z y code ml ret R Q k n h pc Ls st := by
  subst hq; exact g.pure fun p e s m args below meth c K T L k' n' X hT t r => XS.iload X.here K.1 rfl (hb K.2.1 hd) hl r
theorem Go.iload_n {i : Fin 4} {v : Int32} (q : Nat) (hd : decode code pc = .ok (.iload_n i, 1)) (hl : Ls[i.val]? = some (.val (.int v))) (hq : pc + 1 = q) (g : GoB wf l Z y code ml ret R Q k n h q Ls (.int v :: st)) : GoB wf l Z y code ml ret R Q k n h pc Ls st := by
  subst hq; exact g.pure fun p e s m args below meth c K T L k' n' X hT t r => XS.iloadN X.here K.1 rfl (hb K.2.1 hd) hl r
theorem Go.lload {i : Nat} {v : Int64} (q : Nat) (hd : decode code pc = .ok (.lload i, 2)) (hl : Ls[i]? = some (.val (.long v))) (hq : pc + 2 = q) (g : GoB wf l Z y code ml ret R Q k n h q Ls (.long v :: st)) : GoB wf l Z y code ml ret R Q k n h pc Ls st := by
  subst hq; exact g.pure fun p e s m args below meth c K T L k' n' X hT t r => XT.lload X.here K.1 rfl (hb K.2.1 hd) hl r
theorem Go.lload_n {i : Fin 4} {v : Int64} (q : Nat) (hd : decode code pc = .ok (.lload_n i, 1)) (hl : Ls[i.val]? = some (.val (.long v))) (hq : pc + 1 = q) (g : GoB wf l Z y code ml ret R Q k n h q Ls (.long v :: st)) : GoB wf l Z y code ml ret R Q k n h pc Ls st := by
  subst hq; exact g.pure fun p e s m args below meth c K T L k' n' X hT t r => XT.lloadN X.here K.1 rfl (hb K.2.1 hd) hl r
theorem Go.aload {i : Nat} {v : Value} (q : Nat) (hd : decode code pc = .ok (.aload i, 2)) (hl : Ls[i]? = some (.val v)) (hv : v.isRef = true) (hq : pc + 2 = q) (g : GoB wf l Z y code ml ret R Q k n h q Ls (v :: st)) : GoB wf l Z y code ml ret R Q k n h pc Ls st := by
  subst hq; exact g.pure fun p e s m args below meth c K T L k' n' X hT t r => XS.aload X.here K.1 rfl (hb K.2.1 hd) hl hv r
theorem Go.aload_n {i : Fin 4} {v : Value} (q : Nat) (hd : decode code pc = .ok (.aload_n i, 1)) (hl : Ls[i.val]? = some (.val v)) (hv : v.isRef = true) (hq : pc + 1 = q) (g : GoB wf l Z y code ml ret R Q k n h q Ls (v :: st)) : GoB wf l Z y code ml ret R Q k n h pc Ls st := by
  subst hq; exact g.pure fun p e s m args below meth c K T L k' n' X hT t r => XS.aloadN X.here K.1 rfl (hb K.2.1 hd) hl hv r
theorem Go.istore {i : Nat} {v : Int32} (q : Nat) (Ls' : Array Slot) (hd : decode code pc = .ok (.istore i, 2)) (hl : storeLocals Ls i (.int v) = some Ls') (hq : pc + 2 = q) (g : GoB wf l Z y code ml ret R Q k n h q Ls' st) : GoB wf l Z y code ml ret R Q k n h pc Ls (.int v :: st) := by
  subst hq; exact g.pure fun p e s m args below meth c K T L k' n' X hT t r => XS.istore X.here K.1 rfl (hb K.2.1 hd) rfl hl r
theorem Go.istore_n {i : Fin 4} {v : Int32} (q : Nat) (Ls' : Array Slot) (hd : decode code pc = .ok (.istore_n i, 1)) (hl : storeLocals Ls i.val (.int v) = some Ls') (hq : pc + 1 = q) (g : GoB wf l Z y code ml ret R Q k n h q Ls' st) : GoB wf l Z y code ml ret R Q k n h pc Ls (.int v :: st) := by
  subst hq; exact g.pure fun p e s m args below meth c K T L k' n' X hT t r => XS.istoreN X.here K.1 rfl (hb K.2.1 hd) rfl hl r
theorem Go.lstore {i : Nat} {v : Int64} (q : Nat) (Ls' : Array Slot) (hd : decode code pc = .ok (.lstore i, 2)) (hl : storeLocals Ls i (.long v) = some Ls') (hq : pc + 2 = q) (g : GoB wf l Z y code ml ret R Q k n h q Ls' st) : GoB wf l Z y code ml ret R Q k n h pc Ls (.long v :: st) := by
  subst hq; exact g.pure fun p e s m args below meth c K T L k' n' X hT t r => XT.lstore X.here K.1 rfl (hb K.2.1 hd) rfl hl r
theorem Go.lstore_n {i : Fin 4} {v : Int64} (q : Nat) (Ls' : Array Slot) (hd : decode code pc = .ok (.lstore_n i, 1)) (hl : storeLocals Ls i.val (.long v) = some Ls') (hq : pc + 1 = q) (g : GoB wf l Z y code ml ret R Q k n h q Ls' st) : GoB wf l Z y code ml ret R Q k n h pc Ls (.long v :: st) := by
  subst hq; exact g.pure fun p e s m args below meth c K T L k' n' X hT t r => XT.lstoreN X.here K.1 rfl (hb K.2.1 hd) rfl hl r
theorem Go.astore {i : Nat} {v : Value} (q : Nat) (Ls' : Array Slot) (hd : decode code pc = .ok (.astore i, 2)) (hv : v.isRef = true) (hl : storeLocals Ls i v = some Ls') (hq : pc + 2 = q) (g : GoB wf l Z y code ml ret R Q k n h q Ls' st) : GoB wf l Z y code ml ret R Q k n h pc Ls (v :: st) := by
  subst hq; exact g.pure fun p e s m args below meth c K T L k' n' X hT t r => XS.astore X.here K.1 rfl (hb K.2.1 hd) rfl hv hl r
theorem Go.astore_n {i : Fin 4} {v : Value} (q : Nat) (Ls' : Array Slot) (hd : decode code pc = .ok (.astore_n i, 1)) (hv : v.isRef = true) (hl : storeLocals Ls i.val v = some Ls') (hq : pc + 1 = q) (g : GoB wf l Z y code ml ret R Q k n h q Ls' st) : GoB wf l Z y code ml ret R Q k n h pc Ls (v :: st) := by
  subst hq; exact g.pure fun p e s m args below meth c K T L k' n' X hT t r => XS.astoreN X.here K.1 rfl (hb K.2.1 hd) rfl hv hl r
theorem Go.iinc {i : Nat} {cst : Int} {x : Int32} (q : Nat) (v : Int32) (Ls' : Array Slot) (hd : decode code pc = .ok (.iinc i cst, 3)) (hv : Int32.ofInt cst = v) (hl : Ls[i]? = some (.val (.int x))) (hl' : storeLocals Ls i (.int (x + v)) = some Ls') (hq : pc + 3 = q) (g : GoB wf l Z y code ml ret R Q k n h q Ls' st) : GoB wf l Z y code ml ret R Q k n h pc Ls st := by
  subst hq; exact g.pure fun p e s m args below meth c K T L k' n' X hT t r => XT.iincV X.here K.1 rfl v (hb K.2.1 hd) hv hl hl' r
theorem Go.goto {o : Int} (q : Nat) (hd : decode code pc = .ok (.goto o, 3)) (ho : 0 ≤ (pc : Int) + o) (hq : ((pc : Int) + o).toNat = q) (g : GoB wf l Z y code ml ret R Q k n h q Ls st) : GoB wf l Z y code ml ret R Q k n h pc Ls st :=
  g.pure fun p e s m args below meth c K T L k' n' X hT t r => XS.goto X.here K.1 rfl rfl (hb K.2.1 hd) ho hq r
theorem Go.icmp_eq {o : Int} {x z : Int32} (q1 q2 : Nat) (hd : decode code pc = .ok (.if_icmp .eq o, 3)) (ho : 0 ≤ (pc : Int) + o) (h1 : ((pc : Int) + o).toNat = q1) (h2 : pc + 3 = q2) (g1 : x = z → GoB wf l Z y code ml ret R Q k n h q1 Ls st) (g2 : ¬ x = z → GoB wf l Z y code ml ret R Q k n h q2 Ls st) : GoB wf l Z y code ml ret R Q k n h pc Ls (.int z :: .int x :: st) := by
  subst h2
  by_cases hc : x = z
  · exact (g1 hc).pure fun p e s m args below meth c K T L k' n' X hT t r => XS.icmpYes X.here K.1 rfl rfl (hb K.2.1 hd) rfl (XT.ii_eq_t hc) ho h1 r
  · exact (g2 (by first | exact hc | exact Decidable.not_not.mp hc)).pure fun p e s m args below meth c K T L k' n' X hT t r => XS.icmpNo X.here K.1 rfl (hb K.2.1 hd) rfl (XT.ii_eq_f (by first | exact hc | exact Decidable.not_not.mp hc)) r
theorem Go.lcmp_eq {o : Int} {x z : Int64} (q1 q2 : Nat) (hd : decode code pc = .ok (.ifCond .eq o, 3)) (ho : 0 ≤ (pc : Int) + o) (h1 : ((pc : Int) + o).toNat = q1) (h2 : pc + 3 = q2) (g1 : x = z → GoB wf l Z y code ml ret R Q k n h q1 Ls st) (g2 : ¬ x = z → GoB wf l Z y code ml ret R Q k n h q2 Ls st) : GoB wf l Z y code ml ret R Q k n h pc Ls (.int (XT.cmpL x z) :: st) := by
  subst h2
  by_cases hc : x = z
  · exact (g1 hc).pure fun p e s m args below meth c K T L k' n' X hT t r => XS.ifYes X.here K.1 rfl rfl (hb K.2.1 hd) rfl (XT.ll_eq_t hc) ho h1 r
  · exact (g2 (by first | exact hc | exact Decidable.not_not.mp hc)).pure fun p e s m args below meth c K T L k' n' X hT t r => XS.ifNo X.here K.1 rfl (hb K.2.1 hd) rfl (XT.ll_eq_f (by first | exact hc | exact Decidable.not_not.mp hc)) r
theorem Go.icmp_ne {o : Int} {x z : Int32} (q1 q2 : Nat) (hd : decode code pc = .ok (.if_icmp .ne o, 3)) (ho : 0 ≤ (pc : Int) + o) (h1 : ((pc : Int) + o).toNat = q1) (h2 : pc + 3 = q2) (g1 : ¬ x = z → GoB wf l Z y code ml ret R Q k n h q1 Ls st) (g2 : x = z → GoB wf l Z y code ml ret R Q k n h q2 Ls st) : GoB wf l Z y code ml ret R Q k n h pc Ls (.int z :: .int x :: st) := by
  subst h2
  by_cases hc : ¬ x = z
  · exact (g1 hc).pure fun p e s m args below meth c K T L k' n' X hT t r => XS.icmpYes X.here K.1 rfl rfl (hb K.2.1 hd) rfl (XT.ii_ne_t hc) ho h1 r
  · exact (g2 (by first | exact hc | exact Decidable.not_not.mp hc)).pure fun p e s m args below meth c K T L k' n' X hT t r => XS.icmpNo X.here K.1 rfl (hb K.2.1 hd) rfl (XT.ii_ne_f (by first | exact hc | exact Decidable.not_not.mp hc)) r
theorem Go.lcmp_ne {o : Int} {x z : Int64} (q1 q2 : Nat) (hd : decode code pc = .ok (.ifCond .ne o, 3)) (ho : 0 ≤ (pc : Int) + o) (h1 : ((pc : Int) + o).toNat = q1) (h2 : pc + 3 = q2) (g1 : ¬ x = z → GoB wf l Z y code ml ret R Q k n h q1 Ls st) (g2 : x = z → GoB wf l Z y code ml ret R Q k n h q2 Ls st) : GoB wf l Z y code ml ret R Q k n h pc Ls (.int (XT.cmpL x z) :: st) := by
  subst h2
  by_cases hc : ¬ x = z
  · exact (g1 hc).pure fun p e s m args below meth c K T L k' n' X hT t r => XS.ifYes X.here K.1 rfl rfl (hb K.2.1 hd) rfl (XT.ll_ne_t hc) ho h1 r
  · exact (g2 (by first | exact hc | exact Decidable.not_not.mp hc)).pure fun p e s m args below meth c K T L k' n' X hT t r => XS.ifNo X.here K.1 rfl (hb K.2.1 hd) rfl (XT.ll_ne_f (by first | exact hc | exact Decidable.not_not.mp hc)) r
theorem Go.icmp_lt {o : Int} {x z : Int32} (q1 q2 : Nat) (hd : decode code pc = .ok (.if_icmp .lt o, 3)) (ho : 0 ≤ (pc : Int) + o) (h1 : ((pc : Int) + o).toNat = q1) (h2 : pc + 3 = q2) (g1 : x < z → GoB wf l Z y code ml ret R Q k n h q1 Ls st) (g2 : ¬ x < z → GoB wf l Z y code ml ret R Q k n h q2 Ls st) : GoB wf l Z y code ml ret R Q k n h pc Ls (.int z :: .int x :: st) := by
  subst h2
  by_cases hc : x < z
  · exact (g1 hc).pure fun p e s m args below meth c K T L k' n' X hT t r => XS.icmpYes X.here K.1 rfl rfl (hb K.2.1 hd) rfl (XT.ii_lt_t hc) ho h1 r
  · exact (g2 (by first | exact hc | exact Decidable.not_not.mp hc)).pure fun p e s m args below meth c K T L k' n' X hT t r => XS.icmpNo X.here K.1 rfl (hb K.2.1 hd) rfl (XT.ii_lt_f (by first | exact hc | exact Decidable.not_not.mp hc)) r
theorem Go.lcmp_lt {o : Int} {x z : Int64} (q1 q2 : Nat) (hd : decode code pc = .ok (.ifCond .lt o, 3)) (ho : 0 ≤ (pc : Int) + o) (h1 : ((pc : Int) + o).toNat = q1) (h2 : pc + 3 = q2) (g1 : x < z → GoB wf l Z y code ml ret R Q k n h q1 Ls st) (g2 : ¬ x < z → GoB wf l Z y code ml ret R Q k n h q2 Ls st) : GoB wf l Z y code ml ret R Q k n h pc Ls (.int (XT.cmpL x z) :: st) := by
  subst h2
  by_cases hc : x < z
  · exact (g1 hc).pure fun p e s m args below meth c K T L k' n' X hT t r => XS.ifYes X.here K.1 rfl rfl (hb K.2.1 hd) rfl (XT.ll_lt_t hc) ho h1 r
  · exact (g2 (by first | exact hc | exact Decidable.not_not.mp hc)).pure fun p e s m args below meth c K T L k' n' X hT t r => XS.ifNo X.here K.1 rfl (hb K.2.1 hd) rfl (XT.ll_lt_f (by first | exact hc | exact Decidable.not_not.mp hc)) r
theorem Go.icmp_ge {o : Int} {x z : Int32} (q1 q2 : Nat) (hd : decode code pc = .ok (.if_icmp .ge o, 3)) (ho : 0 ≤ (pc : Int) + o) (h1 : ((pc : Int) + o).toNat = q1) (h2 : pc + 3 = q2) (g1 : ¬ x < z → GoB wf l Z y code ml ret R Q k n h q1 Ls st) (g2 : x < z → GoB wf l Z y code ml ret R Q k n h q2 Ls st) : GoB wf l Z y code ml ret R Q k n h pc Ls (.int z :: .int x :: st) := by
  subst h2
  by_cases hc : ¬ x < z
  · exact (g1 hc).pure fun p e s m args below meth c K T L k' n' X hT t r => XS.icmpYes X.here K.1 rfl rfl (hb K.2.1 hd) rfl (XT.ii_ge_t hc) ho h1 r
  · exact (g2 (by first | exact hc | exact Decidable.not_not.mp hc)).pure fun p e s m args below meth c K T L k' n' X hT t r => XS.icmpNo X.here K.1 rfl (hb K.2.1 hd) rfl (XT.ii_ge_f (by first | exact hc | exact Decidable.not_not.mp hc)) r
theorem Go.lcmp_ge {o : Int} {x z : Int64} (q1 q2 : Nat) (hd : decode code pc = .ok (.ifCond .ge o, 3)) (ho : 0 ≤ (pc : Int) + o) (h1 : ((pc : Int) + o).toNat = q1) (h2 : pc + 3 = q2) (g1 : ¬ x < z → GoB wf l Z y code ml ret R Q k n h q1 Ls st) (g2 : x < z → GoB wf l Z y code ml ret R Q k n h q2 Ls st) : GoB wf l Z y code ml ret R Q k n h pc Ls (.int (XT.cmpL x z) :: st) := by
  subst h2
  by_cases hc : ¬ x < z
  · exact (g1 hc).pure fun p e s m args below meth c K T L k' n' X hT t r => XS.ifYes X.here K.1 rfl rfl (hb K.2.1 hd) rfl (XT.ll_ge_t hc) ho h1 r
  · exact (g2 (by first | exact hc | exact Decidable.not_not.mp hc)).pure fun p e s m args below meth c K T L k' n' X hT t r => XS.ifNo X.here K.1 rfl (hb K.2.1 hd) rfl (XT.ll_ge_f (by first | exact hc | exact Decidable.not_not.mp hc)) r
theorem Go.icmp_gt {o : Int} {x z : Int32} (q1 q2 : Nat) (hd : decode code pc = .ok (.if_icmp .gt o, 3)) (ho : 0 ≤ (pc : Int) + o) (h1 : ((pc : Int) + o).toNat = q1) (h2 : pc + 3 = q2) (g1 : z < x → GoB wf l Z y code ml ret R Q k n h q1 Ls st) (g2 : ¬ z < x → GoB wf l Z y code ml ret R Q k n h q2 Ls st) : GoB wf l Z y code ml ret R Q k n h pc Ls (.int z :: .int x :: st) := by
  subst h2
  by_cases hc : z < x
  · exact (g1 hc).pure fun p e s m args below meth c K T L k' n' X hT t r => XS.icmpYes X.here K.1 rfl rfl (hb K.2.1 hd) rfl (XT.ii_gt_t hc) ho h1 r
  · exact (g2 (by first | exact hc | exact Decidable.not_not.mp hc)).pure fun p e s m args below meth c K T L k' n' X hT t r => XS.icmpNo X.here K.1 rfl (hb K.2.1 hd) rfl (XT.ii_gt_f (by first | exact hc | exact Decidable.not_not.mp hc)) r
theorem Go.lcmp_gt {o : Int} {x z : Int64} (q1 q2 : Nat) (hd : decode code pc = .ok (.ifCond .gt o, 3)) (ho : 0 ≤ (pc : Int) + o) (h1 : ((pc : Int) + o).toNat = q1) (h2 : pc + 3 = q2) (g1 : z < x → GoB wf l Z y code ml ret R Q k n h q1 Ls st) (g2 : ¬ z < x → GoB wf l Z y code ml ret R Q k n h q2 Ls st) : GoB wf l Z y code ml ret R Q k n h pc Ls (.int (XT.cmpL x z) :: st) := by
  subst h2
  by_cases hc : z < x
  · exact (g1 hc).pure fun p e s m args below meth c K T L k' n' X hT t r => XS.ifYes X.here K.1 rfl rfl (hb K.2.1 hd) rfl (XT.ll_gt_t hc) ho h1 r
  · exact (g2 (by first | exact hc | exact Decidable.not_not.mp hc)).pure fun p e s m args below meth c K T L k' n' X hT t r => XS.ifNo X.here K.1 rfl (hb K.2.1 hd) rfl (XT.ll_gt_f (by first | exact hc | exact Decidable.not_not.mp hc)) r
theorem Go.icmp_le {o : Int} {x z : Int32} (q1 q2 : Nat) (hd : decode code pc = .ok (.if_icmp .le o, 3)) (ho : 0 ≤ (pc : Int) + o) (h1 : ((pc : Int) + o).toNat = q1) (h2 : pc + 3 = q2) (g1 : ¬ z < x → GoB wf l Z y code ml ret R Q k n h q1 Ls st) (g2 : z < x → GoB wf l Z y code ml ret R Q k n h q2 Ls st) : GoB wf l Z y code ml ret R Q k n h pc Ls (.int z :: .int x :: st) := by
  subst h2
  by_cases hc : ¬ z < x
  · exact (g1 hc).pure fun p e s m args below meth c K T L k' n' X hT t r => XS.icmpYes X.here K.1 rfl rfl (hb K.2.1 hd) rfl (XT.ii_le_t hc) ho h1 r
  · exact (g2 (by first | exact hc | exact Decidable.not_not.mp hc)).pure fun p e s m args below meth c K T L k' n' X hT t r => XS.icmpNo X.here K.1 rfl (hb K.2.1 hd) rfl (XT.ii_le_f (by first | exact hc | exact Decidable.not_not.mp hc)) r
theorem Go.lcmp_le {o : Int} {x z : Int64} (q1 q2 : Nat) (hd : decode code pc = .ok (.ifCond .le o, 3)) (ho : 0 ≤ (pc : Int) + o) (h1 : ((pc : Int) + o).toNat = q1) (h2 : pc + 3 = q2) (g1 : ¬ z < x → GoB wf l Z y code ml ret R Q k n h q1 Ls st) (g2 : z < x → GoB wf l Z y code ml ret R Q k n h q2 Ls st) : GoB wf l Z y code ml ret R Q k n h pc Ls (.int (XT.cmpL x z) :: st) := by
  subst h2
  by_cases hc : ¬ z < x
  · exact (g1 hc).pure fun p e s m args below meth c K T L k' n' X hT t r => XS.ifYes X.here K.1 rfl rfl (hb K.2.1 hd) rfl (XT.ll_le_t hc) ho h1 r
  · exact (g2 (by first | exact hc | exact Decidable.not_not.mp hc)).pure fun p e s m args below meth c K T L k' n' X hT t r => XS.ifNo X.here K.1 rfl (hb K.2.1 hd) rfl (XT.ll_le_f (by first | exact hc | exact Decidable.not_not.mp hc)) r
theorem if0_eq_t {x : Int32} (h : x = 0) : ifCond.holds .eq x = true := by
  have e : ifCond.holds .eq x = if_icmp.holds .eq x 0 := rfl
  rw [e]; exact XT.ii_eq_t h
theorem if0_eq_f {x : Int32} (h : ¬ x = 0) : ifCond.holds .eq x = false := by
  have e : ifCond.holds .eq x = if_icmp.holds .eq x 0 := rfl
  rw [e]; exact XT.ii_eq_f h
theorem Go.if_eq {o : Int} {x : Int32} (q1 q2 : Nat) (hd : decode code pc = .ok (.ifCond .eq o, 3)) (ho : 0 ≤ (pc : Int) + o) (h1 : ((pc : Int) + o).toNat = q1) (h2 : pc + 3 = q2) (g1 : x = 0 → GoB wf l Z y code ml ret R Q k n h q1 Ls st) (g2 : ¬ x = 0 → GoB wf l Z y code ml ret R Q k n h q2 Ls st) : GoB wf l Z y code ml ret R Q k n h pc Ls (.int x :: st) := by
  subst h2
  by_cases hc : x = 0
  · exact (g1 hc).pure fun p e s m args below meth c K T L k' n' X hT t r => XS.ifYes X.here K.1 rfl rfl (hb K.2.1 hd) rfl (if0_eq_t hc) ho h1 r
  · exact (g2 (by first | exact hc | exact Decidable.not_not.mp hc)).pure fun p e s m args below meth c K T L k' n' X hT t r => XS.ifNo X.here K.1 rfl (hb K.2.1 hd) rfl (if0_eq_f (by first | exact hc | exact Decidable.not_not.mp hc)) r
theorem if0_ne_t {x : Int32} (h : ¬ x = 0) : ifCond.holds .ne x = true := by
  have e : ifCond.holds .ne x = if_icmp.holds .ne x 0 := rfl
  rw [e]; exact XT.ii_ne_t h
theorem if0_ne_f {x : Int32} (h : x = 0) : ifCond.holds .ne x = false := by
  have e : ifCond.holds .ne x = if_icmp.holds .ne x 0 := rfl
  rw [e]; exact XT.ii_ne_f h
theorem Go.if_ne {o : Int} {x : Int32} (q1 q2 : Nat) (hd : decode code pc = .ok (.ifCond .ne o, 3)) (ho : 0 ≤ (pc : Int) + o) (h1 : ((pc : Int) + o).toNat = q1) (h2 : pc + 3 = q2) (g1 : ¬ x = 0 → GoB wf l Z y code ml ret R Q k n h q1 Ls st) (g2 : x = 0 → GoB wf l Z y code ml ret R Q k n h q2 Ls st) : GoB wf l Z y code ml ret R Q k n h pc Ls (.int x :: st) := by
  subst h2
  by_cases hc : ¬ x = 0
  · exact (g1 hc).pure fun p e s m args below meth c K T L k' n' X hT t r => XS.ifYes X.here K.1 rfl rfl (hb K.2.1 hd) rfl (if0_ne_t hc) ho h1 r
  · exact (g2 (by first | exact hc | exact Decidable.not_not.mp hc)).pure fun p e s m args below meth c K T L k' n' X hT t r => XS.ifNo X.here K.1 rfl (hb K.2.1 hd) rfl (if0_ne_f (by first | exact hc | exact Decidable.not_not.mp hc)) r
theorem if0_lt_t {x : Int32} (h : x < 0) : ifCond.holds .lt x = true := by
  have e : ifCond.holds .lt x = if_icmp.holds .lt x 0 := rfl
  rw [e]; exact XT.ii_lt_t h
theorem if0_lt_f {x : Int32} (h : ¬ x < 0) : ifCond.holds .lt x = false := by
  have e : ifCond.holds .lt x = if_icmp.holds .lt x 0 := rfl
  rw [e]; exact XT.ii_lt_f h
theorem Go.if_lt {o : Int} {x : Int32} (q1 q2 : Nat) (hd : decode code pc = .ok (.ifCond .lt o, 3)) (ho : 0 ≤ (pc : Int) + o) (h1 : ((pc : Int) + o).toNat = q1) (h2 : pc + 3 = q2) (g1 : x < 0 → GoB wf l Z y code ml ret R Q k n h q1 Ls st) (g2 : ¬ x < 0 → GoB wf l Z y code ml ret R Q k n h q2 Ls st) : GoB wf l Z y code ml ret R Q k n h pc Ls (.int x :: st) := by
  subst h2
  by_cases hc : x < 0
  · exact (g1 hc).pure fun p e s m args below meth c K T L k' n' X hT t r => XS.ifYes X.here K.1 rfl rfl (hb K.2.1 hd) rfl (if0_lt_t hc) ho h1 r
  · exact (g2 (by first | exact hc | exact Decidable.not_not.mp hc)).pure fun p e s m args below meth c K T L k' n' X hT t r => XS.ifNo X.here K.1 rfl (hb K.2.1 hd) rfl (if0_lt_f (by first | exact hc | exact Decidable.not_not.mp hc)) r
theorem if0_ge_t {x : Int32} (h : ¬ x < 0) : ifCond.holds .ge x = true := by
  have e : ifCond.holds .ge x = if_icmp.holds .ge x 0 := rfl
  rw [e]; exact XT.ii_ge_t h
theorem if0_ge_f {x : Int32} (h : x < 0) : ifCond.holds .ge x = false := by
  have e : ifCond.holds .ge x = if_icmp.holds .ge x 0 := rfl
  rw [e]; exact XT.ii_ge_f h
theorem Go.if_ge {o : Int} {x : Int32} (q1 q2 : Nat) (hd : decode code pc = .ok (.ifCond .ge o, 3)) (ho : 0 ≤ (pc : Int) + o) (h1 : ((pc : Int) + o).toNat = q1) (h2 : pc + 3 = q2) (g1 : ¬ x < 0 → GoB wf l Z y code ml ret R Q k n h q1 Ls st) (g2 : x < 0 → GoB wf l Z y code ml ret R Q k n h q2 Ls st) : GoB wf l Z y code ml ret R Q k n h pc Ls (.int x :: st) := by
  subst h2
  by_cases hc : ¬ x < 0
  · exact (g1 hc).pure fun p e s m args below meth c K T L k' n' X hT t r => XS.ifYes X.here K.1 rfl rfl (hb K.2.1 hd) rfl (if0_ge_t hc) ho h1 r
  · exact (g2 (by first | exact hc | exact Decidable.not_not.mp hc)).pure fun p e s m args below meth c K T L k' n' X hT t r => XS.ifNo X.here K.1 rfl (hb K.2.1 hd) rfl (if0_ge_f (by first | exact hc | exact Decidable.not_not.mp hc)) r
theorem if0_gt_t {x : Int32} (h : 0 < x) : ifCond.holds .gt x = true := by
  have e : ifCond.holds .gt x = if_icmp.holds .gt x 0 := rfl
  rw [e]; exact XT.ii_gt_t h
theorem if0_gt_f {x : Int32} (h : ¬ 0 < x) : ifCond.holds .gt x = false := by
  have e : ifCond.holds .gt x = if_icmp.holds .gt x 0 := rfl
  rw [e]; exact XT.ii_gt_f h
theorem Go.if_gt {o : Int} {x : Int32} (q1 q2 : Nat) (hd : decode code pc = .ok (.ifCond .gt o, 3)) (ho : 0 ≤ (pc : Int) + o) (h1 : ((pc : Int) + o).toNat = q1) (h2 : pc + 3 = q2) (g1 : 0 < x → GoB wf l Z y code ml ret R Q k n h q1 Ls st) (g2 : ¬ 0 < x → GoB wf l Z y code ml ret R Q k n h q2 Ls st) : GoB wf l Z y code ml ret R Q k n h pc Ls (.int x :: st) := by
  subst h2
  by_cases hc : 0 < x
  · exact (g1 hc).pure fun p e s m args below meth c K T L k' n' X hT t r => XS.ifYes X.here K.1 rfl rfl (hb K.2.1 hd) rfl (if0_gt_t hc) ho h1 r
  · exact (g2 (by first | exact hc | exact Decidable.not_not.mp hc)).pure fun p e s m args below meth c K T L k' n' X hT t r => XS.ifNo X.here K.1 rfl (hb K.2.1 hd) rfl (if0_gt_f (by first | exact hc | exact Decidable.not_not.mp hc)) r
theorem if0_le_t {x : Int32} (h : ¬ 0 < x) : ifCond.holds .le x = true := by
  have e : ifCond.holds .le x = if_icmp.holds .le x 0 := rfl
  rw [e]; exact XT.ii_le_t h
theorem if0_le_f {x : Int32} (h : 0 < x) : ifCond.holds .le x = false := by
  have e : ifCond.holds .le x = if_icmp.holds .le x 0 := rfl
  rw [e]; exact XT.ii_le_f h
theorem Go.if_le {o : Int} {x : Int32} (q1 q2 : Nat) (hd : decode code pc = .ok (.ifCond .le o, 3)) (ho : 0 ≤ (pc : Int) + o) (h1 : ((pc : Int) + o).toNat = q1) (h2 : pc + 3 = q2) (g1 : ¬ 0 < x → GoB wf l Z y code ml ret R Q k n h q1 Ls st) (g2 : 0 < x → GoB wf l Z y code ml ret R Q k n h q2 Ls st) : GoB wf l Z y code ml ret R Q k n h pc Ls (.int x :: st) := by
  subst h2
  by_cases hc : ¬ 0 < x
  · exact (g1 hc).pure fun p e s m args below meth c K T L k' n' X hT t r => XS.ifYes X.here K.1 rfl rfl (hb K.2.1 hd) rfl (if0_le_t hc) ho h1 r
  · exact (g2 (by first | exact hc | exact Decidable.not_not.mp hc)).pure fun p e s m args below meth c K T L k' n' X hT t r => XS.ifNo X.here K.1 rfl (hb K.2.1 hd) rfl (if0_le_f (by first | exact hc | exact Decidable.not_not.mp hc)) r
theorem Go.ifnull_no {o : Int} {b : Addr} (q : Nat) (hd : decode code pc = .ok (.ifnull o, 3)) (hq : pc + 3 = q) (g : GoB wf l Z y code ml ret R Q k n h q Ls st) : GoB wf l Z y code ml ret R Q k n h pc Ls (.ref b :: st) := by
  subst hq; exact g.pure fun p e s m args below meth c K T L k' n' X hT t r => XS.ifnullNo X.here K.1 rfl (hb K.2.1 hd) rfl r
theorem Go.ifnull_yes {o : Int} (q : Nat) (hd : decode code pc = .ok (.ifnull o, 3)) (ho : 0 ≤ (pc : Int) + o) (hq : ((pc : Int) + o).toNat = q) (g : GoB wf l Z y code ml ret R Q k n h q Ls st) : GoB wf l Z y code ml ret R Q k n h pc Ls (.null :: st) :=
  g.pure fun p e s m args below meth c K T L k' n' X hT t r => XS.ifnullYes X.here K.1 rfl rfl (hb K.2.1 hd) rfl ho hq r
theorem Go.ifnonnull_yes {o : Int} {b : Addr} (q : Nat) (hd : decode code pc = .ok (.ifnonnull o, 3)) (ho : 0 ≤ (pc : Int) + o) (hq : ((pc : Int) + o).toNat = q) (g : GoB wf l Z y code ml ret R Q k n h q Ls st) : GoB wf l Z y code ml ret R Q k n h pc Ls (.ref b :: st) :=
  g.pure fun p e s m args below meth c K T L k' n' X hT t r => XT.ifnonnullYes X.here K.1 rfl rfl (hb K.2.1 hd) rfl ho hq r
theorem Go.ifnonnull_no {o : Int} (q : Nat) (hd : decode code pc = .ok (.ifnonnull o, 3)) (hq : pc + 3 = q) (g : GoB wf l Z y code ml ret R Q k n h q Ls st) : GoB wf l Z y code ml ret R Q k n h pc Ls (.null :: st) := by
  subst hq; exact g.pure fun p e s m args below meth c K T L k' n' X hT t r => XT.ifnonnullNo X.here K.1 rfl (hb K.2.1 hd) rfl r
theorem Go.acmp {cd : ACond} {o : Int} {x z : Value} (q : Nat) (same : Bool) (hd : decode code pc = .ok (.if_acmp cd o, 3)) (h1 : x.isRef = true) (h2 : z.isRef = true) (hs : decide (x = z) = same) (ho : 0 ≤ (pc : Int) + o) (hq : q = if acV cd same = true then ((pc : Int) + o).toNat else pc + 3) (g : GoB wf l Z y code ml ret R Q k n h q Ls st) : GoB wf l Z y code ml ret R Q k n h pc Ls (z :: x :: st) :=
  g.pure fun p e s m args below meth c K T L k' n' X hT t r => Jvm.RoadKit.acmp X K.1 rfl h1 h2 rfl (hb K.2.1 hd) rfl hs ho hq r
theorem Go.acmp_eq {o : Int} {x z : Addr} (q1 q2 : Nat) (hd : decode code pc = .ok (.if_acmp .eq o, 3)) (ho : 0 ≤ (pc : Int) + o) (h1 : ((pc : Int) + o).toNat = q1) (h2 : pc + 3 = q2) (g1 : x = z → GoB wf l Z y code ml ret R Q k n h q1 Ls st) (g2 : ¬ x = z → GoB wf l Z y code ml ret R Q k n h q2 Ls st) : GoB wf l Z y code ml ret R Q k n h pc Ls (.ref z :: .ref x :: st) := by
  subst h1 h2
  by_cases hc : x = z
  · exact Go.acmp _ true hd rfl rfl (by simp [hc]) ho rfl (by simpa [acV] using g1 hc)
  · exact Go.acmp _ false hd rfl rfl (by simp [hc]) ho rfl (by simpa [acV] using g2 hc)
theorem Go.acmp_ne {o : Int} {x z : Addr} (q1 q2 : Nat) (hd : decode code pc = .ok (.if_acmp .ne o, 3)) (ho : 0 ≤ (pc : Int) + o) (h1 : ((pc : Int) + o).toNat = q1) (h2 : pc + 3 = q2) (g1 : ¬ x = z → GoB wf l Z y code ml ret R Q k n h q1 Ls st) (g2 : x = z → GoB wf l Z y code ml ret R Q k n h q2 Ls st) : GoB wf l Z y code ml ret R Q k n h pc Ls (.ref z :: .ref x :: st) := by
  subst h1 h2
  by_cases hc : x = z
  · exact Go.acmp _ true hd rfl rfl (by simp [hc]) ho rfl (by simpa [acV] using g2 hc)
  · exact Go.acmp _ false hd rfl rfl (by simp [hc]) ho rfl (by simpa [acV] using g1 hc)

theorem Go.retV {v : Value} {t : FieldType} {i : Instr} (hd : decode code pc = .ok (i, 1)) (hret : ret = some t) (hn : narrow t v = v)
    (hi : (i = .ireturn ∧ (t = .int ∨ t = .boolean ∨ t = .byte ∨ t = .char ∨ t = .short) ∧ ∃ z, v = .int z) ∨ (i = .lreturn ∧ t = .long ∧ ∃ z, v = .long z) ∨ (i = .dreturn ∧ t = .double ∧ ∃ z, v = .double z) ∨ (i = .freturn ∧ t = .float ∧ ∃ z, v = .float z) ∨ (i = .areturn ∧ t.isReference = true ∧ v.isRef = true))
    (hk : k ≤ R.cells) (hN : n ≤ R.slots) (hQ : Q (some v) h) : GoB wf l Z y code ml ret R Q k n h pc Ls (v :: st) := by
  intro p e s m args below meth c K T L k' n' X h1 h2 N hT
  refine ⟨s, some v, T, L, k', n', Or.inl rfl, X, Nat.le_trans h1 hk, Nat.le_trans h2 hN, N, hT ▸ hQ, fun e => ?_, fun fs hl => ?_⟩
  · rw [hret] at e; cases e
  · exact retOut X K.1 (K.2.2.2.2.2.1.trans hret) hn hi (hb K.2.1 hd) hl
theorem Go.ireturn {z : Int32} {P : Int32 → Heap → Prop} (hd : decode code pc = .ok (.ireturn, 1)) (hret : ret = some .int) (hk : k ≤ R.cells) (hN : n ≤ R.slots) (hP : P z h) : GoB wf l Z y code ml ret R (QI P) k n h pc Ls (.int z :: st) :=
  Go.retV hd hret rfl (Or.inl ⟨rfl, Or.inl rfl, z, rfl⟩) hk hN ⟨z, rfl, hP⟩
theorem Go.lreturn {z : Int64} {P : Int64 → Heap → Prop} (hd : decode code pc = .ok (.lreturn, 1)) (hret : ret = some .long) (hk : k ≤ R.cells) (hN : n ≤ R.slots) (hP : P z h) : GoB wf l Z y code ml ret R (QJ P) k n h pc Ls (.long z :: st) :=
  Go.retV hd hret rfl (Or.inr (Or.inl ⟨rfl, rfl, z, rfl⟩)) hk hN ⟨z, rfl, hP⟩
theorem Go.areturn {z : Value} {t : FieldType} {P : Value → Heap → Prop} (hd : decode code pc = .ok (.areturn, 1)) (hret : ret = some t) (ht : t.isReference = true) (hz : z.isRef = true) (hk : k ≤ R.cells) (hN : n ≤ R.slots) (hP : P z h) : GoB wf l Z y code ml ret R (QR P) k n h pc Ls (z :: st) := by
  refine Go.retV hd hret ?_ (Or.inr (Or.inr (Or.inr (Or.inr ⟨rfl, ht, hz⟩)))) hk hN ⟨z, rfl, hP⟩
  cases t <;> cases z <;> first | rfl | (simp [Value.isRef] at hz)
/-- a boolean, byte, char or short: narrowed -/
theorem Go.nreturn {z z' : Int32} {t : FieldType} {P : Int32 → Heap → Prop} (hd : decode code pc = .ok (.ireturn, 1)) (hret : ret = some t) (ht : t = .boolean ∨ t = .byte ∨ t = .char ∨ t = .short) (hz : nar t z = z') (hk : k ≤ R.cells) (hN : n ≤ R.slots) (hP : P z' h) : GoB wf l Z y code ml ret R (QI P) k n h pc Ls (.int z :: st) := by
  subst hz
  intro p e s m args below meth c K T L k' n' X h1 h2 N hT
  refine ⟨s, some (.int (nar t z)), T, L, k', n', Or.inl rfl, X, Nat.le_trans h1 hk, Nat.le_trans h2 hN, N, ⟨_, rfl, hT ▸ hP⟩, fun e => ?_, fun fs hl => ?_⟩
  · rw [hret] at e; cases e
  · exact retN X K.1 (K.2.2.2.2.2.1.trans hret) ht (hb K.2.1 hd) hl
theorem Go.vreturn {P : Heap → Prop} (hd : decode code pc = .ok (.return_, 1)) (hret : ret = none) (hk : k ≤ R.cells) (hN : n ≤ R.slots) (hP : P h) : GoB wf l Z y code ml ret R (QV P) k n h pc Ls [] := by
  intro p e s m args below meth c K T L k' n' X h1 h2 N hT
  exact ⟨s, none, T, L, k', n', Or.inl rfl, X, Nat.le_trans h1 hk, Nat.le_trans h2 hN, N, ⟨rfl, hT ▸ hP⟩, fun _ => rfl, fun fs hl => X.returnOut K.1 (K.2.2.2.2.2.1.trans hret) (hb K.2.1 hd) hl⟩
/-- the whole body, as a contract -/
theorem Go.met {as' : Array Value} (hx : plainFor y = true) (hent : ∀ m, entryFrame m as' ml = mkF m 0 Ls []) (G : Go l Z y code ml ret R Q 0 0 h 0 Ls []) (ws : List Jvm.Cond) :
    MetFree l y (head1 (Jvm.Cond.code y code ml ret :: ws) R) (fun a U => a = as' ∧ Z.Warmed39 U.vm ∧ U.heap = h) (fun _ _ _ _ _ => True) (fun _ U o U' => ∃ v L, o = .returned v ∧ (Q v U'.heap ∧ Fr Z.heap.size L) ∧ FrameEnd U o U' L R.cells R.slots) := by
  refine MetFree.of_bodySF hx hisR ?_
  intro p e s m args below meth c s₁ Bd hml hP hK
  obtain ⟨rfl, hZ, hh⟩ := hP
  have X0 : Stand p l e R s m args below meth c s₁ [] 0 0 := Stand.of_body Bd
  have e0 : s₁.heap = h := by rw [← hh, Bd.state]; rfl
  have hnm := (name_of_methodNamed Bd.named Bd.method).1
  obtain ⟨s', v, T', L', k'', n'', ok', X', b1, b2, N', q, hv, stp⟩ := G p e s m args below meth c ⟨Bd.exec, Bd.bytes, hZ, findClass_of_methodNamed Bd.named, hml, Bd.returns, Bd.notSynchronized, hnm⟩ s₁ [] 0 0 X0 (Nat.le_refl _) (Nat.le_refl _) (Fr.nil _) e0
  obtain rfl : s' = s := ok'.elim id (fun q => absurd q.1 (by decide))
  obtain ⟨fs, hr, hrun, hended, hW, hsame⟩ := X'.leave (v := v) (fun hh => hv (by rw [← Bd.returns]; exact hh))
  refine ⟨_, _, castTop (hent m) (stp fs hr), hrun, hended, v, L', rfl, ⟨q, N'⟩, ⟨_, rfl⟩, hW, hsame.mono b1 b2⟩


theorem Go.getfield {i : Nat} {O nm d : String} {a : Addr} {v : Value} (q : Nat) (hd : decode code pc = .ok (.getfield i, 3)) (w : (Cond.fieldLink y.cls i O nm d).before a0 Z = true) (F : Fld Z h a O nm d v) (hq : pc + 3 = q) (g : GoB wf l Z y code ml ret R Q k n h q Ls (v :: st)) : GoB wf l Z y code ml ret R Q k n h pc Ls (.ref a :: st) := by
  subst hq
  refine GoB.move (P := fun h' => h' = h) (kk := k) (nn := n) (fun h' e => e ▸ g) ?_
  intro p e s m args below meth c K T L k' n' X h1 h2 N hT
  obtain ⟨T', X', e', s'⟩ := getF X K.1 K.2.2.1 K.2.2.2.1 (host := "") (Or.inl w) Via.refl hT F (g := mkF m pc Ls (.ref a :: st)) rfl rfl (hb K.2.1 hd)
  exact ⟨T', L, k', n', X', h1, h2, N, e', s'⟩
theorem Go.getfieldN {i : Nat} {O nm d host : String} {a : Addr} {v : Value} (q : Nat) (hd : decode code pc = .ok (.getfield i, 3)) (w : (Cond.fieldLinkNest y.cls i O nm d host).before a0 Z = true) (F : Fld Z h a O nm d v) (hq : pc + 3 = q) (g : GoB wf l Z y code ml ret R Q k n h q Ls (v :: st)) : GoB wf l Z y code ml ret R Q k n h pc Ls (.ref a :: st) := by
  subst hq
  refine GoB.move (P := fun h' => h' = h) (kk := k) (nn := n) (fun h' e => e ▸ g) ?_
  intro p e s m args below meth c K T L k' n' X h1 h2 N hT
  obtain ⟨T', X', e', s'⟩ := getF X K.1 K.2.2.1 K.2.2.2.1 (host := host) (Or.inr w) Via.refl hT F (g := mkF m pc Ls (.ref a :: st)) rfl rfl (hb K.2.1 hd)
  exact ⟨T', L, k', n', X', h1, h2, N, e', s'⟩
theorem Go.getfieldU {i : Nat} {R0 O nm d : String} {a : Addr} {v : Value} (q : Nat) (hd : decode code pc = .ok (.getfield i, 3)) (w : (Cond.fieldLink y.cls i R0 nm d).before a0 Z = true) (via : Via Z R0 O nm d) (F : Fld Z h a O nm d v) (hq : pc + 3 = q) (g : GoB wf l Z y code ml ret R Q k n h q Ls (v :: st)) : GoB wf l Z y code ml ret R Q k n h pc Ls (.ref a :: st) := by
  subst hq
  refine GoB.move (P := fun h' => h' = h) (kk := k) (nn := n) (fun h' e => e ▸ g) ?_
  intro p e s m args below meth c K T L k' n' X h1 h2 N hT
  obtain ⟨T', X', e', s'⟩ := getF X K.1 K.2.2.1 K.2.2.2.1 (host := "") (Or.inl w) via hT F (g := mkF m pc Ls (.ref a :: st)) rfl rfl (hb K.2.1 hd)
  exact ⟨T', L, k', n', X', h1, h2, N, e', s'⟩
theorem Go.getstatic {i : Nat} {O nm d : String} {v : Value} (q : Nat) (hd : decode code pc = .ok (.getstatic i, 3)) (w : (Cond.fieldLink y.cls i O nm d).before a0 Z = true) (F : Sta Z h O nm d v) (hq : pc + 3 = q) (g : GoB wf l Z y code ml ret R Q k n h q Ls (v :: st)) : GoB wf l Z y code ml ret R Q k n h pc Ls st := by
  subst hq
  refine GoB.move (P := fun h' => h' = h) (kk := k) (nn := n) (fun h' e => e ▸ g) ?_
  intro p e s m args below meth c K T L k' n' X h1 h2 N hT
  obtain ⟨T', X', e', s'⟩ := getS X K.1 K.2.2.1 (host := "") K.2.2.2.1 w Via.refl hT F (g := mkF m pc Ls st) rfl (hb K.2.1 hd)
  exact ⟨T', L, k', n', X', h1, h2, N, e', s'⟩
theorem Go.putfield {i kk : Nat} {C O nm d : String} {ty : FieldType} {a : Addr} {v old : Value} (q : Nat) (hd : decode code pc = .ok (.putfield i, 3)) (w : (Cond.fieldLink y.cls i O nm d).before a0 Z = true) (F : Fld Z h a O nm d old) (E : Exa Z h a C) (hL : (Cond.lays C O nm d).before a0 Z = true ∨ ((Cond.laysFinal C O nm d).before a0 Z = true ∧ y.cls = O ∧ y.name = "<init>"))
    (wi : (Cond.instantiable C kk).before a0 Z = true) (hty : parseFieldDescriptor d = some ty) (hn : narrow ty v = v) (hf : fits ty v = true) (hge : Z.heap.size ≤ a) (hq : pc + 3 = q)
    (g : ∀ h', Wr h h' a (Jvm.RoadKit.slotOf Z O nm d) v → GoB wf l Z y code ml ret R Q k n h' q Ls st) : GoB wf l Z y code ml ret R Q k n h pc Ls (v :: .ref a :: st) := by
  subst hq
  refine GoB.move (P := fun h' => Wr h h' a (Jvm.RoadKit.slotOf Z O nm d) v) (kk := k) (nn := n) g ?_
  intro p e s m args below meth c K T L k' n' X h1 h2 N hT
  obtain ⟨T', h', X', e', W', s'⟩ := putF X K.1 K.2.2.1 K.2.2.2.1 (host := "") (Or.inl w) Via.refl hT F E (hL.imp id fun ⟨a1, a2, a3⟩ => ⟨a1, a2, K.2.2.2.2.2.2.2.trans a3⟩) wi hty hn hf (g := mkF m pc Ls (v :: .ref a :: st)) rfl rfl (hb K.2.1 hd)
  exact ⟨T', _, k', n', X', h1, h2, Fr.snoc X' N hge, e' ▸ W', s'⟩
theorem Go.putfieldU {i kk : Nat} {R0 C O nm d : String} {ty : FieldType} {a : Addr} {v old : Value} (q : Nat) (hd : decode code pc = .ok (.putfield i, 3)) (w : (Cond.fieldLink y.cls i R0 nm d).before a0 Z = true) (via : Via Z R0 O nm d) (F : Fld Z h a O nm d old) (E : Exa Z h a C) (hL : (Cond.lays C O nm d).before a0 Z = true ∨ ((Cond.laysFinal C O nm d).before a0 Z = true ∧ y.cls = O ∧ y.name = "<init>"))
    (wi : (Cond.instantiable C kk).before a0 Z = true) (hty : parseFieldDescriptor d = some ty) (hn : narrow ty v = v) (hf : fits ty v = true) (hge : Z.heap.size ≤ a) (hq : pc + 3 = q)
    (g : ∀ h', Wr h h' a (Jvm.RoadKit.slotOf Z O nm d) v → GoB wf l Z y code ml ret R Q k n h' q Ls st) : GoB wf l Z y code ml ret R Q k n h pc Ls (v :: .ref a :: st) := by
  subst hq
  refine GoB.move (P := fun h' => Wr h h' a (Jvm.RoadKit.slotOf Z O nm d) v) (kk := k) (nn := n) g ?_
  intro p e s m args below meth c K T L k' n' X h1 h2 N hT
  obtain ⟨T', h', X', e', W', s'⟩ := putF X K.1 K.2.2.1 K.2.2.2.1 (host := "") (Or.inl w) via hT F E (hL.imp id fun ⟨a1, a2, a3⟩ => ⟨a1, a2, K.2.2.2.2.2.2.2.trans a3⟩) wi hty hn hf (g := mkF m pc Ls (v :: .ref a :: st)) rfl rfl (hb K.2.1 hd)
  exact ⟨T', _, k', n', X', h1, h2, Fr.snoc X' N hge, e' ▸ W', s'⟩
/-- a field that narrows (boolean, byte, char, short) -/
theorem Go.putfieldN {i kk : Nat} {C O nm d : String} {ty : FieldType} {a : Addr} {v v' old : Value} (q : Nat) (hd : decode code pc = .ok (.putfield i, 3)) (w : (Cond.fieldLink y.cls i O nm d).before a0 Z = true) (F : Fld Z h a O nm d old) (E : Exa Z h a C) (hL : (Cond.lays C O nm d).before a0 Z = true ∨ ((Cond.laysFinal C O nm d).before a0 Z = true ∧ y.cls = O ∧ y.name = "<init>"))
    (wi : (Cond.instantiable C kk).before a0 Z = true) (hty : parseFieldDescriptor d = some ty) (hn : narrow ty v = v') (hf : fits ty v' = true) (hge : Z.heap.size ≤ a) (hq : pc + 3 = q)
    (g : ∀ h', Wr h h' a (Jvm.RoadKit.slotOf Z O nm d) v' → GoB wf l Z y code ml ret R Q k n h' q Ls st) : GoB wf l Z y code ml ret R Q k n h pc Ls (v :: .ref a :: st) := by
  subst hq
  refine GoB.move (P := fun h' => Wr h h' a (Jvm.RoadKit.slotOf Z O nm d) v') (kk := k) (nn := n) g ?_
  intro p e s m args below meth c K T L k' n' X h1 h2 N hT
  obtain ⟨T', h', X', e', W', s'⟩ := putFN X K.1 K.2.2.1 K.2.2.2.1 w Via.refl hT F E (hL.imp id fun ⟨a1, a2, a3⟩ => ⟨a1, a2, K.2.2.2.2.2.2.2.trans a3⟩) wi hty hn hf (g := mkF m pc Ls (v :: .ref a :: st)) rfl rfl (hb K.2.1 hd)
  exact ⟨T', _, k', n', X', h1, h2, Fr.snoc X' N hge, e' ▸ W', s'⟩
theorem Go.new {i sz : Nat} {C : String} (q : Nat) (hd : decode code pc = .ok (.new i, 3)) (w : (Cond.classLink y.cls i C).before a0 Z = true) (wi : (Cond.instantiable C sz).before a0 Z = true) (wz : (Cond.initialized C).before a0 Z = true) (hk : k + 1 ≤ R.cells) (hN : n + sz ≤ R.slots) (hq : pc + 3 = q)
    (g : ∀ (a : Addr) h', a = h.size → Ext h h' → Exa Z h' a C → (∀ {O nm d : String} {ty : FieldType}, Laid Z a0 C O nm d → parseFieldDescriptor d = some ty → Fld Z h' a O nm d (defaultValue ty)) → GoB wf l Z y code ml ret R Q (k + 1) (n + sz) h' q Ls (.ref a :: st)) : GoB wf l Z y code ml ret R Q k n h pc Ls st := by
  subst hq
  refine GoB.move (P := fun h' => Ext h h' ∧ Exa Z h' h.size C ∧ (∀ {O nm d : String} {ty : FieldType}, Laid Z a0 C O nm d → parseFieldDescriptor d = some ty → Fld Z h' h.size O nm d (defaultValue ty))) (kk := k + 1) (nn := n + sz) (fun h' p => g h.size h' rfl p.1 p.2.1 p.2.2) ?_
  intro p e s m args below meth c K T L k' n' X h1 h2 N hT
  obtain ⟨T', h', X', e', E', A', D', -, s'⟩ := newO X K.1 K.2.2.1 K.2.2.2.1 w wi wz hT (g := mkF m pc Ls st) rfl (hb K.2.1 hd) (Nat.le_trans (Nat.add_le_add_right h1 1) hk) (Nat.le_trans (Nat.add_le_add_right h2 sz) hN)
  subst e'
  exact ⟨T', L, k' + 1, n' + sz, X', Nat.add_le_add_right h1 1, Nat.add_le_add_right h2 sz, N, ⟨E', A', D'⟩, s'⟩
theorem Go.initO {i : Nat} {a : Addr} (W : Nat) (q : Nat) (hd : decode code pc = .ok (.invokespecial i, 3)) (w1 : (Cond.methodLink y.cls i Lib.objectInit).before a0 Z = true) (w2 : (Cond.instanceMethod Lib.objectInit).before a0 Z = true) (w3 : (Cond.code Lib.objectInit ⟨#[0xb1]⟩ 1 none).before a0 Z = true)
    (hsz : Ls.size = ml) (hf : 1 ≤ R.frames) (hW : (st.map fun v => v.category).sum ≤ W) (hl : W + 12 ≤ R.locals) (hq : pc + 3 = q) (g : GoB wf l Z y code ml ret R Q k n h q Ls st) : GoB wf l Z y code ml ret R Q k n h pc Ls (.ref a :: st) := by
  subst hq
  refine GoB.move (P := fun h' => h' = h) (kk := k) (nn := n) (fun h' e => e ▸ g) ?_
  intro p e s m args below meth c K T L k' n' X h1 h2 N hT
  obtain ⟨T', X', e', s'⟩ := Jvm.RoadKit.initO X K.1 K.2.2.1 K.2.2.2.1 w1 w2 w3 hT (g := mkF m pc Ls (.ref a :: st)) rfl (hsz.trans K.2.2.2.2.1.symm) rfl (hb K.2.1 hd) hf (W := W) (by show 2 * 0 + _ ≤ _; rw [Nat.mul_zero, Nat.zero_add]; exact hW) hl
  exact ⟨T', L, k', n', X', h1, h2, N, e', s'⟩


section Calls
variable {y' : MethodName} {code' : ByteArray} {ml' : Nat} {ret' : Option FieldType} {R' : Room} {Q' : Option Value → Heap → Prop} {Ls' : Array Slot} {i W : Nat}
theorem Go.callS (argsL : List Value) (rest : List Value) (q : Nat) (hd : decode code pc = .ok (.invokestatic i, 3)) (w1 : (Cond.methodLink y.cls i y').before a0 Z = true) (w2 : (Cond.static y').before a0 Z = true) (w3 : (Cond.initialized y'.cls).before a0 Z = true) (w4 : (Cond.code y' code' ml' ret').before a0 Z = true)
    (hpl : plainFor y' = true) (hy : y'.cls ≠ "java/lang/invoke/MethodHandle" ∧ y'.cls ≠ "java/lang/invoke/VarHandle") (hlen : ∀ sig, parseMethodDescriptor y'.desc = some sig → argsL.length = sig.parameters.length) (hst : st = argsL.reverse ++ rest) (hent : ∀ m, entryFrame m argsL.toArray ml' = mkF m 0 Ls' [])
    (G : Go l Z y' code' ml' ret' R' Q' 0 0 h 0 Ls' []) (W : Nat) (hsz : Ls.size = ml) (hW : (rest.map fun v => v.category).sum ≤ W) (hf : R'.frames + 1 ≤ R.frames) (hl : W + (ml' + 11) + R'.locals ≤ R.locals) (hk : k + R'.cells ≤ R.cells) (hN : n + R'.slots ≤ R.slots) (hq : pc + 3 = q)
    (g : ∀ v h', Q' v h' → GoB wf l Z y code ml ret R Q (k + R'.cells) (n + R'.slots) h' q Ls (v.toList ++ rest)) : GoB wf l Z y code ml ret R Q k n h pc Ls st := by
  subst hq
  intro p e s m args below meth c K T L k' n' X h1 h2 N hT
  obtain ⟨v, vm₁, ⟨T', L', k'', n''⟩, -, X', ⟨Lc, ⟨hQ, N'⟩, e1, e2, e3⟩, s'⟩ := Jvm.LawKit.callS X K.1 K.2.2.2.1 (mvT K.2.2.1 w1) (mvT K.2.2.1 w2) (mvT K.2.2.1 w3) (mvT K.2.2.1 w4) hy (backOf (W := W) (Q := fun v h L => Q' v h ∧ Fr Z.heap.size L) (Go.met hpl hent G []) K.2.2.1 w4 w3 hf hl) (g := mkF m pc Ls st) rfl (hsz.trans K.2.2.2.2.1.symm) (argsL := argsL) (rest := rest) hlen hst (by show 2 * 0 + _ ≤ _; rw [Nat.mul_zero, Nat.zero_add]; exact hW) (hb K.2.1 hd) (fun _ _ => ⟨rfl, hT, Nat.le_trans (Nat.add_le_add_right h1 _) hk, Nat.le_trans (Nat.add_le_add_right h2 _) hN⟩)
  dsimp only [Pt.U, Pt.locs, Pt.cells, Pt.slots] at X' e1 e2 e3 s' hQ
  subst e1 e2 e3
  obtain ⟨s2, v2, T2, L2, k2, n2, ok2, X2, b1, b2, N2, q2, hv, stp⟩ := g v _ hQ p e s m args below meth c K T' _ _ _ X' (Nat.add_le_add_right h1 _) (Nat.add_le_add_right h2 _) (Fr.app N N') rfl
  exact ⟨s2, v2, T2, L2, k2, n2, ok2, X2, b1, b2, N2, q2, hv, fun fs hl => s' _ (stp fs hl)⟩
theorem Go.callC {a : Addr} (argsL : List Value) (rest : List Value) (q : Nat) (hd : decode code pc = .ok (.invokespecial i, 3)) (hy1 : y'.name = "<init>") (w1 : (Cond.methodLink y.cls i y').before a0 Z = true) (w2 : (Cond.instanceMethod y').before a0 Z = true) (w3 : (Cond.initialized y'.cls).before a0 Z = true) (w4 : (Cond.code y' code' ml' none).before a0 Z = true)
    (hpl : plainFor y' = true) (hy : y'.cls ≠ "java/lang/invoke/MethodHandle" ∧ y'.cls ≠ "java/lang/invoke/VarHandle") (hlen : ∀ sig, parseMethodDescriptor y'.desc = some sig → argsL.length = sig.parameters.length) (hst : st = argsL.reverse ++ .ref a :: rest) (hent : ∀ m, entryFrame m (.ref a :: argsL).toArray ml' = mkF m 0 Ls' [])
    (P' : Heap → Prop) (G : Go l Z y' code' ml' none R' (QV P') 0 0 h 0 Ls' []) (W : Nat) (hsz : Ls.size = ml) (hW : (rest.map fun v => v.category).sum ≤ W) (hf : R'.frames + 1 ≤ R.frames) (hl : W + (ml' + 11) + R'.locals ≤ R.locals) (hk : k + R'.cells ≤ R.cells) (hN : n + R'.slots ≤ R.slots) (hq : pc + 3 = q)
    (g : ∀ h', P' h' → GoB wf l Z y code ml ret R Q (k + R'.cells) (n + R'.slots) h' q Ls rest) : GoB wf l Z y code ml ret R Q k n h pc Ls st := by
  subst hq
  intro p e s m args below meth c K T L k' n' X h1 h2 N hT
  obtain ⟨v, vm₁, ⟨T', L', k'', n''⟩, -, X', ⟨Lc, ⟨⟨rfl, hQ⟩, N'⟩, e1, e2, e3⟩, s'⟩ := X.specialBack K.1 hy1 K.2.2.2.1 (mvT K.2.2.1 w1) (mvT K.2.2.1 w2) (mvT K.2.2.1 w4) hy (backOf (W := W) (Q := fun v h L => QV P' v h ∧ Fr Z.heap.size L) (Go.met hpl hent G []) K.2.2.1 w4 w3 hf hl) (g := mkF m pc Ls st) rfl (hsz.trans K.2.2.2.2.1.symm) (Steps.refl _) (a := a) (argsL := argsL) (rest := rest) hlen hst (by show 2 * 0 + _ ≤ _; rw [Nat.mul_zero, Nat.zero_add]; exact hW) (hb K.2.1 hd) (fun _ _ => ⟨rfl, hT, Nat.le_trans (Nat.add_le_add_right h1 _) hk, Nat.le_trans (Nat.add_le_add_right h2 _) hN⟩)
  dsimp only [Pt.U, Pt.locs, Pt.cells, Pt.slots] at X' e1 e2 e3 s' hQ
  subst e1 e2 e3
  obtain ⟨s2, v2, T2, L2, k2, n2, ok2, X2, b1, b2, N2, q2, hv, stp⟩ := g _ hQ p e s m args below meth c K T' _ _ _ X' (Nat.add_le_add_right h1 _) (Nat.add_le_add_right h2 _) (Fr.app N N') rfl
  exact ⟨s2, v2, T2, L2, k2, n2, ok2, X2, b1, b2, N2, q2, hv, fun fs hl => s'.trans (stp fs hl)⟩
theorem Go.callV {a : Addr} {C : String} (argsL : List Value) (rest : List Value) (q : Nat) (hd : decode code pc = .ok (.invokevirtual i, 3)) (w1 : (Cond.methodLink y.cls i y').before a0 Z = true) (w1' : (Cond.declares y').before a0 Z = true) (w1s : (Cond.selects C y' y').before a0 Z = true) (w2 : (Cond.instanceMethod y').before a0 Z = true) (w3 : (Cond.initialized y'.cls).before a0 Z = true) (w4 : (Cond.code y' code' ml' ret').before a0 Z = true) (E : Exa Z h a C)
    (hpl : plainFor y' = true) (hy : y'.cls ≠ "java/lang/invoke/MethodHandle" ∧ y'.cls ≠ "java/lang/invoke/VarHandle") (hlen : ∀ sig, parseMethodDescriptor y'.desc = some sig → argsL.length = sig.parameters.length) (hst : st = argsL.reverse ++ .ref a :: rest) (hent : ∀ m, entryFrame m (.ref a :: argsL).toArray ml' = mkF m 0 Ls' [])
    (G : Go l Z y' code' ml' ret' R' Q' 0 0 h 0 Ls' []) (W : Nat) (hsz : Ls.size = ml) (hW : (rest.map fun v => v.category).sum ≤ W) (hf : R'.frames + 1 ≤ R.frames) (hl : W + (ml' + 11) + R'.locals ≤ R.locals) (hk : k + R'.cells ≤ R.cells) (hN : n + R'.slots ≤ R.slots) (hq : pc + 3 = q)
    (g : ∀ v h', Q' v h' → GoB wf l Z y code ml ret R Q (k + R'.cells) (n + R'.slots) h' q Ls (v.toList ++ rest)) : GoB wf l Z y code ml ret R Q k n h pc Ls st := by
  subst hq
  intro p e s m args below meth c K T L k' n' X h1 h2 N hT
  obtain ⟨cq, kq, qa, qb, qc⟩ := isOf K.2.2.1 hT E
  obtain ⟨v, vm₁, ⟨T', L', k'', n''⟩, -, X', ⟨Lc, ⟨hQ, N'⟩, e1, e2, e3⟩, s'⟩ := X.virtualBack K.1 K.2.2.2.1 (mvT K.2.2.1 w1) (mvT K.2.2.1 w1') (notFace_of_selects (args := #[]) (mvT K.2.2.1 w1s)) (mvT K.2.2.1 w1s) (mvT K.2.2.1 w2) hy (backOf (W := W) (Q := fun v h L => Q' v h ∧ Fr Z.heap.size L) (Go.met hpl hent G []) K.2.2.1 w4 w3 hf hl) qa qc (g := mkF m pc Ls st) rfl (hsz.trans K.2.2.2.2.1.symm) (Steps.refl _) (argsL := argsL) (rest := rest) hlen hst (by show 2 * 0 + _ ≤ _; rw [Nat.mul_zero, Nat.zero_add]; exact hW) (hb K.2.1 hd) (fun _ _ => ⟨rfl, hT, Nat.le_trans (Nat.add_le_add_right h1 _) hk, Nat.le_trans (Nat.add_le_add_right h2 _) hN⟩)
  dsimp only [Pt.U, Pt.locs, Pt.cells, Pt.slots] at X' e1 e2 e3 s' hQ
  subst e1 e2 e3
  obtain ⟨s2, v2, T2, L2, k2, n2, ok2, X2, b1, b2, N2, q2, hv, stp⟩ := g v _ hQ p e s m args below meth c K T' _ _ _ X' (Nat.add_le_add_right h1 _) (Nat.add_le_add_right h2 _) (Fr.app N N') rfl
  exact ⟨s2, v2, T2, L2, k2, n2, ok2, X2, b1, b2, N2, q2, hv, fun fs hl => s'.trans (stp fs hl)⟩
theorem Go.callU {a : Addr} {C owner : String} {yr : MethodName} (argsL : List Value) (rest : List Value) (q : Nat) (hd : decode code pc = .ok (.invokevirtual i, 3)) (w1 : (Cond.methodLink y.cls i yr).before a0 Z = true) (w1m : (Cond.sameMethod yr.cls owner yr.name yr.desc).before a0 Z = true) (w1' : (Cond.declares ⟨owner, yr.name, yr.desc⟩).before a0 Z = true) (w1s : (Cond.selects C yr y').before a0 Z = true) (w2 : (Cond.instanceMethod y').before a0 Z = true) (w3 : (Cond.initialized y'.cls).before a0 Z = true) (w4 : (Cond.code y' code' ml' ret').before a0 Z = true) (E : Exa Z h a C)
    (hpl : plainFor y' = true) (hy : owner ≠ "java/lang/invoke/MethodHandle" ∧ owner ≠ "java/lang/invoke/VarHandle") (hlen : ∀ sig, parseMethodDescriptor yr.desc = some sig → argsL.length = sig.parameters.length) (hst : st = argsL.reverse ++ .ref a :: rest) (hent : ∀ m, entryFrame m (.ref a :: argsL).toArray ml' = mkF m 0 Ls' [])
    (G : Go l Z y' code' ml' ret' R' Q' 0 0 h 0 Ls' []) (W : Nat) (hsz : Ls.size = ml) (hW : (rest.map fun v => v.category).sum ≤ W) (hf : R'.frames + 1 ≤ R.frames) (hl : W + (ml' + 11) + R'.locals ≤ R.locals) (hk : k + R'.cells ≤ R.cells) (hN : n + R'.slots ≤ R.slots) (hq : pc + 3 = q)
    (g : ∀ v h', Q' v h' → GoB wf l Z y code ml ret R Q (k + R'.cells) (n + R'.slots) h' q Ls (v.toList ++ rest)) : GoB wf l Z y code ml ret R Q k n h pc Ls st := by
  subst hq
  intro p e s m args below meth c K T L k' n' X h1 h2 N hT
  obtain ⟨cq, kq, qa, qb, qc⟩ := isOf K.2.2.1 hT E
  obtain ⟨v, vm₁, ⟨T', L', k'', n''⟩, -, X', ⟨Lc, ⟨hQ, N'⟩, e1, e2, e3⟩, s'⟩ := X.virtualBackUp K.1 K.2.2.2.1 (mvT K.2.2.1 w1) (mvT K.2.2.1 w1m) (mvT K.2.2.1 w1') hy (mvT K.2.2.1 w1s) (mvT K.2.2.1 w2) (backOf (W := W) (Q := fun v h L => Q' v h ∧ Fr Z.heap.size L) (Go.met hpl hent G []) K.2.2.1 w4 w3 hf hl) qa qc (g := mkF m pc Ls st) rfl (hsz.trans K.2.2.2.2.1.symm) (Steps.refl _) (argsL := argsL) (rest := rest) hlen hst (by show 2 * 0 + _ ≤ _; rw [Nat.mul_zero, Nat.zero_add]; exact hW) (hb K.2.1 hd) (fun _ _ => ⟨rfl, hT, Nat.le_trans (Nat.add_le_add_right h1 _) hk, Nat.le_trans (Nat.add_le_add_right h2 _) hN⟩)
  dsimp only [Pt.U, Pt.locs, Pt.cells, Pt.slots] at X' e1 e2 e3 s' hQ
  subst e1 e2 e3
  obtain ⟨s2, v2, T2, L2, k2, n2, ok2, X2, b1, b2, N2, q2, hv, stp⟩ := g v _ hQ p e s m args below meth c K T' _ _ _ X' (Nat.add_le_add_right h1 _) (Nat.add_le_add_right h2 _) (Fr.app N N') rfl
  exact ⟨s2, v2, T2, L2, k2, n2, ok2, X2, b1, b2, N2, q2, hv, fun fs hl => s'.trans (stp fs hl)⟩
theorem own_ni {C : String} {z z' : MethodName} (ws : (Cond.selects C z z').before a0 Z = true) : ∃ (c : ClassId) (kk : Class), Z.vm.findClass z'.cls = some c ∧ Z.vm.classes[c]? = some kk ∧ kk.isInterface = false := by
  obtain ⟨c2, r2, m2, -, -, q3, -, kP, hkP, hkPi⟩ := Cond.selects_spec ws
  exact ⟨_, kP, findClass_of_methodNamed q3, hkP, hkPi⟩
theorem own_same {C : String} {z z' y' : MethodName} (ws : (Cond.selects C z z').before a0 Z = true) (hz : z'.cls = y'.cls) (wi : (Cond.instanceMethod y').before a0 Z = true) (hy : y'.cls ≠ "java/lang/invoke/MethodHandle" ∧ y'.cls ≠ "java/lang/invoke/VarHandle") : (Cond.sameMethod y'.cls y'.cls y'.name y'.desc).before a0 Z = true := by
  obtain ⟨c, kk, h1, h2, h3⟩ := own_ni ws
  rw [hz] at h1
  obtain ⟨mk, methM, hnamed, -, -, -⟩ := Cond.instanceMethod_spec wi
  have hfound := State.methodFound?_of_named hnamed hy
  simp only [Cond.before, Cond.holds, Cond.value, h1, hfound, hnamed, h2]
  simp; exact h3
theorem own_selp {C : String} {z z' y' : MethodName} (ws : (Cond.selects C z z').before a0 Z = true) (hz : z'.cls = y'.cls) (wi : (Cond.instanceMethod y').before a0 Z = true) (wp : (Cond.privateMethod y').before a0 Z = true) (hy : y'.cls ≠ "java/lang/invoke/MethodHandle" ∧ y'.cls ≠ "java/lang/invoke/VarHandle") : (Cond.selects y'.cls y' y').before a0 Z = true := by
  obtain ⟨c, kk, h1, h2, h3⟩ := own_ni ws
  rw [hz] at h1
  exact selects_self_of_private h1 h2 h3 (Cond.privateMethod_at wp) wi hy
theorem Go.callP {a : Addr} {C : String} (argsL : List Value) (rest : List Value) (q : Nat) (hd : decode code pc = .ok (.invokespecial i, 3)) (hn : y'.name ≠ "<init>") (w1 : (Cond.methodLink y.cls i y').before a0 Z = true) (w1m : (Cond.sameMethod y'.cls y'.cls y'.name y'.desc).before a0 Z = true) (w1s : (Cond.superclass y.cls y'.cls).before a0 Z = true) (w2 : (Cond.instanceMethod y').before a0 Z = true) (w3 : (Cond.initialized y'.cls).before a0 Z = true) (w4 : (Cond.code y' code' ml' ret').before a0 Z = true) (E : Exa Z h a C)
    (hpl : plainFor y' = true) (hy : y'.cls ≠ "java/lang/invoke/MethodHandle" ∧ y'.cls ≠ "java/lang/invoke/VarHandle") (hlen : ∀ sig, parseMethodDescriptor y'.desc = some sig → argsL.length = sig.parameters.length) (hst : st = argsL.reverse ++ .ref a :: rest) (hent : ∀ m, entryFrame m (.ref a :: argsL).toArray ml' = mkF m 0 Ls' [])
    (G : Go l Z y' code' ml' ret' R' Q' 0 0 h 0 Ls' []) (W : Nat) (hsz : Ls.size = ml) (hW : (rest.map fun v => v.category).sum ≤ W) (hf : R'.frames + 1 ≤ R.frames) (hl : W + (ml' + 11) + R'.locals ≤ R.locals) (hk : k + R'.cells ≤ R.cells) (hN : n + R'.slots ≤ R.slots) (hq : pc + 3 = q)
    (g : ∀ v h', Q' v h' → GoB wf l Z y code ml ret R Q (k + R'.cells) (n + R'.slots) h' q Ls (v.toList ++ rest)) : GoB wf l Z y code ml ret R Q k n h pc Ls st := by
  subst hq
  intro p e s m args below meth c K T L k' n' X h1 h2 N hT
  obtain ⟨v, vm₁, ⟨T', L', k'', n''⟩, -, X', ⟨Lc, ⟨hQ, N'⟩, e1, e2, e3⟩, s'⟩ := superBack X K.1 K.2.2.1 K.2.2.2.1 w1 w1m w2 w1s hn (backOf (W := W) (Q := fun v h L => Q' v h ∧ Fr Z.heap.size L) (Go.met hpl hent G []) K.2.2.1 w4 w3 hf hl) hT (Ins.self E) (g := mkF m pc Ls st) rfl (hsz.trans K.2.2.2.2.1.symm) w4 (argsL := argsL) (rest := rest) hlen hst (by show 2 * 0 + _ ≤ _; rw [Nat.mul_zero, Nat.zero_add]; exact hW) (hb K.2.1 hd) (fun _ _ => ⟨rfl, hT, Nat.le_trans (Nat.add_le_add_right h1 _) hk, Nat.le_trans (Nat.add_le_add_right h2 _) hN⟩)
  dsimp only [Pt.U, Pt.locs, Pt.cells, Pt.slots] at X' e1 e2 e3 s' hQ
  subst e1 e2 e3
  obtain ⟨s2, v2, T2, L2, k2, n2, ok2, X2, b1, b2, N2, q2, hv, stp⟩ := g v _ hQ p e s m args below meth c K T' _ _ _ X' (Nat.add_le_add_right h1 _) (Nat.add_le_add_right h2 _) (Fr.app N N') rfl
  exact ⟨s2, v2, T2, L2, k2, n2, ok2, X2, b1, b2, N2, q2, hv, fun fs hl => s'.trans (stp fs hl)⟩
theorem Go.callQ {a : Addr} {C : String} (argsL : List Value) (rest : List Value) (q : Nat) (hd : decode code pc = .ok (.invokevirtual i, 3)) (w1 : (Cond.methodLink y.cls i y').before a0 Z = true) (w1p : (Cond.privateMethod y').before a0 Z = true) (w1s : (Cond.selects y'.cls y' y').before a0 Z = true) (w2 : (Cond.instanceMethod y').before a0 Z = true) (w3 : (Cond.initialized y'.cls).before a0 Z = true) (w4 : (Cond.code y' code' ml' ret').before a0 Z = true) (E : Exa Z h a C)
    (hpl : plainFor y' = true) (hy : y'.cls ≠ "java/lang/invoke/MethodHandle" ∧ y'.cls ≠ "java/lang/invoke/VarHandle") (hlen : ∀ sig, parseMethodDescriptor y'.desc = some sig → argsL.length = sig.parameters.length) (hst : st = argsL.reverse ++ .ref a :: rest) (hent : ∀ m, entryFrame m (.ref a :: argsL).toArray ml' = mkF m 0 Ls' [])
    (G : Go l Z y' code' ml' ret' R' Q' 0 0 h 0 Ls' []) (W : Nat) (hsz : Ls.size = ml) (hW : (rest.map fun v => v.category).sum ≤ W) (hf : R'.frames + 1 ≤ R.frames) (hl : W + (ml' + 11) + R'.locals ≤ R.locals) (hk : k + R'.cells ≤ R.cells) (hN : n + R'.slots ≤ R.slots) (hq : pc + 3 = q)
    (g : ∀ v h', Q' v h' → GoB wf l Z y code ml ret R Q (k + R'.cells) (n + R'.slots) h' q Ls (v.toList ++ rest)) : GoB wf l Z y code ml ret R Q k n h pc Ls st := by
  subst hq
  intro p e s m args below meth c K T L k' n' X h1 h2 N hT
  obtain ⟨cell, qa, qb⟩ := E.cell
  obtain ⟨v, vm₁, ⟨T', L', k'', n''⟩, -, X', ⟨Lc, ⟨hQ, N'⟩, e1, e2, e3⟩, s'⟩ := X.privateBack K.1 K.2.2.2.1 (mvT K.2.2.1 w1) (mvT K.2.2.1 w2) (mvT K.2.2.1 w1s) (Cond.privateMethod_at (args := #[]) (mvP K.2.2.1 w1p)) (mvT K.2.2.1 w4) hy (backOf (W := W) (Q := fun v h L => Q' v h ∧ Fr Z.heap.size L) (Go.met hpl hent G []) K.2.2.1 w4 w3 hf hl) (g := mkF m pc Ls st) rfl (hsz.trans K.2.2.2.2.1.symm) (Steps.refl _) (a := a) (cell := cell) (by rw [hT]; exact qa) qb (argsL := argsL) (rest := rest) hlen hst (by show 2 * 0 + _ ≤ _; rw [Nat.mul_zero, Nat.zero_add]; exact hW) (hb K.2.1 hd) (fun _ _ => ⟨rfl, hT, Nat.le_trans (Nat.add_le_add_right h1 _) hk, Nat.le_trans (Nat.add_le_add_right h2 _) hN⟩)
  dsimp only [Pt.U, Pt.locs, Pt.cells, Pt.slots] at X' e1 e2 e3 s' hQ
  subst e1 e2 e3
  obtain ⟨s2, v2, T2, L2, k2, n2, ok2, X2, b1, b2, N2, q2, hv, stp⟩ := g v _ hQ p e s m args below meth c K T' _ _ _ X' (Nat.add_le_add_right h1 _) (Nat.add_le_add_right h2 _) (Fr.app N N') rfl
  exact ⟨s2, v2, T2, L2, k2, n2, ok2, X2, b1, b2, N2, q2, hv, fun fs hl => s'.trans (stp fs hl)⟩
theorem own_nf {s : State} {args : Array Value} {C : String} {z z' yr : MethodName} (ws : (Cond.selects C z z').before args s = true) (hz : z'.cls = yr.cls) : NotFace s yr := fun r0 hn => by
  obtain ⟨c2, r2, m2, -, -, q3, -, kP, hkP, hkPi⟩ := Cond.selects_spec ws
  have e1 := findClass_of_methodNamed q3
  have e2 := findClass_of_methodNamed hn
  rw [hz] at e1
  have e3 := Option.some.inj (e1.symm.trans e2)
  rw [e3] at hkP
  exact ⟨kP, hkP, hkPi⟩
theorem Go.callO {a : Addr} {C : String} {yr z z' : MethodName} {C2 : String} (argsL : List Value) (rest : List Value) (q : Nat) (hd : decode code pc = .ok (.invokevirtual i, 3)) (w1 : (Cond.methodLink y.cls i yr).before a0 Z = true) (w1' : (Cond.declares yr).before a0 Z = true) (w1s : (Cond.selects C yr y').before a0 Z = true) (wnf : (Cond.selects C2 z z').before a0 Z = true) (hz : z'.cls = yr.cls) (w2 : (Cond.instanceMethod y').before a0 Z = true) (w3 : (Cond.initialized y'.cls).before a0 Z = true) (w4 : (Cond.code y' code' ml' ret').before a0 Z = true) (E : Exa Z h a C)
    (hpl : plainFor y' = true) (hy : yr.cls ≠ "java/lang/invoke/MethodHandle" ∧ yr.cls ≠ "java/lang/invoke/VarHandle") (hlen : ∀ sig, parseMethodDescriptor yr.desc = some sig → argsL.length = sig.parameters.length) (hst : st = argsL.reverse ++ .ref a :: rest) (hent : ∀ m, entryFrame m (.ref a :: argsL).toArray ml' = mkF m 0 Ls' [])
    (G : Go l Z y' code' ml' ret' R' Q' 0 0 h 0 Ls' []) (W : Nat) (hsz : Ls.size = ml) (hW : (rest.map fun v => v.category).sum ≤ W) (hf : R'.frames + 1 ≤ R.frames) (hl : W + (ml' + 11) + R'.locals ≤ R.locals) (hk : k + R'.cells ≤ R.cells) (hN : n + R'.slots ≤ R.slots) (hq : pc + 3 = q)
    (g : ∀ v h', Q' v h' → GoB wf l Z y code ml ret R Q (k + R'.cells) (n + R'.slots) h' q Ls (v.toList ++ rest)) : GoB wf l Z y code ml ret R Q k n h pc Ls st := by
  subst hq
  intro p e s m args below meth c K T L k' n' X h1 h2 N hT
  obtain ⟨cq, kq, qa, qb, qc⟩ := isOf K.2.2.1 hT E
  obtain ⟨v, vm₁, ⟨T', L', k'', n''⟩, -, X', ⟨Lc, ⟨hQ, N'⟩, e1, e2, e3⟩, s'⟩ := X.virtualBack K.1 K.2.2.2.1 (mvT K.2.2.1 w1) (mvT K.2.2.1 w1') (own_nf (args := #[]) (mvT K.2.2.1 wnf) hz) (mvT K.2.2.1 w1s) (mvT K.2.2.1 w2) hy (backOf (W := W) (Q := fun v h L => Q' v h ∧ Fr Z.heap.size L) (Go.met hpl hent G []) K.2.2.1 w4 w3 hf hl) qa qc (g := mkF m pc Ls st) rfl (hsz.trans K.2.2.2.2.1.symm) (Steps.refl _) (argsL := argsL) (rest := rest) hlen hst (by show 2 * 0 + _ ≤ _; rw [Nat.mul_zero, Nat.zero_add]; exact hW) (hb K.2.1 hd) (fun _ _ => ⟨rfl, hT, Nat.le_trans (Nat.add_le_add_right h1 _) hk, Nat.le_trans (Nat.add_le_add_right h2 _) hN⟩)
  dsimp only [Pt.U, Pt.locs, Pt.cells, Pt.slots] at X' e1 e2 e3 s' hQ
  subst e1 e2 e3
  obtain ⟨s2, v2, T2, L2, k2, n2, ok2, X2, b1, b2, N2, q2, hv, stp⟩ := g v _ hQ p e s m args below meth c K T' _ _ _ X' (Nat.add_le_add_right h1 _) (Nat.add_le_add_right h2 _) (Fr.app N N') rfl
  exact ⟨s2, v2, T2, L2, k2, n2, ok2, X2, b1, b2, N2, q2, hv, fun fs hl => s'.trans (stp fs hl)⟩
theorem Go.callCp {a : Addr} (argsL : List Value) (rest : List Value) (q : Nat) (hd : decode code pc = .ok (.invokespecial i, 3)) (hy1 : y'.name = "<init>") (w1 : (Cond.methodLink y.cls i y').before a0 Z = true) (w2 : (Cond.instanceMethod y').before a0 Z = true) (w3 : (Cond.initialized y'.cls).before a0 Z = true) (w4 : (Cond.code y' code' ml' none).before a0 Z = true)
    (hpl : plainFor y' = true) (hy : y'.cls ≠ "java/lang/invoke/MethodHandle" ∧ y'.cls ≠ "java/lang/invoke/VarHandle") (hlen : ∀ sig, parseMethodDescriptor y'.desc = some sig → argsL.length = sig.parameters.length) (hst : st = argsL.reverse ++ .ref a :: rest) (hent : ∀ m, entryFrame m (.ref a :: argsL).toArray ml' = mkF m 0 Ls' [])
    (G : Go l Z y' code' ml' none R' (QV fun h' => h' = h) 0 0 h 0 Ls' []) (W : Nat) (hsz : Ls.size = ml) (hW : (rest.map fun v => v.category).sum ≤ W) (hf : R'.frames + 1 ≤ R.frames) (hl : W + (ml' + 11) + R'.locals ≤ R.locals) (hk : k + R'.cells ≤ R.cells) (hN : n + R'.slots ≤ R.slots) (hq : pc + 3 = q)
    (g : GoB wf l Z y code ml ret R Q (k + R'.cells) (n + R'.slots) h q Ls rest) : GoB wf l Z y code ml ret R Q k n h pc Ls st :=
  Go.callC argsL rest q hd hy1 w1 w2 w3 w4 hpl hy hlen hst hent _ G W hsz hW hf hl hk hN hq (fun h' e => by subst e; exact g)
end Calls


section
variable {y' : MethodName} {code' : ByteArray} {ml' : Nat} {ret' : Option FieldType} {R' : Room} {Ls' : Array Slot} {i : Nat}
theorem Go.callSIp (argsL : List Value) (rest : List Value) (q : Nat) (hd : decode code pc = .ok (.invokestatic i, 3)) (w1 : (Cond.methodLink y.cls i y').before a0 Z = true) (w2 : (Cond.static y').before a0 Z = true) (w3 : (Cond.initialized y'.cls).before a0 Z = true) (w4 : (Cond.code y' code' ml' ret').before a0 Z = true)
    (hpl : plainFor y' = true) (hy : y'.cls ≠ "java/lang/invoke/MethodHandle" ∧ y'.cls ≠ "java/lang/invoke/VarHandle") (hlen : ∀ sig, parseMethodDescriptor y'.desc = some sig → argsL.length = sig.parameters.length) (hst : st = argsL.reverse ++ rest) (hent : ∀ m, entryFrame m argsL.toArray ml' = mkF m 0 Ls' [])
    (F : Int32) (G : Go l Z y' code' ml' ret' R' (QI fun z h' => z = F ∧ h' = h) 0 0 h 0 Ls' []) (W : Nat) (hsz : Ls.size = ml) (hW : (rest.map fun v => v.category).sum ≤ W) (hf : R'.frames + 1 ≤ R.frames) (hl : W + (ml' + 11) + R'.locals ≤ R.locals) (hk : k + R'.cells ≤ R.cells) (hN : n + R'.slots ≤ R.slots) (hq : pc + 3 = q)
    (g : GoB wf l Z y code ml ret R Q (k + R'.cells) (n + R'.slots) h q Ls (.int F :: rest)) : GoB wf l Z y code ml ret R Q k n h pc Ls st := by
  exact Go.callS argsL rest q hd w1 w2 w3 w4 hpl hy hlen hst hent G W hsz hW hf hl hk hN hq (fun v h' hq' => by obtain ⟨z, e, hp, hh⟩ := hq'; subst e; subst hh; rw [hp]; exact g)
end


section
variable {y' : MethodName} {code' : ByteArray} {ml' : Nat} {ret' : Option FieldType} {R' : Room} {Ls' : Array Slot} {i : Nat}
theorem Go.callSJp (argsL : List Value) (rest : List Value) (q : Nat) (hd : decode code pc = .ok (.invokestatic i, 3)) (w1 : (Cond.methodLink y.cls i y').before a0 Z = true) (w2 : (Cond.static y').before a0 Z = true) (w3 : (Cond.initialized y'.cls).before a0 Z = true) (w4 : (Cond.code y' code' ml' ret').before a0 Z = true)
    (hpl : plainFor y' = true) (hy : y'.cls ≠ "java/lang/invoke/MethodHandle" ∧ y'.cls ≠ "java/lang/invoke/VarHandle") (hlen : ∀ sig, parseMethodDescriptor y'.desc = some sig → argsL.length = sig.parameters.length) (hst : st = argsL.reverse ++ rest) (hent : ∀ m, entryFrame m argsL.toArray ml' = mkF m 0 Ls' [])
    (F : Int64) (G : Go l Z y' code' ml' ret' R' (QJ fun z h' => z = F ∧ h' = h) 0 0 h 0 Ls' []) (W : Nat) (hsz : Ls.size = ml) (hW : (rest.map fun v => v.category).sum ≤ W) (hf : R'.frames + 1 ≤ R.frames) (hl : W + (ml' + 11) + R'.locals ≤ R.locals) (hk : k + R'.cells ≤ R.cells) (hN : n + R'.slots ≤ R.slots) (hq : pc + 3 = q)
    (g : GoB wf l Z y code ml ret R Q (k + R'.cells) (n + R'.slots) h q Ls (.long F :: rest)) : GoB wf l Z y code ml ret R Q k n h pc Ls st := by
  exact Go.callS argsL rest q hd w1 w2 w3 w4 hpl hy hlen hst hent G W hsz hW hf hl hk hN hq (fun v h' hq' => by obtain ⟨z, e, hp, hh⟩ := hq'; subst e; subst hh; rw [hp]; exact g)
end

section
variable {y' : MethodName} {code' : ByteArray} {ml' : Nat} {ret' : Option FieldType} {R' : Room} {Ls' : Array Slot} {i : Nat}
theorem Go.callSR (argsL : List Value) (rest : List Value) (q : Nat) (hd : decode code pc = .ok (.invokestatic i, 3)) (w1 : (Cond.methodLink y.cls i y').before a0 Z = true) (w2 : (Cond.static y').before a0 Z = true) (w3 : (Cond.initialized y'.cls).before a0 Z = true) (w4 : (Cond.code y' code' ml' ret').before a0 Z = true)
    (hpl : plainFor y' = true) (hy : y'.cls ≠ "java/lang/invoke/MethodHandle" ∧ y'.cls ≠ "java/lang/invoke/VarHandle") (hlen : ∀ sig, parseMethodDescriptor y'.desc = some sig → argsL.length = sig.parameters.length) (hst : st = argsL.reverse ++ rest) (hent : ∀ m, entryFrame m argsL.toArray ml' = mkF m 0 Ls' [])
    (P' : Value → Heap → Prop) (G : Go l Z y' code' ml' ret' R' (QR P') 0 0 h 0 Ls' []) (W : Nat) (hsz : Ls.size = ml) (hW : (rest.map fun v => v.category).sum ≤ W) (hf : R'.frames + 1 ≤ R.frames) (hl : W + (ml' + 11) + R'.locals ≤ R.locals) (hk : k + R'.cells ≤ R.cells) (hN : n + R'.slots ≤ R.slots) (hq : pc + 3 = q)
    (g : ∀ (z : Value) h', P' z h' → GoB wf l Z y code ml ret R Q (k + R'.cells) (n + R'.slots) h' q Ls ( z :: rest)) : GoB wf l Z y code ml ret R Q k n h pc Ls st := by
  exact Go.callS argsL rest q hd w1 w2 w3 w4 hpl hy hlen hst hent G W hsz hW hf hl hk hN hq (fun v h' hq' => by obtain ⟨z, e, hp⟩ := hq'; subst e; exact g z h' hp)
end













section
variable {y' : MethodName} {code' : ByteArray} {ml' : Nat} {ret' : Option FieldType} {R' : Room} {Ls' : Array Slot} {i : Nat}
theorem Go.callVV {a : Addr} {C : String} (argsL : List Value) (rest : List Value) (q : Nat) (hd : decode code pc = .ok (.invokevirtual i, 3)) (w1 : (Cond.methodLink y.cls i y').before a0 Z = true) (w1' : (Cond.declares y').before a0 Z = true) (w1s : (Cond.selects C y' y').before a0 Z = true) (w2 : (Cond.instanceMethod y').before a0 Z = true) (w3 : (Cond.initialized y'.cls).before a0 Z = true) (w4 : (Cond.code y' code' ml' ret').before a0 Z = true) (E : Exa Z h a C)
    (hpl : plainFor y' = true) (hy : y'.cls ≠ "java/lang/invoke/MethodHandle" ∧ y'.cls ≠ "java/lang/invoke/VarHandle") (hlen : ∀ sig, parseMethodDescriptor y'.desc = some sig → argsL.length = sig.parameters.length) (hst : st = argsL.reverse ++ .ref a :: rest) (hent : ∀ m, entryFrame m (.ref a :: argsL).toArray ml' = mkF m 0 Ls' [])
    (P' : Heap → Prop) (G : Go l Z y' code' ml' ret' R' (QV P') 0 0 h 0 Ls' []) (W : Nat) (hsz : Ls.size = ml) (hW : (rest.map fun v => v.category).sum ≤ W) (hf : R'.frames + 1 ≤ R.frames) (hl : W + (ml' + 11) + R'.locals ≤ R.locals) (hk : k + R'.cells ≤ R.cells) (hN : n + R'.slots ≤ R.slots) (hq : pc + 3 = q)
    (g : ∀ h', P' h' → GoB wf l Z y code ml ret R Q (k + R'.cells) (n + R'.slots) h' q Ls rest) : GoB wf l Z y code ml ret R Q k n h pc Ls st := by
  exact Go.callV argsL rest q hd w1 w1' w1s w2 w3 w4 E hpl hy hlen hst hent G W hsz hW hf hl hk hN hq (fun v h' hq' => by obtain ⟨e, hp⟩ := hq'; subst e; exact g h' hp)
end


section
variable {y' : MethodName} {code' : ByteArray} {ml' : Nat} {ret' : Option FieldType} {R' : Room} {Ls' : Array Slot} {i : Nat}
theorem Go.callUIp {a : Addr} {C owner : String} {yr : MethodName} (argsL : List Value) (rest : List Value) (q : Nat) (hd : decode code pc = .ok (.invokevirtual i, 3)) (w1 : (Cond.methodLink y.cls i yr).before a0 Z = true) (w1m : (Cond.sameMethod yr.cls owner yr.name yr.desc).before a0 Z = true) (w1' : (Cond.declares ⟨owner, yr.name, yr.desc⟩).before a0 Z = true) (w1s : (Cond.selects C yr y').before a0 Z = true) (w2 : (Cond.instanceMethod y').before a0 Z = true) (w3 : (Cond.initialized y'.cls).before a0 Z = true) (w4 : (Cond.code y' code' ml' ret').before a0 Z = true) (E : Exa Z h a C)
    (hpl : plainFor y' = true) (hy : owner ≠ "java/lang/invoke/MethodHandle" ∧ owner ≠ "java/lang/invoke/VarHandle") (hlen : ∀ sig, parseMethodDescriptor yr.desc = some sig → argsL.length = sig.parameters.length) (hst : st = argsL.reverse ++ .ref a :: rest) (hent : ∀ m, entryFrame m (.ref a :: argsL).toArray ml' = mkF m 0 Ls' [])
    (F : Int32) (G : Go l Z y' code' ml' ret' R' (QI fun z h' => z = F ∧ h' = h) 0 0 h 0 Ls' []) (W : Nat) (hsz : Ls.size = ml) (hW : (rest.map fun v => v.category).sum ≤ W) (hf : R'.frames + 1 ≤ R.frames) (hl : W + (ml' + 11) + R'.locals ≤ R.locals) (hk : k + R'.cells ≤ R.cells) (hN : n + R'.slots ≤ R.slots) (hq : pc + 3 = q)
    (g : GoB wf l Z y code ml ret R Q (k + R'.cells) (n + R'.slots) h q Ls (.int F :: rest)) : GoB wf l Z y code ml ret R Q k n h pc Ls st := by
  exact Go.callU argsL rest q hd w1 w1m w1' w1s w2 w3 w4 E hpl hy hlen hst hent G W hsz hW hf hl hk hN hq (fun v h' hq' => by obtain ⟨z, e, hp, hh⟩ := hq'; subst e; subst hh; rw [hp]; exact g)
end





section
variable {y' : MethodName} {code' : ByteArray} {ml' : Nat} {ret' : Option FieldType} {R' : Room} {Ls' : Array Slot} {i : Nat}
theorem Go.callURp {a : Addr} {C owner : String} {yr : MethodName} (argsL : List Value) (rest : List Value) (q : Nat) (hd : decode code pc = .ok (.invokevirtual i, 3)) (w1 : (Cond.methodLink y.cls i yr).before a0 Z = true) (w1m : (Cond.sameMethod yr.cls owner yr.name yr.desc).before a0 Z = true) (w1' : (Cond.declares ⟨owner, yr.name, yr.desc⟩).before a0 Z = true) (w1s : (Cond.selects C yr y').before a0 Z = true) (w2 : (Cond.instanceMethod y').before a0 Z = true) (w3 : (Cond.initialized y'.cls).before a0 Z = true) (w4 : (Cond.code y' code' ml' ret').before a0 Z = true) (E : Exa Z h a C)
    (hpl : plainFor y' = true) (hy : owner ≠ "java/lang/invoke/MethodHandle" ∧ owner ≠ "java/lang/invoke/VarHandle") (hlen : ∀ sig, parseMethodDescriptor yr.desc = some sig → argsL.length = sig.parameters.length) (hst : st = argsL.reverse ++ .ref a :: rest) (hent : ∀ m, entryFrame m (.ref a :: argsL).toArray ml' = mkF m 0 Ls' [])
    (F : Value) (G : Go l Z y' code' ml' ret' R' (QR fun z h' => z = F ∧ h' = h) 0 0 h 0 Ls' []) (W : Nat) (hsz : Ls.size = ml) (hW : (rest.map fun v => v.category).sum ≤ W) (hf : R'.frames + 1 ≤ R.frames) (hl : W + (ml' + 11) + R'.locals ≤ R.locals) (hk : k + R'.cells ≤ R.cells) (hN : n + R'.slots ≤ R.slots) (hq : pc + 3 = q)
    (g : GoB wf l Z y code ml ret R Q (k + R'.cells) (n + R'.slots) h q Ls ( F :: rest)) : GoB wf l Z y code ml ret R Q k n h pc Ls st := by
  exact Go.callU argsL rest q hd w1 w1m w1' w1s w2 w3 w4 E hpl hy hlen hst hent G W hsz hW hf hl hk hN hq (fun v h' hq' => by obtain ⟨z, e, hp, hh⟩ := hq'; subst e; subst hh; rw [hp]; exact g)
end

section
variable {y' : MethodName} {code' : ByteArray} {ml' : Nat} {ret' : Option FieldType} {R' : Room} {Ls' : Array Slot} {i : Nat}
theorem Go.callUV {a : Addr} {C owner : String} {yr : MethodName} (argsL : List Value) (rest : List Value) (q : Nat) (hd : decode code pc = .ok (.invokevirtual i, 3)) (w1 : (Cond.methodLink y.cls i yr).before a0 Z = true) (w1m : (Cond.sameMethod yr.cls owner yr.name yr.desc).before a0 Z = true) (w1' : (Cond.declares ⟨owner, yr.name, yr.desc⟩).before a0 Z = true) (w1s : (Cond.selects C yr y').before a0 Z = true) (w2 : (Cond.instanceMethod y').before a0 Z = true) (w3 : (Cond.initialized y'.cls).before a0 Z = true) (w4 : (Cond.code y' code' ml' ret').before a0 Z = true) (E : Exa Z h a C)
    (hpl : plainFor y' = true) (hy : owner ≠ "java/lang/invoke/MethodHandle" ∧ owner ≠ "java/lang/invoke/VarHandle") (hlen : ∀ sig, parseMethodDescriptor yr.desc = some sig → argsL.length = sig.parameters.length) (hst : st = argsL.reverse ++ .ref a :: rest) (hent : ∀ m, entryFrame m (.ref a :: argsL).toArray ml' = mkF m 0 Ls' [])
    (P' : Heap → Prop) (G : Go l Z y' code' ml' ret' R' (QV P') 0 0 h 0 Ls' []) (W : Nat) (hsz : Ls.size = ml) (hW : (rest.map fun v => v.category).sum ≤ W) (hf : R'.frames + 1 ≤ R.frames) (hl : W + (ml' + 11) + R'.locals ≤ R.locals) (hk : k + R'.cells ≤ R.cells) (hN : n + R'.slots ≤ R.slots) (hq : pc + 3 = q)
    (g : ∀ h', P' h' → GoB wf l Z y code ml ret R Q (k + R'.cells) (n + R'.slots) h' q Ls rest) : GoB wf l Z y code ml ret R Q k n h pc Ls st := by
  exact Go.callU argsL rest q hd w1 w1m w1' w1s w2 w3 w4 E hpl hy hlen hst hent G W hsz hW hf hl hk hN hq (fun v h' hq' => by obtain ⟨e, hp⟩ := hq'; subst e; exact g h' hp)
end





































theorem own_eqf {args : Array Value} {s : State} {t : Term} {O n d : String} {v : Int32} {x : Addr} (ht : t.eval args s none [] s = some (.ref x)) (h : (Jvm.Cond.eq (Term.field t O n d) (Term.int v)).value args s none s [] = some true) : Fld s s.heap x O n d (.int v) := by
  apply Fld.start
  have e := fld_at (C := O) (n := n) (dd := d) ht
  have i : (Term.int v).eval args s none [] s = some (.int v) := Term.int_eval v
  simp only [Jvm.Cond.value, e, i] at h
  cases q : s.fieldOf? x O n d with
  | none => rw [q] at h; simp at h
  | some w =>
    rw [q] at h
    cases w <;> simp at h
    rw [h]
/-- an array of ints, shorts, chars, bytes or booleans, with its elements -/
def Ari (Z : State) (h : Heap) (a : Addr) (ty : FieldType) (xs : List Int32) : Prop := ∃ c : Cell, Arr Z h a c ty ∧ c.slots.toList = xs.map Value.int ∧ xs.length < 2147483648
def Arj (Z : State) (h : Heap) (a : Addr) (xs : List Int64) : Prop := ∃ c : Cell, Arr Z h a c .long ∧ c.slots.toList = xs.map Value.long ∧ xs.length < 2147483648
theorem Ari.lt {a : Addr} {ty : FieldType} {xs : List Int32} (F : Ari Z h a ty xs) : a < h.size := by obtain ⟨c, A, -⟩ := F; exact A.lt
theorem Arj.lt {a : Addr} {xs : List Int64} (F : Arj Z h a xs) : a < h.size := by obtain ⟨c, A, -⟩ := F; exact A.lt
theorem Ari.ext {h' : Heap} {a : Addr} {ty : FieldType} {xs : List Int32} (F : Ari Z h a ty xs) (E : Ext h h') : Ari Z h' a ty xs := by obtain ⟨c, A, r⟩ := F; exact ⟨c, A.ext E, r⟩
theorem Arj.ext {h' : Heap} {a : Addr} {xs : List Int64} (F : Arj Z h a xs) (E : Ext h h') : Arj Z h' a xs := by obtain ⟨c, A, r⟩ := F; exact ⟨c, A.ext E, r⟩
theorem Ari.other {h' : Heap} {a b : Addr} {sl : Nat} {v : Value} {ty : FieldType} {xs : List Int32} (F : Ari Z h b ty xs) (W : Wr h h' a sl v) (q : b ≠ a) : Ari Z h' b ty xs := by obtain ⟨c, A, r⟩ := F; exact ⟨c, A.other W q, r⟩
theorem Arj.other {h' : Heap} {a b : Addr} {sl : Nat} {v : Value} {xs : List Int64} (F : Arj Z h b xs) (W : Wr h h' a sl v) (q : b ≠ a) : Arj Z h' b xs := by obtain ⟨c, A, r⟩ := F; exact ⟨c, A.other W q, r⟩
theorem Ari.keep {h' : Heap} {a : Addr} {ws : List Addr} {ty : FieldType} {xs : List Int32} (F : Ari Z h a ty xs) (K : Keep h h' ws) (q : a ∉ ws) : Ari Z h' a ty xs := by obtain ⟨c, A, r⟩ := F; exact ⟨c, ⟨K.2.1 _ _ A.1 q, A.2⟩, r⟩
theorem Arj.keep {h' : Heap} {a : Addr} {ws : List Addr} {xs : List Int64} (F : Arj Z h a xs) (K : Keep h h' ws) (q : a ∉ ws) : Arj Z h' a xs := by obtain ⟨c, A, r⟩ := F; exact ⟨c, ⟨K.2.1 _ _ A.1 q, A.2⟩, r⟩
theorem own_size {c : Cell} {α : Type} {f : α → Value} {xs : List α} (e : c.slots.toList = xs.map f) : c.slots.size = xs.length := by
  have q := congrArg List.length e
  simpa using q
theorem own_at {c : Cell} {α : Type} {f : α → Value} {xs : List α} (e : c.slots.toList = xs.map f) {i : Nat} {x : α} (hx : xs[i]? = some x) : c.slots[i]? = some (f x) := by
  have q : c.slots.toList[i]? = some (f x) := by rw [e, List.getElem?_map, hx]; rfl
  simpa using q
theorem own_in {c : Cell} {α : Type} {f : α → Value} {xs : List α} (e : c.slots.toList = xs.map f) {i : Nat} {j : Int32} (hj : ¬ j < 0) (hi : j.toNatClampNeg = i) (hx : i < xs.length) : ¬ (j < 0 ∨ c.slots.size ≤ j.toNatClampNeg) := by
  rw [own_size e, hi]; intro q; rcases q with q | q
  · exact hj q
  · exact absurd hx (Nat.not_lt.mpr q)
theorem own_set {c : Cell} {α : Type} {f : α → Value} {xs : List α} (e : c.slots.toList = xs.map f) (i : Nat) (x : α) : (c.setSlot i (f x)).slots.toList = (xs.set i x).map f := by
  show (c.slots.setIfInBounds i (f x)).toList = _
  rw [Array.toList_setIfInBounds, e, List.map_set]
theorem Ari.set {h' : Heap} {a : Addr} {ty : FieldType} {xs xs' : List Int32} {i : Nat} {x : Int32} (F : Ari Z h a ty xs) (W : Wr h h' a i (.int x)) (e : xs.set i x = xs') : Ari Z h' a ty xs' := by
  subst e
  obtain ⟨c, A, r, r2⟩ := F
  exact ⟨_, A.same W, own_set r i x, by rw [List.length_set]; exact r2⟩
theorem Arj.set {h' : Heap} {a : Addr} {xs xs' : List Int64} {i : Nat} {x : Int64} (F : Arj Z h a xs) (W : Wr h h' a i (.long x)) (e : xs.set i x = xs') : Arj Z h' a xs' := by
  subst e
  obtain ⟨c, A, r, r2⟩ := F
  exact ⟨_, A.same W, own_set r i x, by rw [List.length_set]; exact r2⟩

theorem Go.iaload {a : Addr} {j x : Int32} {xs : List Int32} (i : Nat) (q : Nat) (hd : decode code pc = .ok (.iaload, 1)) (A : Ari Z h a .int xs) (hj : ¬ j < 0) (hi : j.toNatClampNeg = i) (hx : xs[i]? = some x) (hq : pc + 1 = q) (g : GoB wf l Z y code ml ret R Q k n h q Ls (.int x :: st)) : GoB wf l Z y code ml ret R Q k n h pc Ls (.int j :: .ref a :: st) := by
  subst hq hi
  obtain ⟨cl, A, r, r2⟩ := A
  have hv := own_at r hx
  have hin := own_in r hj rfl (List.getElem?_eq_some_iff.mp hx).1
  exact g.pure fun p e s m args below meth c K T L k' n' X hT t rr => X.iaload K.1 (cell := cl) (v := .int x) (by rw [hT]; exact A.1) (State.isArrayOf_alike K.2.2.1.alike A.2.1) A.2.2 hin hv (g := mkF m pc Ls (.int j :: .ref a :: st)) rfl rfl (hb K.2.1 hd) t rr
theorem Go.baload {a : Addr} {j x : Int32} {xs : List Int32} (i : Nat) (q : Nat) (hd : decode code pc = .ok (.baload, 1)) (A : Ari Z h a .byte xs) (hj : ¬ j < 0) (hi : j.toNatClampNeg = i) (hx : xs[i]? = some x) (hq : pc + 1 = q) (g : GoB wf l Z y code ml ret R Q k n h q Ls (.int x :: st)) : GoB wf l Z y code ml ret R Q k n h pc Ls (.int j :: .ref a :: st) := by
  subst hq hi
  obtain ⟨cl, A, r, r2⟩ := A
  have hv := own_at r hx
  have hin := own_in r hj rfl (List.getElem?_eq_some_iff.mp hx).1
  exact g.pure fun p e s m args below meth c K T L k' n' X hT t rr => X.baloadBytes K.1 (cell := cl) (v := .int x) (by rw [hT]; exact A.1) (State.isArrayOf_alike K.2.2.1.alike A.2.1) A.2.2 hin hv (g := mkF m pc Ls (.int j :: .ref a :: st)) rfl rfl (hb K.2.1 hd) t rr
theorem Go.zaload {a : Addr} {j x : Int32} {xs : List Int32} (i : Nat) (q : Nat) (hd : decode code pc = .ok (.baload, 1)) (A : Ari Z h a .boolean xs) (hj : ¬ j < 0) (hi : j.toNatClampNeg = i) (hx : xs[i]? = some x) (hq : pc + 1 = q) (g : GoB wf l Z y code ml ret R Q k n h q Ls (.int x :: st)) : GoB wf l Z y code ml ret R Q k n h pc Ls (.int j :: .ref a :: st) := by
  subst hq hi
  obtain ⟨cl, A, r, r2⟩ := A
  have hv := own_at r hx
  have hin := own_in r hj rfl (List.getElem?_eq_some_iff.mp hx).1
  exact g.pure fun p e s m args below meth c K T L k' n' X hT t rr => X.baloadBooleans K.1 (cell := cl) (v := .int x) (by rw [hT]; exact A.1) (State.isArrayOf_alike K.2.2.1.alike A.2.1) A.2.2 hin hv (g := mkF m pc Ls (.int j :: .ref a :: st)) rfl rfl (hb K.2.1 hd) t rr
theorem Go.caload {a : Addr} {j x : Int32} {xs : List Int32} (i : Nat) (q : Nat) (hd : decode code pc = .ok (.caload, 1)) (A : Ari Z h a .char xs) (hj : ¬ j < 0) (hi : j.toNatClampNeg = i) (hx : xs[i]? = some x) (hq : pc + 1 = q) (g : GoB wf l Z y code ml ret R Q k n h q Ls (.int x :: st)) : GoB wf l Z y code ml ret R Q k n h pc Ls (.int j :: .ref a :: st) := by
  subst hq hi
  obtain ⟨cl, A, r, r2⟩ := A
  have hv := own_at r hx
  have hin := own_in r hj rfl (List.getElem?_eq_some_iff.mp hx).1
  exact g.pure fun p e s m args below meth c K T L k' n' X hT t rr => X.caload K.1 (cell := cl) (v := .int x) (by rw [hT]; exact A.1) (State.isArrayOf_alike K.2.2.1.alike A.2.1) A.2.2 hin hv (g := mkF m pc Ls (.int j :: .ref a :: st)) rfl rfl (hb K.2.1 hd) t rr
theorem Go.laload {a : Addr} {j : Int32} {x : Int64} {xs : List Int64} (i : Nat) (q : Nat) (hd : decode code pc = .ok (.laload, 1)) (A : Arj Z h a xs) (hj : ¬ j < 0) (hi : j.toNatClampNeg = i) (hx : xs[i]? = some x) (hq : pc + 1 = q) (g : GoB wf l Z y code ml ret R Q k n h q Ls (.long x :: st)) : GoB wf l Z y code ml ret R Q k n h pc Ls (.int j :: .ref a :: st) := by
  subst hq hi
  obtain ⟨cl, A, r, r2⟩ := A
  have hv := own_at r hx
  have hin := own_in r hj rfl (List.getElem?_eq_some_iff.mp hx).1
  exact g.pure fun p e s m args below meth c K T L k' n' X hT t rr => X.laload K.1 (cell := cl) (v := .long x) (by rw [hT]; exact A.1) (State.isArrayOf_alike K.2.2.1.alike A.2.1) A.2.2 hin hv (g := mkF m pc Ls (.int j :: .ref a :: st)) rfl rfl (hb K.2.1 hd) t rr
theorem Go.arraylength {a : Addr} {ty : FieldType} {xs : List Int32} {z : Int32} (q : Nat) (hd : decode code pc = .ok (.arraylength, 1)) (A : Ari Z h a ty xs) (hz : xs.length.toInt32 = z) (hq : pc + 1 = q) (g : GoB wf l Z y code ml ret R Q k n h q Ls (.int z :: st)) : GoB wf l Z y code ml ret R Q k n h pc Ls (.ref a :: st) := by
  subst hq
  obtain ⟨cl, A, r, r2⟩ := A
  subst hz
  exact g.pure fun p e s m args below meth c K T L k' n' X hT t rr => X.arraylength K.1 (cell := cl) (by rw [hT]; exact A.1) (State.isArrayOf_alike K.2.2.1.alike A.2.1) (g := mkF m pc Ls (.ref a :: st)) rfl rfl (hb K.2.1 hd) t (by rw [own_size r]; exact rr)
theorem Go.arraylengthJ {a : Addr} {xs : List Int64} {z : Int32} (q : Nat) (hd : decode code pc = .ok (.arraylength, 1)) (A : Arj Z h a xs) (hz : xs.length.toInt32 = z) (hq : pc + 1 = q) (g : GoB wf l Z y code ml ret R Q k n h q Ls (.int z :: st)) : GoB wf l Z y code ml ret R Q k n h pc Ls (.ref a :: st) := by
  subst hq
  obtain ⟨cl, A, r, r2⟩ := A
  subst hz
  exact g.pure fun p e s m args below meth c K T L k' n' X hT t rr => X.arraylength K.1 (cell := cl) (by rw [hT]; exact A.1) (State.isArrayOf_alike K.2.2.1.alike A.2.1) (g := mkF m pc Ls (.ref a :: st)) rfl rfl (hb K.2.1 hd) t (by rw [own_size r]; exact rr)
theorem Go.iastore {a : Addr} {j x : Int32} {xs : List Int32} (i : Nat) (xs' : List Int32) (q : Nat) (hd : decode code pc = .ok (.iastore, 1)) (A : Ari Z h a .int xs) (hj : ¬ j < 0) (hi : j.toNatClampNeg = i) (hx : i < xs.length) (he : xs.set i (x) = xs') (hge : Z.heap.size ≤ a) (hq : pc + 1 = q)
    (g : ∀ h', Wr h h' a i (.int (x)) → Ari Z h' a .int xs' → GoB wf l Z y code ml ret R Q k n h' q Ls st) : GoB wf l Z y code ml ret R Q k n h pc Ls (.int x :: .int j :: .ref a :: st) := by
  subst hq hi
  refine GoB.move (P := fun h' => Wr h h' a j.toNatClampNeg (.int (x))) (kk := k) (nn := n) (fun h' W => g h' W (A.set W he)) ?_
  obtain ⟨cl, A, r, r2⟩ := A
  intro p e s m args below meth c K T L k' n' X h1 h2 N hT
  obtain ⟨T', h', X', e', W', s'⟩ := stI X K.1 K.2.2.1 hT A (own_in r hj rfl hx) (g := mkF m pc Ls (.int x :: .int j :: .ref a :: st)) rfl rfl (hb K.2.1 hd)
  exact ⟨T', _, k', n', X', h1, h2, Fr.snoc X' N hge, e' ▸ W', s'⟩
theorem Go.bastore {a : Addr} {j x : Int32} {xs : List Int32} (i : Nat) (xs' : List Int32) (q : Nat) (hd : decode code pc = .ok (.bastore, 1)) (A : Ari Z h a .byte xs) (hj : ¬ j < 0) (hi : j.toNatClampNeg = i) (hx : i < xs.length) (he : xs.set i (nar .byte x) = xs') (hge : Z.heap.size ≤ a) (hq : pc + 1 = q)
    (g : ∀ h', Wr h h' a i (.int (nar .byte x)) → Ari Z h' a .byte xs' → GoB wf l Z y code ml ret R Q k n h' q Ls st) : GoB wf l Z y code ml ret R Q k n h pc Ls (.int x :: .int j :: .ref a :: st) := by
  subst hq hi
  refine GoB.move (P := fun h' => Wr h h' a j.toNatClampNeg (.int (nar .byte x))) (kk := k) (nn := n) (fun h' W => g h' W (A.set W he)) ?_
  obtain ⟨cl, A, r, r2⟩ := A
  intro p e s m args below meth c K T L k' n' X h1 h2 N hT
  obtain ⟨T', h', X', e', W', s'⟩ := stB X K.1 K.2.2.1 hT A (own_in r hj rfl hx) (g := mkF m pc Ls (.int x :: .int j :: .ref a :: st)) rfl rfl (hb K.2.1 hd)
  exact ⟨T', _, k', n', X', h1, h2, Fr.snoc X' N hge, e' ▸ W', s'⟩
theorem Go.zastore {a : Addr} {j x : Int32} {xs : List Int32} (i : Nat) (xs' : List Int32) (q : Nat) (hd : decode code pc = .ok (.bastore, 1)) (A : Ari Z h a .boolean xs) (hj : ¬ j < 0) (hi : j.toNatClampNeg = i) (hx : i < xs.length) (he : xs.set i (nar .boolean x) = xs') (hge : Z.heap.size ≤ a) (hq : pc + 1 = q)
    (g : ∀ h', Wr h h' a i (.int (nar .boolean x)) → Ari Z h' a .boolean xs' → GoB wf l Z y code ml ret R Q k n h' q Ls st) : GoB wf l Z y code ml ret R Q k n h pc Ls (.int x :: .int j :: .ref a :: st) := by
  subst hq hi
  refine GoB.move (P := fun h' => Wr h h' a j.toNatClampNeg (.int (nar .boolean x))) (kk := k) (nn := n) (fun h' W => g h' W (A.set W he)) ?_
  obtain ⟨cl, A, r, r2⟩ := A
  intro p e s m args below meth c K T L k' n' X h1 h2 N hT
  obtain ⟨T', h', X', e', W', s'⟩ := stZ X K.1 K.2.2.1 hT A (own_in r hj rfl hx) (g := mkF m pc Ls (.int x :: .int j :: .ref a :: st)) rfl rfl (hb K.2.1 hd)
  exact ⟨T', _, k', n', X', h1, h2, Fr.snoc X' N hge, e' ▸ W', s'⟩
theorem Go.castore {a : Addr} {j x : Int32} {xs : List Int32} (i : Nat) (xs' : List Int32) (q : Nat) (hd : decode code pc = .ok (.castore, 1)) (A : Ari Z h a .char xs) (hj : ¬ j < 0) (hi : j.toNatClampNeg = i) (hx : i < xs.length) (he : xs.set i (nar .char x) = xs') (hge : Z.heap.size ≤ a) (hq : pc + 1 = q)
    (g : ∀ h', Wr h h' a i (.int (nar .char x)) → Ari Z h' a .char xs' → GoB wf l Z y code ml ret R Q k n h' q Ls st) : GoB wf l Z y code ml ret R Q k n h pc Ls (.int x :: .int j :: .ref a :: st) := by
  subst hq hi
  refine GoB.move (P := fun h' => Wr h h' a j.toNatClampNeg (.int (nar .char x))) (kk := k) (nn := n) (fun h' W => g h' W (A.set W he)) ?_
  obtain ⟨cl, A, r, r2⟩ := A
  intro p e s m args below meth c K T L k' n' X h1 h2 N hT
  obtain ⟨T', h', X', e', W', s'⟩ := stC X K.1 K.2.2.1 hT A (own_in r hj rfl hx) (g := mkF m pc Ls (.int x :: .int j :: .ref a :: st)) rfl rfl (hb K.2.1 hd)
  exact ⟨T', _, k', n', X', h1, h2, Fr.snoc X' N hge, e' ▸ W', s'⟩
theorem Go.lastore {a : Addr} {j : Int32} {x : Int64} {xs : List Int64} (i : Nat) (xs' : List Int64) (q : Nat) (hd : decode code pc = .ok (.lastore, 1)) (A : Arj Z h a xs) (hj : ¬ j < 0) (hi : j.toNatClampNeg = i) (hx : i < xs.length) (he : xs.set i x = xs') (hge : Z.heap.size ≤ a) (hq : pc + 1 = q)
    (g : ∀ h', Wr h h' a i (.long x) → Arj Z h' a xs' → GoB wf l Z y code ml ret R Q k n h' q Ls st) : GoB wf l Z y code ml ret R Q k n h pc Ls (.long x :: .int j :: .ref a :: st) := by
  subst hq hi
  refine GoB.move (P := fun h' => Wr h h' a j.toNatClampNeg (.long x)) (kk := k) (nn := n) (fun h' W => g h' W (A.set W he)) ?_
  obtain ⟨cl, A, r, r2⟩ := A
  intro p e s m args below meth c K T L k' n' X h1 h2 N hT
  obtain ⟨T', h', X', e', W', s'⟩ := stJ X K.1 K.2.2.1 hT A (own_in r hj rfl hx) (g := mkF m pc Ls (.long x :: .int j :: .ref a :: st)) rfl rfl (hb K.2.1 hd)
  exact ⟨T', _, k', n', X', h1, h2, Fr.snoc X' N hge, e' ▸ W', s'⟩
theorem Go.newI {aty : ArrayType} {z : Int32} (cap : Nat) (xs : List Int32) (q : Nat) (hd : decode code pc = .ok (.newarray aty, 2)) (w : (Cond.arrayClass (newarray.typeOf aty)).before a0 Z = true) (hdv : defaultValue (newarray.typeOf aty) = .int 0) (hz : ¬ z < 0) (hcap : z.toNatClampNeg ≤ cap) (hbig : cap * 8 ≤ 536870912) (hxs : List.replicate z.toNatClampNeg 0 = xs) (hk : k + 1 ≤ R.cells) (hN : n + cap ≤ R.slots) (hq : pc + 2 = q)
    (g : ∀ (a : Addr) h', a = h.size → Ext h h' → Ari Z h' a (newarray.typeOf aty) xs → GoB wf l Z y code ml ret R Q (k + 1) (n + cap) h' q Ls (.ref a :: st)) : GoB wf l Z y code ml ret R Q k n h pc Ls (.int z :: st) := by
  subst hq hxs
  refine GoB.move (P := fun h' => Ext h h' ∧ Ari Z h' h.size (newarray.typeOf aty) (List.replicate z.toNatClampNeg 0)) (kk := k + 1) (nn := n + cap) (fun h' p => g h.size h' rfl p.1 p.2) ?_
  intro p e s m args below meth c K T L k' n' X h1 h2 N hT
  obtain ⟨T', h', cA, X', e', E', A', s'⟩ := newP X K.1 K.2.2.1 w hT (g := mkF m pc Ls (.int z :: st)) rfl (hb K.2.1 hd) rfl hz hcap hbig (Nat.le_trans (Nat.add_le_add_right h1 1) hk) (Nat.le_trans (Nat.add_le_add_right h2 cap) hN)
  subst e'
  refine ⟨T', L, k' + 1, n' + cap, X', Nat.add_le_add_right h1 1, Nat.add_le_add_right h2 cap, N, ⟨E', _, A', ?_, ?_⟩, s'⟩
  · show (Array.replicate z.toNatClampNeg (defaultValue (newarray.typeOf aty))).toList = _
    rw [hdv]; simp [List.map_replicate]
  · rw [List.length_replicate]; omega
theorem Go.newJ {aty : ArrayType} {z : Int32} (cap : Nat) (xs : List Int64) (q : Nat) (hd : decode code pc = .ok (.newarray aty, 2)) (w : (Cond.arrayClass (newarray.typeOf aty)).before a0 Z = true) (hdv : newarray.typeOf aty = .long) (hz : ¬ z < 0) (hcap : z.toNatClampNeg ≤ cap) (hbig : cap * 8 ≤ 536870912) (hxs : List.replicate z.toNatClampNeg 0 = xs) (hk : k + 1 ≤ R.cells) (hN : n + cap ≤ R.slots) (hq : pc + 2 = q)
    (g : ∀ (a : Addr) h', a = h.size → Ext h h' → Arj Z h' a xs → GoB wf l Z y code ml ret R Q (k + 1) (n + cap) h' q Ls (.ref a :: st)) : GoB wf l Z y code ml ret R Q k n h pc Ls (.int z :: st) := by
  subst hq hxs
  refine GoB.move (P := fun h' => Ext h h' ∧ Arj Z h' h.size (List.replicate z.toNatClampNeg 0)) (kk := k + 1) (nn := n + cap) (fun h' p => g h.size h' rfl p.1 p.2) ?_
  intro p e s m args below meth c K T L k' n' X h1 h2 N hT
  obtain ⟨T', h', cA, X', e', E', A', s'⟩ := newP X K.1 K.2.2.1 w hT (g := mkF m pc Ls (.int z :: st)) rfl (hb K.2.1 hd) rfl hz hcap hbig (Nat.le_trans (Nat.add_le_add_right h1 1) hk) (Nat.le_trans (Nat.add_le_add_right h2 cap) hN)
  subst e'
  refine ⟨T', L, k' + 1, n' + cap, X', Nat.add_le_add_right h1 1, Nat.add_le_add_right h2 cap, N, ⟨E', _, hdv ▸ A', ?_, ?_⟩, s'⟩
  · show (Array.replicate z.toNatClampNeg (defaultValue .long)).toList = _
    simp [List.map_replicate, defaultValue]
  · rw [List.length_replicate]; omega

theorem own_arv {a : Addr} {ty : FieldType} {xs : List Int32} (F : Ari Z h a ty xs) (hf : ∀ x ∈ xs, fits ty (.int x) = true) : ∃ k : ClassId, Arv Z h a k ty xs.length.toInt32 (xs.map Value.int) (.int 0) := by
  obtain ⟨c, A, r, r2⟩ := F
  have sz := own_size r
  have hz : ¬ xs.length.toInt32 < 0 := by
    have e := len_toInt (n := xs.length) (by omega)
    rw [Int32.lt_iff_toInt_lt, e]
    show ¬ (xs.length : Int) < 0
    omega
  have hn : xs.length.toInt32.toNatClampNeg = xs.length := by
    have e := nat_of hz
    have e2 := len_toInt (n := xs.length) (by omega)
    omega
  have hat : ∀ i, i < c.slots.size → ∃ x, xs[i]? = some x := fun i hi => ⟨xs[i]'(by omega), List.getElem?_eq_getElem (by omega)⟩
  refine ⟨c.cls, c, A, rfl, by rw [sz, hn], hz, fun i hi => ?_, fun i hi => ?_⟩
  · obtain ⟨x, hx⟩ := hat i hi
    rw [own_at r hx, List.getD_eq_getElem?_getD, List.getElem?_map, hx]; rfl
  · obtain ⟨x, hx⟩ := hat i hi
    rw [List.getD_eq_getElem?_getD, List.getElem?_map, hx]
    exact hf x (List.mem_of_getElem? hx)
theorem own_ari {a : Addr} {ty : FieldType} {k : ClassId} {z : Int32} {ys : List Int32} (F : Arv Z h a k ty z (ys.map Value.int) (.int 0)) (hl : z.toNatClampNeg = ys.length) (hb : ys.length < 2147483648) : Ari Z h a ty ys := by
  obtain ⟨c, A, -, sz, -, H, -⟩ := F
  refine ⟨c, A, ?_, hb⟩
  apply List.ext_getElem?
  intro i
  rw [List.getElem?_map]
  by_cases hi : i < c.slots.size
  · have q := H i hi
    rw [Array.getElem?_toList, q, List.getD_eq_getElem?_getD, List.getElem?_map, List.getElem?_eq_getElem (show i < ys.length by omega)]
    rfl
  · rw [List.getElem?_eq_none (by simpa using hi), List.getElem?_eq_none (show ys.length ≤ i by omega)]
    rfl
theorem Go.arraycopy {a b : Addr} {ty : FieldType} {xs ys ys' : List Int32} {sp dp nn : Int32} {i W : Nat} (sN dN n' : Nat) (q : Nat) (hd : decode code pc = .ok (.invokestatic i, 3)) (w1 : (Cond.methodLink y.cls i Jvm.Stand.acN).before a0 Z = true) (w2 : (Cond.native Jvm.Stand.acN).before a0 Z = true) (w3 : (Cond.static Jvm.Stand.acN).before a0 Z = true) (w4 : (Cond.initialized "java/lang/System").before a0 Z = true)
    (A : Ari Z h a ty xs) (B : Ari Z h b ty ys) (hfa : ∀ x ∈ xs, fits ty (.int x) = true) (hfb : ∀ x ∈ ys, fits ty (.int x) = true) (hty : refKind ty = false) (h1 : ¬ sp < 0) (h2 : ¬ dp < 0) (h3 : ¬ nn < 0) (e1 : sp.toNatClampNeg = sN) (e2 : dp.toNatClampNeg = dN) (e3 : nn.toNatClampNeg = n') (l1 : sN + n' ≤ xs.length) (l2 : dN + n' ≤ ys.length) (he : ys.take dN ++ (xs.drop sN).take n' ++ ys.drop (dN + n') = ys')
    (hge : Z.heap.size ≤ b) (hsz : Ls.size = ml) (hfr : 1 ≤ R.frames) (hW : (st.map fun v => v.category).sum ≤ W) (hlo : W + (nativeFrameWords "java/lang/System" "arraycopy" 5 + 11) ≤ R.locals) (hq : pc + 3 = q)
    (g : ∀ h', Keep h h' [b] → Ari Z h' b ty ys' → GoB wf l Z y code ml ret R Q k n h' q Ls st) : GoB wf l Z y code ml ret R Q k n h pc Ls (.int nn :: .int dp :: .ref b :: .int sp :: .ref a :: st) := by
  subst hq e1 e2 e3 he
  refine GoB.move (P := fun h' => Keep h h' [b] ∧ Ari Z h' b ty (ys.take dp.toNatClampNeg ++ (xs.drop sp.toNatClampNeg).take nn.toNatClampNeg ++ ys.drop (dp.toNatClampNeg + nn.toNatClampNeg))) (kk := k) (nn := n) (fun h' p => g h' p.1 p.2) ?_
  obtain ⟨ka, A'⟩ := own_arv A hfa
  obtain ⟨kb, B'⟩ := own_arv B hfb
  obtain ⟨_, _, _, bb⟩ := B
  obtain ⟨_, _, _, ba⟩ := A
  have na : xs.length.toInt32.toNatClampNeg = xs.length := by
    have hz : ¬ xs.length.toInt32 < 0 := A'.choose_spec.2.2.2.1
    have e := nat_of hz
    have e2 := len_toInt (n := xs.length) (by omega)
    omega
  have nb : ys.length.toInt32.toNatClampNeg = ys.length := by
    have hz : ¬ ys.length.toInt32 < 0 := B'.choose_spec.2.2.2.1
    have e := nat_of hz
    have e2 := len_toInt (n := ys.length) (by omega)
    omega
  have hus : ((xs.drop sp.toNatClampNeg).take nn.toNatClampNeg).map Value.int = (List.range nn.toNatClampNeg).map fun i => (xs.map Value.int).getD (sp.toNatClampNeg + i) (.int 0) := by
    apply List.ext_getElem?
    intro i
    simp only [List.getElem?_map, List.getElem?_take, List.getElem?_drop, List.getElem?_range']
    by_cases hi : i < nn.toNatClampNeg
    · rw [if_pos hi, List.getElem?_range hi, Option.map_some, List.getD_eq_getElem?_getD, List.getElem?_map, List.getElem?_eq_getElem (show sp.toNatClampNeg + i < xs.length by omega)]
      rfl
    · rw [if_neg hi, List.getElem?_eq_none (by simpa using hi)]
      rfl
  intro p e s m args below meth c K T L k' n' X h1' h2' N hT
  obtain ⟨T', h', L', X', e', N', K', B2, s'⟩ := cpA X K.1 K.2.2.1 K.2.2.2.1 w1 w2 w3 w4 hT A' B' (Or.inl ⟨rfl, hty⟩) h1 h2 h3 (by rw [na]; exact l1) (by rw [nb]; exact l2) hus (by rw [List.length_map]; exact l2) N hge (g := mkF m pc Ls (.int nn :: .int dp :: .ref b :: .int sp :: .ref a :: st)) rfl (hsz.trans K.2.2.2.2.1.symm) rfl (hb K.2.1 hd) hfr (W := W) (by show 2 * 0 + _ ≤ _; rw [Nat.mul_zero, Nat.zero_add]; exact hW) hlo
  subst e'
  refine ⟨T', L', k', n', X', h1', h2', N', ⟨K', own_ari (z := ys.length.toInt32) (k := kb) ?_ ?_ ?_⟩, s'⟩
  · rw [List.map_append, List.map_append, List.map_take, List.map_drop]; exact B2
  · rw [nb]; simp only [List.length_append, List.length_take, List.length_drop]; omega
  · simp only [List.length_append, List.length_take, List.length_drop]; omega


/-- a String constant: it may intern; the walk goes on over the re-based start -/
theorem Go.ldcS {i : Nat} {text : String} {P : Int32 → Heap → Prop} (nn : Nat) (q : Nat) (hd : decode code pc = .ok (.ldc i, 2)) (w1 : (Cond.stringLink y.cls i text).before a0 Z = true) (wS : ∀ a ∈ Bundle.stringAtoms, a.before a0 Z = true) (hn : 4 * text.toList.length ≤ nn) (hbig : nn ≤ 536870912) (hk : k + 2 ≤ R.cells) (hN : n + (nn + 4) ≤ R.slots) (hq : pc + 2 = q)
    (g : ∀ (a : Addr) h', Ext h h' → Go l Z y code ml ret R (QI fun z hf => P z hf ∧ h'.size ≤ hf.size) (k + 2) (n + (nn + 4)) h' q Ls (.ref a :: st)) : GoB true l Z y code ml ret R (QI P) k n h pc Ls st := by
  subst hq
  intro p e s m args below meth c K T L k' n' X h1 h2 N hT
  have hs0 : s.Since s.vm T.heap.size := State.WarmedH.since (State.WarmedH.refl s) _
  obtain ⟨a, T1, h', k1, X1, e1, E1, S1, l1, Z1, o1, st1⟩ := Jvm.RoadKit.ldcS (s := s) (vm0 := s.vm) X K.1 K.2.2.1 K.2.2.2.1 w1 wS hT hs0 (by rw [hT]; exact Nat.le_refl _) (g := mkF m pc Ls st) rfl (hb K.2.1 hd) hn hbig (Nat.le_trans (Nat.add_le_add_right h1 2) hk) (Nat.le_trans (Nat.add_le_add_right h2 _) hN)
  obtain ⟨s', v, T', L', k'', n'', ok', X', b1, b2, N', ⟨z, ez, q1, q2⟩, hv, stp⟩ := g a h' E1 p e (s.setVm T1.vm) m args below meth c ⟨K.1, K.2.1, Z1, o1, K.2.2.2.2⟩ T1 L (k' + 2) (n' + (nn + 4)) X1 (Nat.add_le_add_right h1 2) (Nat.add_le_add_right h2 _) N e1
  obtain rfl : s' = s.setVm T1.vm := ok'.elim id (fun q => absurd q.1 (by decide))
  exact ⟨_, v, T', L', k'', n'', Or.inr ⟨rfl, T1.vm, k1, rfl, S1, Nat.le_trans l1 q2⟩, X', b1, b2, N', ⟨z, ez, q1⟩, hv, fun fs hl => st1 _ (stp fs hl)⟩
/-- the whole body of a method that may intern -/
theorem Go.metW {as' : Array Value} (hx : plainFor y = true) (hent : ∀ m, entryFrame m as' ml = mkF m 0 Ls []) (G : GoB true l Z y code ml ret R Q 0 0 h 0 Ls []) (ws : List Jvm.Cond) :
    MetFree l y (head1 (Jvm.Cond.code y code ml ret :: ws) R) (fun a U => a = as' ∧ Z.Warmed39 U.vm ∧ U.heap = h) (fun _ _ _ _ _ => True) (fun _ U o U' => ∃ v L, o = .returned v ∧ (Q v U'.heap ∧ Fr Z.heap.size L) ∧ ((∃ v : Option Value, o = Outcome.returned v) ∧ U.Warmed39 U'.vm ∧ U.Booked U'.vm U'.heap.size ∧ U.sameButNew ({ U' with vm := U.vm } : State) L R.cells R.slots)) := by
  refine MetFree.of_bodySF hx hisR ?_
  intro p e s m args below meth c s₁ Bd hml hP hK
  obtain ⟨rfl, hZ, hh⟩ := hP
  have X0 : Stand p l e R s m args below meth c s₁ [] 0 0 := Stand.of_body Bd
  have e0 : s₁.heap = h := by rw [← hh, Bd.state]; rfl
  have hnm := (name_of_methodNamed Bd.named Bd.method).1
  have hlk := Bd.notSynchronized
  obtain ⟨s', v, T', L', k'', n'', ok', X', b1, b2, N', q, hv, stp⟩ := G p e s m args below meth c ⟨Bd.exec, Bd.bytes, hZ, findClass_of_methodNamed Bd.named, hml, Bd.returns, hlk, hnm⟩ s₁ [] 0 0 X0 (Nat.le_refl _) (Nat.le_refl _) (Fr.nil _) e0
  have hv' : meth.sig.returnType = none → v = none := fun hh => hv (by rw [← Bd.returns]; exact hh)
  rcases ok' with rfl | ⟨-, vm, k1, rfl, S1, l1⟩
  · obtain ⟨fs, hr, hrun, hended, hW, hsame⟩ := X'.leave (v := v) hv'
    obtain ⟨a1, a2, a3, a4⟩ := Jvm.RoadKit.wide (s := s') (o := .returned v) (L := L') (k := k'') (n := n'') ⟨⟨v, rfl⟩, hW, hsame⟩
    exact ⟨_, _, castTop (hent m) (stp fs hr), hrun, hended, v, L', rfl, ⟨q, N'⟩, ⟨_, rfl⟩, a2, a3, a4.mono b1 b2⟩
  · obtain ⟨fs, hr, hrun, hended, hW, hsame⟩ := X'.leave (v := v) hv' hlk
    obtain ⟨a1, a2, a3⟩ := S1.ended (U := T'.setFrames fs) hW l1 hsame
    exact ⟨_, _, castTop (hent m) (stp fs hr), hrun, hended, v, L', rfl, ⟨q, N'⟩, ⟨_, rfl⟩, a1, a2, a3.mono b1 b2⟩

theorem Go.istoreS {i : Nat} {v : Int32} {o : Slot} (q : Nat) (Ls' : Array Slot) (hd : decode code pc = .ok (.istore i, 2)) (hold : Ls[i]? = some o) (ho : o = .unset ∨ ∃ w, o = .val w ∧ w.category = 1) (he : Ls.setIfInBounds i (.val (.int v)) = Ls') (hq : pc + 2 = q) (g : GoB wf l Z y code ml ret R Q k n h q Ls' st) : GoB wf l Z y code ml ret R Q k n h pc Ls (.int v :: st) := by
  subst hq he; exact g.pure fun p e s m args below meth c K T L k' n' X hT t r => XS.istoreS X.here K.1 rfl (hb K.2.1 hd) rfl hold ho r
theorem Go.istoreNS {i : Fin 4} {v : Int32} {o : Slot} (q : Nat) (Ls' : Array Slot) (hd : decode code pc = .ok (.istore_n i, 1)) (hold : Ls[i.val]? = some o) (ho : o = .unset ∨ ∃ w, o = .val w ∧ w.category = 1) (he : Ls.setIfInBounds i.val (.val (.int v)) = Ls') (hq : pc + 1 = q) (g : GoB wf l Z y code ml ret R Q k n h q Ls' st) : GoB wf l Z y code ml ret R Q k n h pc Ls (.int v :: st) := by
  subst hq he; exact g.pure fun p e s m args below meth c K T L k' n' X hT t r => XS.istoreNS X.here K.1 rfl (hb K.2.1 hd) rfl hold ho r

theorem own_staK {h' : Heap} {C nm d : String} {v : Value} {ws : List Addr} (F : Sta Z h C nm d v) (K : Keep h h' ws) (hn : ∀ x ∈ ws, ∀ cell : Cell, h[x]? = some cell → cell.vm.isStatics = false) : Sta Z h' C nm d v := by
  obtain ⟨cf, i, k, f, st, cell, h1, h2, h3, h4, h5, h6, h7⟩ := F
  exact ⟨cf, i, k, f, st, cell, h1, h2, h3, h4, K.2.1 _ _ h5 (fun hm => by rw [hn _ hm _ h5] at h6; cases h6), h6, h7⟩
theorem Ari.nostat {a : Addr} {ty : FieldType} {xs : List Int32} (F : Ari Z h a ty xs) : ∀ cell : Cell, h[a]? = some cell → cell.vm.isStatics = false := fun cell q => by
  obtain ⟨c, A, -⟩ := F
  cases A.1.symm.trans q
  exact A.plain
theorem own_nost {a : Addr} {C : String} (E : Exa Z h a C) : ∀ cell : Cell, h[a]? = some cell → cell.vm.isStatics = false := fun cell q => by
  obtain ⟨c, k, h1, -, -, h4, -⟩ := E
  cases h1.symm.trans q
  exact h4
theorem own_nea {a b : Addr} {ty ty' : FieldType} {xs ys : List Int32} (F : Ari Z h a ty xs) (G : Ari Z h b ty' ys) (hn : ty ≠ ty') : a ≠ b := fun e => by
  subst e
  obtain ⟨c1, A1, -⟩ := F
  obtain ⟨c2, A2, -⟩ := G
  cases A1.1.symm.trans A2.1
  obtain ⟨-, k1, hk1, comp1, e1⟩ := A1.2.1
  obtain ⟨-, k2, hk2, comp2, e2⟩ := A2.2.1
  cases hk1.symm.trans hk2
  rw [e1] at e2
  cases e2
  exact hn rfl
theorem own_nef {a b : Addr} {O nm d : String} {v w : Value} (F : Fld Z h a O nm d v) (G : Fld Z h b O nm d w) (hn : v ≠ w) : a ≠ b := fun e => by
  subst e
  obtain ⟨c1, cf1, k1, i1, f1, a1, a2, -, -, -, -, a7⟩ := F
  obtain ⟨c2, cf2, k2, i2, f2, b1, b2, -, -, -, -, b7⟩ := G
  cases a1.symm.trans b1
  cases a2.symm.trans b2
  exact hn (Option.some.inj (a7.symm.trans b7))
/-- an array of references to objects of a class -/
def Aro (Z : State) (h : Heap) (a : Addr) (C : String) (vs : List Value) : Prop := ∃ c : Cell, Arr Z h a c (.object C) ∧ c.slots.toList = vs.map id ∧ Ovr Z c.cls C
theorem Aro.lt {a : Addr} {C : String} {vs : List Value} (F : Aro Z h a C vs) : a < h.size := by obtain ⟨c, A, -⟩ := F; exact A.lt
theorem Aro.ext {h' : Heap} {a : Addr} {C : String} {vs : List Value} (F : Aro Z h a C vs) (E : Ext h h') : Aro Z h' a C vs := by obtain ⟨c, A, r⟩ := F; exact ⟨c, A.ext E, r⟩
theorem Aro.other {h' : Heap} {a b : Addr} {sl : Nat} {v : Value} {C : String} {vs : List Value} (F : Aro Z h b C vs) (W : Wr h h' a sl v) (q : b ≠ a) : Aro Z h' b C vs := by obtain ⟨c, A, r⟩ := F; exact ⟨c, A.other W q, r⟩
theorem Aro.keep {h' : Heap} {a : Addr} {ws : List Addr} {C : String} {vs : List Value} (F : Aro Z h a C vs) (K : Keep h h' ws) (q : a ∉ ws) : Aro Z h' a C vs := by obtain ⟨c, A, r⟩ := F; exact ⟨c, ⟨K.2.1 _ _ A.1 q, A.2⟩, r⟩
theorem Aro.set {h' : Heap} {a : Addr} {C : String} {vs vs' : List Value} {i : Nat} {x : Value} (F : Aro Z h a C vs) (W : Wr h h' a i x) (e : vs.set i x = vs') : Aro Z h' a C vs' := by
  subst e
  obtain ⟨c, A, r, r2⟩ := F
  exact ⟨_, A.same W, own_set r i x, r2⟩
theorem Go.newR {i : Nat} {C : String} {z : Int32} (cap : Nat) (vs : List Value) (q : Nat) (hd : decode code pc = .ok (.anewarray i, 3)) (w1 : (Cond.classLink y.cls i C).before a0 Z = true) (w2 : (Cond.arrayOver (.object C)).before a0 Z = true) (hz : ¬ z < 0) (hcap : z.toNatClampNeg ≤ cap) (hbig : cap * 8 ≤ 536870912) (hxs : List.replicate z.toNatClampNeg Value.null = vs) (hk : k + 1 ≤ R.cells) (hN : n + cap ≤ R.slots) (hq : pc + 3 = q)
    (g : ∀ (a : Addr) h', a = h.size → Ext h h' → Aro Z h' a C vs → GoB wf l Z y code ml ret R Q (k + 1) (n + cap) h' q Ls (.ref a :: st)) : GoB wf l Z y code ml ret R Q k n h pc Ls (.int z :: st) := by
  subst hq hxs
  refine GoB.move (P := fun h' => Ext h h' ∧ Aro Z h' h.size C (List.replicate z.toNatClampNeg Value.null)) (kk := k + 1) (nn := n + cap) (fun h' p => g h.size h' rfl p.1 p.2) ?_
  intro p e s m args below meth c K T L k' n' X h1 h2 N hT
  obtain ⟨T', h', cA, X', e', E', A', O', s'⟩ := Jvm.RoadKit.newR X K.1 K.2.2.1 K.2.2.2.1 w1 w2 hT (g := mkF m pc Ls (.int z :: st)) rfl (hb K.2.1 hd) rfl hz hcap hbig (Nat.le_trans (Nat.add_le_add_right h1 1) hk) (Nat.le_trans (Nat.add_le_add_right h2 cap) hN)
  subst e'
  refine ⟨T', L, k' + 1, n' + cap, X', Nat.add_le_add_right h1 1, Nat.add_le_add_right h2 cap, N, ⟨E', _, A', ?_, O'⟩, s'⟩
  show (Array.replicate z.toNatClampNeg (defaultValue (.object C))).toList = _
  simp [defaultValue]
theorem Go.aastore {a b : Addr} {C : String} {j : Int32} {vs : List Value} (i : Nat) (vs' : List Value) (q : Nat) (hd : decode code pc = .ok (.aastore, 1)) (A : Aro Z h a C vs) (I : Ins Z h b C true) (hj : ¬ j < 0) (hi : j.toNatClampNeg = i) (hx : i < vs.length) (he : vs.set i (.ref b) = vs') (hge : Z.heap.size ≤ a) (hq : pc + 1 = q)
    (g : ∀ h', Wr h h' a i (.ref b) → Aro Z h' a C vs' → GoB wf l Z y code ml ret R Q k n h' q Ls st) : GoB wf l Z y code ml ret R Q k n h pc Ls (.ref b :: .int j :: .ref a :: st) := by
  subst hq hi
  refine GoB.move (P := fun h' => Wr h h' a j.toNatClampNeg (.ref b)) (kk := k) (nn := n) (fun h' W => g h' W (A.set W he)) ?_
  obtain ⟨cl, A, r, r2⟩ := A
  intro p e s m args below meth c K T L k' n' X h1 h2 N hT
  obtain ⟨T', h', X', e', W', s'⟩ := stR X K.1 K.2.2.1 hT A (own_in r hj rfl hx) rfl (Sto.of A r2 I) (g := mkF m pc Ls (.ref b :: .int j :: .ref a :: st)) rfl rfl (hb K.2.1 hd)
  exact ⟨T', _, k', n', X', h1, h2, Fr.snoc X' N hge, e' ▸ W', s'⟩
theorem Go.aaload {a : Addr} {C : String} {j : Int32} {x : Value} {vs : List Value} (i : Nat) (q : Nat) (hd : decode code pc = .ok (.aaload, 1)) (A : Aro Z h a C vs) (hj : ¬ j < 0) (hi : j.toNatClampNeg = i) (hx : vs[i]? = some x) (hq : pc + 1 = q) (g : GoB wf l Z y code ml ret R Q k n h q Ls (x :: st)) : GoB wf l Z y code ml ret R Q k n h pc Ls (.int j :: .ref a :: st) := by
  subst hq hi
  obtain ⟨cl, A, r, r2⟩ := A
  have hv := own_at r hx
  have hin := own_in r hj rfl (List.getElem?_eq_some_iff.mp hx).1
  exact g.pure fun p e s m args below meth c K T L k' n' X hT t rr => X.aaload K.1 (cell := cl) (v := x) (ty := .object C) (by rw [hT]; exact A.1) (State.isArrayOf_alike K.2.2.1.alike A.2.1) rfl A.2.2 hin hv (g := mkF m pc Ls (.int j :: .ref a :: st)) rfl rfl (hb K.2.1 hd) t rr
theorem Go.tsw {dflt low high : Int} {offs : Array Int} {len : Nat} {i : Int32} (o : Int) (q : Nat) (hd : decode code pc = .ok (.tableswitch dflt low high offs, len)) (hin : ¬ (i.toInt < low ∨ i.toInt > high)) (hoff : offs[(i.toInt - low).toNat]? = some o) (ho : 0 ≤ (pc : Int) + o) (hp : ((pc : Int) + o).toNat = q) (g : GoB wf l Z y code ml ret R Q k n h q Ls st) : GoB wf l Z y code ml ret R Q k n h pc Ls (.int i :: st) := by
  exact g.pure fun p e s m args below meth c K T L k' n' X hT t r => XS.tswIn X.here K.1 rfl rfl (hb K.2.1 hd) rfl hin hoff ho hp r
theorem Go.cast {i : Nat} {a : Addr} {D : String} (q : Nat) (hd : decode code pc = .ok (.checkcast i, 3)) (w : (Cond.classLink y.cls i D).before a0 Z = true) (F : Ins Z h a D true) (hq : pc + 3 = q) (g : GoB wf l Z y code ml ret R Q k n h q Ls (.ref a :: st)) : GoB wf l Z y code ml ret R Q k n h pc Ls (.ref a :: st) := by
  subst hq
  refine GoB.move (P := fun h' => h' = h) (kk := k) (nn := n) (fun h' e => e ▸ g) ?_
  intro p e s m args below meth c K T L k' n' X h1 h2 N hT
  obtain ⟨T', X', e', s'⟩ := castY X K.1 K.2.2.1 K.2.2.2.1 w hT F (g := mkF m pc Ls (.ref a :: st)) rfl rfl (hb K.2.1 hd)
  exact ⟨T', L, k', n', X', h1, h2, N, e', s'⟩
theorem Go.newIE {aty : ArrayType} {z : Int32} (cap : Nat) (xs : List Int32) (ad : String) (q : Nat) (hd : decode code pc = .ok (.newarray aty, 2)) (w : (Cond.arrayClass (newarray.typeOf aty)).before a0 Z = true) (hdv : defaultValue (newarray.typeOf aty) = .int 0) (had : "[" ++ (newarray.typeOf aty).toString = ad) (hz : ¬ z < 0) (hcap : z.toNatClampNeg ≤ cap) (hbig : cap * 8 ≤ 536870912) (hxs : List.replicate z.toNatClampNeg 0 = xs) (hk : k + 1 ≤ R.cells) (hN : n + cap ≤ R.slots) (hq : pc + 2 = q)
    (g : ∀ (a : Addr) h', a = h.size → Ext h h' → Ari Z h' a (newarray.typeOf aty) xs → Exa Z h' a ad → GoB wf l Z y code ml ret R Q (k + 1) (n + cap) h' q Ls (.ref a :: st)) : GoB wf l Z y code ml ret R Q k n h pc Ls (.int z :: st) := by
  subst hq hxs
  refine GoB.move (P := fun h' => Ext h h' ∧ Ari Z h' h.size (newarray.typeOf aty) (List.replicate z.toNatClampNeg 0) ∧ Exa Z h' h.size ad) (kk := k + 1) (nn := n + cap) (fun h' p => g h.size h' rfl p.1 p.2.1 p.2.2) ?_
  intro p e s m args below meth c K T L k' n' X h1 h2 N hT
  obtain ⟨T', h', cA, X', e', E', A', Ex', s'⟩ := newPE X K.1 K.2.2.1 w hT (g := mkF m pc Ls (.int z :: st)) rfl (hb K.2.1 hd) rfl hz hcap hbig (Nat.le_trans (Nat.add_le_add_right h1 1) hk) (Nat.le_trans (Nat.add_le_add_right h2 cap) hN) had
  subst e'
  refine ⟨T', L, k' + 1, n' + cap, X', Nat.add_le_add_right h1 1, Nat.add_le_add_right h2 cap, N, ⟨E', ⟨_, A', ?_, ?_⟩, Ex'⟩, s'⟩
  · show (Array.replicate z.toNatClampNeg (defaultValue (newarray.typeOf aty))).toList = _
    rw [hdv]; simp [List.map_replicate]
  · rw [List.length_replicate]; omega
theorem Go.clone {i W : Nat} {ad : String} {a : Addr} {ty : FieldType} {xs : List Int32} (cap : Nat) (q : Nat) (hd : decode code pc = .ok (.invokevirtual i, 3)) (w1 : (Cond.methodLink y.cls i ⟨ad, "clone", "()Ljava/lang/Object;"⟩).before a0 Z = true) (w2 : (Cond.sameMethod ad "java/lang/Object" "clone" "()Ljava/lang/Object;").before a0 Z = true) (w3 : (Cond.native ⟨"java/lang/Object", "clone", "()Ljava/lang/Object;"⟩).before a0 Z = true)
    (w4 : (Cond.instanceMethod ⟨"java/lang/Object", "clone", "()Ljava/lang/Object;"⟩).before a0 Z = true) (w5 : (Cond.selects ad ⟨ad, "clone", "()Ljava/lang/Object;"⟩ ⟨"java/lang/Object", "clone", "()Ljava/lang/Object;"⟩).before a0 Z = true) (w6 : (Cond.castable ad "java/lang/Cloneable").before a0 Z = true)
    (A : Ari Z h a ty xs) (E : Exa Z h a ad) (hf : ∀ x ∈ xs, fits ty (.int x) = true) (hsz : Ls.size = ml) (hfr : 1 ≤ R.frames) (hW : (st.map fun v => v.category).sum ≤ W) (hlo : W + 14 ≤ R.locals) (hcap : xs.length ≤ cap) (hk : k + 1 ≤ R.cells) (hN : n + cap ≤ R.slots) (hq : pc + 3 = q)
    (g : ∀ (b : Addr) h', b = h.size → Ext h h' → Ari Z h' b ty xs → Exa Z h' b ad → GoB wf l Z y code ml ret R Q (k + 1) (n + cap) h' q Ls (.ref b :: st)) : GoB wf l Z y code ml ret R Q k n h pc Ls (.ref a :: st) := by
  subst hq
  obtain ⟨cl, A, r, r2⟩ := A
  have FC : FitC Z cl := fitC_of A fun i hi v hv => by
    have e : cl.slots.toList[i]? = some v := by simpa using hv
    rw [r, List.getElem?_map] at e
    obtain ⟨x, hx, rfl⟩ := Option.map_eq_some_iff.mp e
    exact hf x (List.mem_of_getElem? hx)
  refine GoB.move (P := fun h' => Ext h h' ∧ Ari Z h' h.size ty xs ∧ Exa Z h' h.size ad) (kk := k + 1) (nn := n + cap) (fun h' p => g h.size h' rfl p.1 p.2.1 p.2.2) ?_
  intro p e s m args below meth c K T L k' n' X h1 h2 N hT
  obtain ⟨T', h', X', e', E', A', Ex', s'⟩ := cloneA X K.1 K.2.2.1 K.2.2.2.1 w1 w2 w3 w4 w5 w6 hT A E FC (g := mkF m pc Ls (.ref a :: st)) rfl (hsz.trans K.2.2.2.2.1.symm) rfl (hb K.2.1 hd) hfr (W := W) (by show 2 * 0 + _ ≤ _; rw [Nat.mul_zero, Nat.zero_add]; exact hW) hlo (by rw [own_size r]; exact hcap) (Nat.le_trans (Nat.add_le_add_right h1 1) hk) (Nat.le_trans (Nat.add_le_add_right h2 cap) hN)
  subst e'
  exact ⟨T', L, k' + 1, n' + cap, X', Nat.add_le_add_right h1 1, Nat.add_le_add_right h2 cap, N, ⟨E', ⟨_, A', r, r2⟩, Ex'⟩, s'⟩


/-- a static of a reference type: null or an address -/
def Str (Z : State) (h : Heap) (C nm d : String) : Prop := Sta Z h C nm d .null ∨ ∃ r : Addr, Sta Z h C nm d (.ref r)
theorem Str.ext {h' : Heap} {C nm d : String} (F : Str Z h C nm d) (E : Ext h h') : Str Z h' C nm d := F.imp (fun q => q.ext E) fun ⟨r, q⟩ => ⟨r, q.ext E⟩
theorem Str.wr {h' : Heap} {C nm d : String} {a : Addr} {sl : Nat} {v : Value} (F : Str Z h C nm d) (W : Wr h h' a sl v) : Str Z h' C nm d := F.imp (fun q => q.wr W) fun ⟨r, q⟩ => ⟨r, q.wr W⟩
theorem Str.keepN {h' : Heap} {C nm d : String} {ws : List Addr} (F : Str Z h C nm d) (K : Keep h h' ws) (hn : ∀ x ∈ ws, ∀ cell : Cell, h[x]? = some cell → cell.vm.isStatics = false) : Str Z h' C nm d := F.imp (fun q => own_staK q K hn) fun ⟨r, q⟩ => ⟨r, own_staK q K hn⟩

end Laws
end Jvm.OwnGo

namespace Jvm.Pilot.@@N@@
open Jvm Jvm.ClassFile Sem Op Lib Jvm.Free Jvm.Stand Jvm.LawKit Jvm.RoadKit Bundle Jvm.OwnGo Jvm.Pilot.@@N@@.Jvm.D
theorem pnx : plainName x.cls = true := by first | (simp [x, plainName, overriddenIn]; done) | decide +kernel
theorem tw0 {a0 : Array Value} {Z : State} (hw : ∀ d ∈ tables_1, d.before a0 Z = true) : ((Jvm.Cond.classLink "io/mereline/SpillEncodingReadNumberPinLaw" (7 : Nat) "io/mereline/SpillEncoding$Output")).before a0 Z = true := hw _ (List.mem_of_getElem? (i := 0) rfl)
theorem tw1 {a0 : Array Value} {Z : State} (hw : ∀ d ∈ tables_1, d.before a0 Z = true) : ((Jvm.Cond.instantiable "io/mereline/SpillEncoding$Output" (3 : Nat))).before a0 Z = true := hw _ (List.mem_of_getElem? (i := 1) rfl)
theorem tw2 {a0 : Array Value} {Z : State} (hw : ∀ d ∈ tables_1, d.before a0 Z = true) : ((Jvm.Cond.initialized "io/mereline/SpillEncoding$Output")).before a0 Z = true := hw _ (List.mem_of_getElem? (i := 2) rfl)
theorem tw3 {a0 : Array Value} {Z : State} (hw : ∀ d ∈ tables_1, d.before a0 Z = true) : ((Jvm.Cond.methodLink "io/mereline/SpillEncodingReadNumberPinLaw" (9 : Nat) ({ cls := "io/mereline/SpillEncoding$Output", name := "<init>", desc := "(I)V" } : Jvm.MethodName))).before a0 Z = true := hw _ (List.mem_of_getElem? (i := 3) rfl)
theorem tw4 {a0 : Array Value} {Z : State} (hw : ∀ d ∈ tables_1, d.before a0 Z = true) : ((Jvm.Cond.instanceMethod ({ cls := "io/mereline/SpillEncoding$Output", name := "<init>", desc := "(I)V" } : Jvm.MethodName))).before a0 Z = true := hw _ (List.mem_of_getElem? (i := 4) rfl)
theorem tw5 {a0 : Array Value} {Z : State} (hw : ∀ d ∈ tables_1, d.before a0 Z = true) : ((Jvm.Cond.code ({ cls := "io/mereline/SpillEncoding$Output", name := "<init>", desc := "(I)V" } : Jvm.MethodName) prog_146_method_1_code (2 : Nat) (Option.none : Option Jvm.ClassFile.FieldType))).before a0 Z = true := hw _ (List.mem_of_getElem? (i := 5) rfl)
theorem tw6 {a0 : Array Value} {Z : State} (hw : ∀ d ∈ tables_1, d.before a0 Z = true) : ((Jvm.Cond.methodLink "io/mereline/SpillEncoding$Output" (1 : Nat) ({ cls := "io/mereline/ByteOutput", name := "<init>", desc := "(I)V" } : Jvm.MethodName))).before a0 Z = true := hw _ (List.mem_of_getElem? (i := 6) rfl)
theorem tw7 {a0 : Array Value} {Z : State} (hw : ∀ d ∈ tables_1, d.before a0 Z = true) : ((Jvm.Cond.instanceMethod ({ cls := "io/mereline/ByteOutput", name := "<init>", desc := "(I)V" } : Jvm.MethodName))).before a0 Z = true := hw _ (List.mem_of_getElem? (i := 7) rfl)
theorem tw9 {a0 : Array Value} {Z : State} (hw : ∀ d ∈ tables_1, d.before a0 Z = true) : ((Jvm.Cond.initialized "io/mereline/ByteOutput")).before a0 Z = true := hw _ (List.mem_of_getElem? (i := 9) rfl)
theorem tw10 {a0 : Array Value} {Z : State} (hw : ∀ d ∈ tables_1, d.before a0 Z = true) : ((Jvm.Cond.code ({ cls := "io/mereline/ByteOutput", name := "<init>", desc := "(I)V" } : Jvm.MethodName) prog_28_method_1_code (2 : Nat) (Option.none : Option Jvm.ClassFile.FieldType))).before a0 Z = true := hw _ (List.mem_of_getElem? (i := 10) rfl)
theorem tw11 {a0 : Array Value} {Z : State} (hw : ∀ d ∈ tables_1, d.before a0 Z = true) : ((Jvm.Cond.methodLink "io/mereline/ByteOutput" (5 : Nat) ({ cls := "java/lang/Object", name := "<init>", desc := "()V" } : Jvm.MethodName))).before a0 Z = true := hw _ (List.mem_of_getElem? (i := 11) rfl)
theorem tw12 {a0 : Array Value} {Z : State} (hw : ∀ d ∈ tables_1, d.before a0 Z = true) : ((Jvm.Cond.instanceMethod ({ cls := "java/lang/Object", name := "<init>", desc := "()V" } : Jvm.MethodName))).before a0 Z = true := hw _ (List.mem_of_getElem? (i := 12) rfl)
theorem tw13 {a0 : Array Value} {Z : State} (hw : ∀ d ∈ tables_1, d.before a0 Z = true) : ((Jvm.Cond.code ({ cls := "java/lang/Object", name := "<init>", desc := "()V" } : Jvm.MethodName) object_method_1_code (1 : Nat) (Option.none : Option Jvm.ClassFile.FieldType))).before a0 Z = true := hw _ (List.mem_of_getElem? (i := 13) rfl)
theorem tw14 {a0 : Array Value} {Z : State} (hw : ∀ d ∈ tables_1, d.before a0 Z = true) : ((Jvm.Cond.fieldLink "io/mereline/ByteOutput" (11 : Nat) "io/mereline/ByteOutput" "initialCapacity" "I")).before a0 Z = true := hw _ (List.mem_of_getElem? (i := 14) rfl)
theorem tw15 {a0 : Array Value} {Z : State} (hw : ∀ d ∈ tables_1, d.before a0 Z = true) : ((Jvm.Cond.laysFinal "io/mereline/SpillEncoding$Output" "io/mereline/ByteOutput" "initialCapacity" "I")).before a0 Z = true := hw _ (List.mem_of_getElem? (i := 15) rfl)
theorem tw16 {a0 : Array Value} {Z : State} (hw : ∀ d ∈ tables_1, d.before a0 Z = true) : ((Jvm.Cond.arrayClass Jvm.ClassFile.FieldType.byte)).before a0 Z = true := hw _ (List.mem_of_getElem? (i := 16) rfl)
theorem tw17 {a0 : Array Value} {Z : State} (hw : ∀ d ∈ tables_1, d.before a0 Z = true) : ((Jvm.Cond.fieldLink "io/mereline/ByteOutput" (15 : Nat) "io/mereline/ByteOutput" "bytes" "[B")).before a0 Z = true := hw _ (List.mem_of_getElem? (i := 17) rfl)
theorem tw18 {a0 : Array Value} {Z : State} (hw : ∀ d ∈ tables_1, d.before a0 Z = true) : ((Jvm.Cond.lays "io/mereline/SpillEncoding$Output" "io/mereline/ByteOutput" "bytes" "[B")).before a0 Z = true := hw _ (List.mem_of_getElem? (i := 18) rfl)
theorem tw19 {a0 : Array Value} {Z : State} (hw : ∀ d ∈ tables_1, d.before a0 Z = true) : ((Jvm.Cond.methodLink "io/mereline/SpillEncodingReadNumberPinLaw" (12 : Nat) ({ cls := "io/mereline/SpillEncoding$Output", name := "writeNumber", desc := "(J)V" } : Jvm.MethodName))).before a0 Z = true := hw _ (List.mem_of_getElem? (i := 19) rfl)
theorem tw20 {a0 : Array Value} {Z : State} (hw : ∀ d ∈ tables_1, d.before a0 Z = true) : ((Jvm.Cond.declares ({ cls := "io/mereline/SpillEncoding$Output", name := "writeNumber", desc := "(J)V" } : Jvm.MethodName))).before a0 Z = true := hw _ (List.mem_of_getElem? (i := 20) rfl)
theorem tw21 {a0 : Array Value} {Z : State} (hw : ∀ d ∈ tables_1, d.before a0 Z = true) : ((Jvm.Cond.instanceMethod ({ cls := "io/mereline/SpillEncoding$Output", name := "writeNumber", desc := "(J)V" } : Jvm.MethodName))).before a0 Z = true := hw _ (List.mem_of_getElem? (i := 21) rfl)
theorem tw22 {a0 : Array Value} {Z : State} (hw : ∀ d ∈ tables_1, d.before a0 Z = true) : ((Jvm.Cond.selects "io/mereline/SpillEncoding$Output" ({ cls := "io/mereline/SpillEncoding$Output", name := "writeNumber", desc := "(J)V" } : Jvm.MethodName) ({ cls := "io/mereline/SpillEncoding$Output", name := "writeNumber", desc := "(J)V" } : Jvm.MethodName))).before a0 Z = true := hw _ (List.mem_of_getElem? (i := 22) rfl)
theorem tw23 {a0 : Array Value} {Z : State} (hw : ∀ d ∈ tables_1, d.before a0 Z = true) : ((Jvm.Cond.code ({ cls := "io/mereline/SpillEncoding$Output", name := "writeNumber", desc := "(J)V" } : Jvm.MethodName) prog_146_method_2_code (3 : Nat) (Option.none : Option Jvm.ClassFile.FieldType))).before a0 Z = true := hw _ (List.mem_of_getElem? (i := 23) rfl)
theorem tw24 {a0 : Array Value} {Z : State} (hw : ∀ d ∈ tables_1, d.before a0 Z = true) : ((Jvm.Cond.methodLink "io/mereline/SpillEncoding$Output" (7 : Nat) ({ cls := "io/mereline/SpillEncoding$Output", name := "writeZigZag", desc := "(J)V" } : Jvm.MethodName))).before a0 Z = true := hw _ (List.mem_of_getElem? (i := 24) rfl)
theorem tw25 {a0 : Array Value} {Z : State} (hw : ∀ d ∈ tables_1, d.before a0 Z = true) : ((Jvm.Cond.sameMethod "io/mereline/SpillEncoding$Output" "io/mereline/ByteOutput" "writeZigZag" "(J)V")).before a0 Z = true := hw _ (List.mem_of_getElem? (i := 25) rfl)
theorem tw26 {a0 : Array Value} {Z : State} (hw : ∀ d ∈ tables_1, d.before a0 Z = true) : ((Jvm.Cond.declares ({ cls := "io/mereline/ByteOutput", name := "writeZigZag", desc := "(J)V" } : Jvm.MethodName))).before a0 Z = true := hw _ (List.mem_of_getElem? (i := 26) rfl)
theorem tw27 {a0 : Array Value} {Z : State} (hw : ∀ d ∈ tables_1, d.before a0 Z = true) : ((Jvm.Cond.instanceMethod ({ cls := "io/mereline/ByteOutput", name := "writeZigZag", desc := "(J)V" } : Jvm.MethodName))).before a0 Z = true := hw _ (List.mem_of_getElem? (i := 27) rfl)
theorem tw28 {a0 : Array Value} {Z : State} (hw : ∀ d ∈ tables_1, d.before a0 Z = true) : ((Jvm.Cond.selects "io/mereline/SpillEncoding$Output" ({ cls := "io/mereline/SpillEncoding$Output", name := "writeZigZag", desc := "(J)V" } : Jvm.MethodName) ({ cls := "io/mereline/ByteOutput", name := "writeZigZag", desc := "(J)V" } : Jvm.MethodName))).before a0 Z = true := hw _ (List.mem_of_getElem? (i := 28) rfl)
theorem tw29 {a0 : Array Value} {Z : State} (hw : ∀ d ∈ tables_1, d.before a0 Z = true) : ((Jvm.Cond.code ({ cls := "io/mereline/ByteOutput", name := "writeZigZag", desc := "(J)V" } : Jvm.MethodName) prog_28_method_6_code (3 : Nat) (Option.none : Option Jvm.ClassFile.FieldType))).before a0 Z = true := hw _ (List.mem_of_getElem? (i := 29) rfl)
theorem tw30 {a0 : Array Value} {Z : State} (hw : ∀ d ∈ tables_1, d.before a0 Z = true) : ((Jvm.Cond.methodLink "io/mereline/ByteOutput" (28 : Nat) ({ cls := "io/mereline/ByteOutput", name := "writeVarint", desc := "(J)V" } : Jvm.MethodName))).before a0 Z = true := hw _ (List.mem_of_getElem? (i := 30) rfl)
theorem tw31 {a0 : Array Value} {Z : State} (hw : ∀ d ∈ tables_1, d.before a0 Z = true) : ((Jvm.Cond.declares ({ cls := "io/mereline/ByteOutput", name := "writeVarint", desc := "(J)V" } : Jvm.MethodName))).before a0 Z = true := hw _ (List.mem_of_getElem? (i := 31) rfl)
theorem tw32 {a0 : Array Value} {Z : State} (hw : ∀ d ∈ tables_1, d.before a0 Z = true) : ((Jvm.Cond.instanceMethod ({ cls := "io/mereline/ByteOutput", name := "writeVarint", desc := "(J)V" } : Jvm.MethodName))).before a0 Z = true := hw _ (List.mem_of_getElem? (i := 32) rfl)
theorem tw33 {a0 : Array Value} {Z : State} (hw : ∀ d ∈ tables_1, d.before a0 Z = true) : ((Jvm.Cond.selects "io/mereline/SpillEncoding$Output" ({ cls := "io/mereline/ByteOutput", name := "writeVarint", desc := "(J)V" } : Jvm.MethodName) ({ cls := "io/mereline/ByteOutput", name := "writeVarint", desc := "(J)V" } : Jvm.MethodName))).before a0 Z = true := hw _ (List.mem_of_getElem? (i := 33) rfl)
theorem tw34 {a0 : Array Value} {Z : State} (hw : ∀ d ∈ tables_1, d.before a0 Z = true) : ((Jvm.Cond.code ({ cls := "io/mereline/ByteOutput", name := "writeVarint", desc := "(J)V" } : Jvm.MethodName) prog_28_method_7_code (5 : Nat) (Option.none : Option Jvm.ClassFile.FieldType))).before a0 Z = true := hw _ (List.mem_of_getElem? (i := 34) rfl)
theorem tw35 {a0 : Array Value} {Z : State} (hw : ∀ d ∈ tables_1, d.before a0 Z = true) : ((Jvm.Cond.methodLink "io/mereline/ByteOutput" (22 : Nat) ({ cls := "io/mereline/ByteOutput", name := "ensureRoom", desc := "(I)V" } : Jvm.MethodName))).before a0 Z = true := hw _ (List.mem_of_getElem? (i := 35) rfl)
theorem tw36 {a0 : Array Value} {Z : State} (hw : ∀ d ∈ tables_1, d.before a0 Z = true) : ((Jvm.Cond.declares ({ cls := "io/mereline/ByteOutput", name := "ensureRoom", desc := "(I)V" } : Jvm.MethodName))).before a0 Z = true := hw _ (List.mem_of_getElem? (i := 36) rfl)
theorem tw37 {a0 : Array Value} {Z : State} (hw : ∀ d ∈ tables_1, d.before a0 Z = true) : ((Jvm.Cond.instanceMethod ({ cls := "io/mereline/ByteOutput", name := "ensureRoom", desc := "(I)V" } : Jvm.MethodName))).before a0 Z = true := hw _ (List.mem_of_getElem? (i := 37) rfl)
theorem tw38 {a0 : Array Value} {Z : State} (hw : ∀ d ∈ tables_1, d.before a0 Z = true) : ((Jvm.Cond.selects "io/mereline/SpillEncoding$Output" ({ cls := "io/mereline/ByteOutput", name := "ensureRoom", desc := "(I)V" } : Jvm.MethodName) ({ cls := "io/mereline/ByteOutput", name := "ensureRoom", desc := "(I)V" } : Jvm.MethodName))).before a0 Z = true := hw _ (List.mem_of_getElem? (i := 38) rfl)
theorem tw39 {a0 : Array Value} {Z : State} (hw : ∀ d ∈ tables_1, d.before a0 Z = true) : ((Jvm.Cond.code ({ cls := "io/mereline/ByteOutput", name := "ensureRoom", desc := "(I)V" } : Jvm.MethodName) prog_28_method_21_code (6 : Nat) (Option.none : Option Jvm.ClassFile.FieldType))).before a0 Z = true := hw _ (List.mem_of_getElem? (i := 39) rfl)
theorem tw40 {a0 : Array Value} {Z : State} (hw : ∀ d ∈ tables_1, d.before a0 Z = true) : ((Jvm.Cond.fieldLink "io/mereline/ByteOutput" (19 : Nat) "io/mereline/ByteOutput" "length" "I")).before a0 Z = true := hw _ (List.mem_of_getElem? (i := 40) rfl)
theorem tw41 {a0 : Array Value} {Z : State} (hw : ∀ d ∈ tables_1, d.before a0 Z = true) : ((Jvm.Cond.lays "io/mereline/SpillEncoding$Output" "io/mereline/ByteOutput" "length" "I")).before a0 Z = true := hw _ (List.mem_of_getElem? (i := 41) rfl)
theorem tw42 {a0 : Array Value} {Z : State} (hw : ∀ d ∈ tables_1, d.before a0 Z = true) : ((Jvm.Cond.constantLong "io/mereline/ByteOutput" (111 : Nat) (2147483639 : Int64))).before a0 Z = true := hw _ (List.mem_of_getElem? (i := 42) rfl)
theorem tw43 {a0 : Array Value} {Z : State} (hw : ∀ d ∈ tables_1, d.before a0 Z = true) : ((Jvm.Cond.constant "io/mereline/ByteOutput" (120 : Nat) (2147483639 : Int32))).before a0 Z = true := hw _ (List.mem_of_getElem? (i := 43) rfl)
theorem tw44 {a0 : Array Value} {Z : State} (hw : ∀ d ∈ tables_1, d.before a0 Z = true) : ((Jvm.Cond.methodLink "io/mereline/ByteOutput" (101 : Nat) ({ cls := "java/lang/Math", name := "min", desc := "(II)I" } : Jvm.MethodName))).before a0 Z = true := hw _ (List.mem_of_getElem? (i := 44) rfl)
theorem tw45 {a0 : Array Value} {Z : State} (hw : ∀ d ∈ tables_1, d.before a0 Z = true) : ((Jvm.Cond.static ({ cls := "java/lang/Math", name := "min", desc := "(II)I" } : Jvm.MethodName))).before a0 Z = true := hw _ (List.mem_of_getElem? (i := 45) rfl)
theorem tw46 {a0 : Array Value} {Z : State} (hw : ∀ d ∈ tables_1, d.before a0 Z = true) : ((Jvm.Cond.initialized "java/lang/Math")).before a0 Z = true := hw _ (List.mem_of_getElem? (i := 46) rfl)
theorem tw47 {a0 : Array Value} {Z : State} (hw : ∀ d ∈ tables_1, d.before a0 Z = true) : ((Jvm.Cond.code ({ cls := "java/lang/Math", name := "min", desc := "(II)I" } : Jvm.MethodName) jdk_29_method_69_code (2 : Nat) (Option.some Jvm.ClassFile.FieldType.int))).before a0 Z = true := hw _ (List.mem_of_getElem? (i := 47) rfl)
theorem tw48 {a0 : Array Value} {Z : State} (hw : ∀ d ∈ tables_1, d.before a0 Z = true) : ((Jvm.Cond.methodLink "io/mereline/ByteOutput" (121 : Nat) ({ cls := "java/lang/Math", name := "max", desc := "(JJ)J" } : Jvm.MethodName))).before a0 Z = true := hw _ (List.mem_of_getElem? (i := 48) rfl)
theorem tw49 {a0 : Array Value} {Z : State} (hw : ∀ d ∈ tables_1, d.before a0 Z = true) : ((Jvm.Cond.static ({ cls := "java/lang/Math", name := "max", desc := "(JJ)J" } : Jvm.MethodName))).before a0 Z = true := hw _ (List.mem_of_getElem? (i := 49) rfl)
theorem tw50 {a0 : Array Value} {Z : State} (hw : ∀ d ∈ tables_1, d.before a0 Z = true) : ((Jvm.Cond.code ({ cls := "java/lang/Math", name := "max", desc := "(JJ)J" } : Jvm.MethodName) jdk_29_method_66_code (4 : Nat) (Option.some Jvm.ClassFile.FieldType.long))).before a0 Z = true := hw _ (List.mem_of_getElem? (i := 50) rfl)
theorem tw51 {a0 : Array Value} {Z : State} (hw : ∀ d ∈ tables_1, d.before a0 Z = true) : ((Jvm.Cond.methodLink "io/mereline/ByteOutput" (125 : Nat) ({ cls := "java/util/Arrays", name := "copyOf", desc := "([BI)[B" } : Jvm.MethodName))).before a0 Z = true := hw _ (List.mem_of_getElem? (i := 51) rfl)
theorem tw52 {a0 : Array Value} {Z : State} (hw : ∀ d ∈ tables_1, d.before a0 Z = true) : ((Jvm.Cond.static ({ cls := "java/util/Arrays", name := "copyOf", desc := "([BI)[B" } : Jvm.MethodName))).before a0 Z = true := hw _ (List.mem_of_getElem? (i := 52) rfl)
theorem tw53 {a0 : Array Value} {Z : State} (hw : ∀ d ∈ tables_1, d.before a0 Z = true) : ((Jvm.Cond.initialized "java/util/Arrays")).before a0 Z = true := hw _ (List.mem_of_getElem? (i := 53) rfl)
theorem tw54 {a0 : Array Value} {Z : State} (hw : ∀ d ∈ tables_1, d.before a0 Z = true) : ((Jvm.Cond.code ({ cls := "java/util/Arrays", name := "copyOf", desc := "([BI)[B" } : Jvm.MethodName) jdk_65_method_121_code (3 : Nat) (Option.some (Jvm.ClassFile.FieldType.array Jvm.ClassFile.FieldType.byte)))).before a0 Z = true := hw _ (List.mem_of_getElem? (i := 54) rfl)
theorem tw55 {a0 : Array Value} {Z : State} (hw : ∀ d ∈ tables_1, d.before a0 Z = true) : ((Jvm.Cond.methodLink "java/util/Arrays" (304 : Nat) ({ cls := "java/lang/Math", name := "min", desc := "(II)I" } : Jvm.MethodName))).before a0 Z = true := hw _ (List.mem_of_getElem? (i := 55) rfl)
theorem tw56 {a0 : Array Value} {Z : State} (hw : ∀ d ∈ tables_1, d.before a0 Z = true) : ((Jvm.Cond.methodLink "java/util/Arrays" (150 : Nat) ({ cls := "java/lang/System", name := "arraycopy", desc := "(Ljava/lang/Object;ILjava/lang/Object;II)V" } : Jvm.MethodName))).before a0 Z = true := hw _ (List.mem_of_getElem? (i := 56) rfl)
theorem tw57 {a0 : Array Value} {Z : State} (hw : ∀ d ∈ tables_1, d.before a0 Z = true) : ((Jvm.Cond.static ({ cls := "java/lang/System", name := "arraycopy", desc := "(Ljava/lang/Object;ILjava/lang/Object;II)V" } : Jvm.MethodName))).before a0 Z = true := hw _ (List.mem_of_getElem? (i := 57) rfl)
theorem tw58 {a0 : Array Value} {Z : State} (hw : ∀ d ∈ tables_1, d.before a0 Z = true) : ((Jvm.Cond.initialized "java/lang/System")).before a0 Z = true := hw _ (List.mem_of_getElem? (i := 58) rfl)
theorem tw59 {a0 : Array Value} {Z : State} (hw : ∀ d ∈ tables_1, d.before a0 Z = true) : ((Jvm.Cond.native ({ cls := "java/lang/System", name := "arraycopy", desc := "(Ljava/lang/Object;ILjava/lang/Object;II)V" } : Jvm.MethodName))).before a0 Z = true := hw _ (List.mem_of_getElem? (i := 59) rfl)
theorem tw60 {a0 : Array Value} {Z : State} (hw : ∀ d ∈ tables_1, d.before a0 Z = true) : ((Jvm.Cond.constantLong "io/mereline/ByteOutput" (32 : Nat) (-128 : Int64))).before a0 Z = true := hw _ (List.mem_of_getElem? (i := 60) rfl)
theorem tw61 {a0 : Array Value} {Z : State} (hw : ∀ d ∈ tables_1, d.before a0 Z = true) : ((Jvm.Cond.methodLink "io/mereline/SpillEncodingReadNumberPinLaw" (16 : Nat) ({ cls := "io/mereline/SpillEncoding$Output", name := "length", desc := "()I" } : Jvm.MethodName))).before a0 Z = true := hw _ (List.mem_of_getElem? (i := 61) rfl)
theorem tw62 {a0 : Array Value} {Z : State} (hw : ∀ d ∈ tables_1, d.before a0 Z = true) : ((Jvm.Cond.sameMethod "io/mereline/SpillEncoding$Output" "io/mereline/ByteOutput" "length" "()I")).before a0 Z = true := hw _ (List.mem_of_getElem? (i := 62) rfl)
theorem tw63 {a0 : Array Value} {Z : State} (hw : ∀ d ∈ tables_1, d.before a0 Z = true) : ((Jvm.Cond.declares ({ cls := "io/mereline/ByteOutput", name := "length", desc := "()I" } : Jvm.MethodName))).before a0 Z = true := hw _ (List.mem_of_getElem? (i := 63) rfl)
theorem tw64 {a0 : Array Value} {Z : State} (hw : ∀ d ∈ tables_1, d.before a0 Z = true) : ((Jvm.Cond.instanceMethod ({ cls := "io/mereline/ByteOutput", name := "length", desc := "()I" } : Jvm.MethodName))).before a0 Z = true := hw _ (List.mem_of_getElem? (i := 64) rfl)
theorem tw65 {a0 : Array Value} {Z : State} (hw : ∀ d ∈ tables_1, d.before a0 Z = true) : ((Jvm.Cond.selects "io/mereline/SpillEncoding$Output" ({ cls := "io/mereline/SpillEncoding$Output", name := "length", desc := "()I" } : Jvm.MethodName) ({ cls := "io/mereline/ByteOutput", name := "length", desc := "()I" } : Jvm.MethodName))).before a0 Z = true := hw _ (List.mem_of_getElem? (i := 65) rfl)
theorem tw66 {a0 : Array Value} {Z : State} (hw : ∀ d ∈ tables_1, d.before a0 Z = true) : ((Jvm.Cond.code ({ cls := "io/mereline/ByteOutput", name := "length", desc := "()I" } : Jvm.MethodName) prog_28_method_2_code (1 : Nat) (Option.some Jvm.ClassFile.FieldType.int))).before a0 Z = true := hw _ (List.mem_of_getElem? (i := 66) rfl)
theorem tw67 {a0 : Array Value} {Z : State} (hw : ∀ d ∈ tables_1, d.before a0 Z = true) : ((Jvm.Cond.constantLong "io/mereline/ByteOutput" (34 : Nat) (127 : Int64))).before a0 Z = true := hw _ (List.mem_of_getElem? (i := 67) rfl)
theorem tw68 {a0 : Array Value} {Z : State} (hw : ∀ d ∈ tables_1, d.before a0 Z = true) : ((Jvm.Cond.constantLong "io/mereline/ByteOutput" (36 : Nat) (128 : Int64))).before a0 Z = true := hw _ (List.mem_of_getElem? (i := 68) rfl)
theorem tw69 {a0 : Array Value} {Z : State} (hw : ∀ d ∈ tables_1, d.before a0 Z = true) : ((Jvm.Cond.methodLink "io/mereline/SpillEncodingReadNumberPinLaw" (20 : Nat) ({ cls := "io/mereline/SpillEncoding$Output", name := "bytes", desc := "()[B" } : Jvm.MethodName))).before a0 Z = true := hw _ (List.mem_of_getElem? (i := 69) rfl)
theorem tw70 {a0 : Array Value} {Z : State} (hw : ∀ d ∈ tables_1, d.before a0 Z = true) : ((Jvm.Cond.sameMethod "io/mereline/SpillEncoding$Output" "io/mereline/ByteOutput" "bytes" "()[B")).before a0 Z = true := hw _ (List.mem_of_getElem? (i := 70) rfl)
theorem tw71 {a0 : Array Value} {Z : State} (hw : ∀ d ∈ tables_1, d.before a0 Z = true) : ((Jvm.Cond.declares ({ cls := "io/mereline/ByteOutput", name := "bytes", desc := "()[B" } : Jvm.MethodName))).before a0 Z = true := hw _ (List.mem_of_getElem? (i := 71) rfl)
theorem tw72 {a0 : Array Value} {Z : State} (hw : ∀ d ∈ tables_1, d.before a0 Z = true) : ((Jvm.Cond.instanceMethod ({ cls := "io/mereline/ByteOutput", name := "bytes", desc := "()[B" } : Jvm.MethodName))).before a0 Z = true := hw _ (List.mem_of_getElem? (i := 72) rfl)
theorem tw73 {a0 : Array Value} {Z : State} (hw : ∀ d ∈ tables_1, d.before a0 Z = true) : ((Jvm.Cond.selects "io/mereline/SpillEncoding$Output" ({ cls := "io/mereline/SpillEncoding$Output", name := "bytes", desc := "()[B" } : Jvm.MethodName) ({ cls := "io/mereline/ByteOutput", name := "bytes", desc := "()[B" } : Jvm.MethodName))).before a0 Z = true := hw _ (List.mem_of_getElem? (i := 73) rfl)
theorem tw74 {a0 : Array Value} {Z : State} (hw : ∀ d ∈ tables_1, d.before a0 Z = true) : ((Jvm.Cond.code ({ cls := "io/mereline/ByteOutput", name := "bytes", desc := "()[B" } : Jvm.MethodName) prog_28_method_4_code (1 : Nat) (Option.some (Jvm.ClassFile.FieldType.array Jvm.ClassFile.FieldType.byte)))).before a0 Z = true := hw _ (List.mem_of_getElem? (i := 74) rfl)
theorem tw75 {a0 : Array Value} {Z : State} (hw : ∀ d ∈ tables_1, d.before a0 Z = true) : ((Jvm.Cond.methodLink "io/mereline/SpillEncodingReadNumberPinLaw" (24 : Nat) ({ cls := "io/mereline/SpillEncoding", name := "readNumber", desc := "([BI)J" } : Jvm.MethodName))).before a0 Z = true := hw _ (List.mem_of_getElem? (i := 75) rfl)
theorem tw76 {a0 : Array Value} {Z : State} (hw : ∀ d ∈ tables_1, d.before a0 Z = true) : ((Jvm.Cond.static ({ cls := "io/mereline/SpillEncoding", name := "readNumber", desc := "([BI)J" } : Jvm.MethodName))).before a0 Z = true := hw _ (List.mem_of_getElem? (i := 76) rfl)
theorem tw77 {a0 : Array Value} {Z : State} (hw : ∀ d ∈ tables_1, d.before a0 Z = true) : ((Jvm.Cond.initialized "io/mereline/SpillEncoding")).before a0 Z = true := hw _ (List.mem_of_getElem? (i := 77) rfl)
theorem tw78 {a0 : Array Value} {Z : State} (hw : ∀ d ∈ tables_1, d.before a0 Z = true) : ((Jvm.Cond.code ({ cls := "io/mereline/SpillEncoding", name := "readNumber", desc := "([BI)J" } : Jvm.MethodName) prog_144_method_2_code (7 : Nat) (Option.some Jvm.ClassFile.FieldType.long))).before a0 Z = true := hw _ (List.mem_of_getElem? (i := 78) rfl)
theorem own_nn {x : Int32} (h : 0 ≤ x.toInt) : x.toInt = (x.toBitVec.toNat : Int) := by
  have q := BitVec.toInt_eq_toNat_cond x.toBitVec
  have e : x.toInt = x.toBitVec.toInt := rfl
  rw [e] at h ⊢
  rw [q] at h ⊢
  have := x.toBitVec.isLt
  split at h <;> rename_i c
  · rw [if_pos c]
  · omega
theorem own_nn' {x : Int32} (h : x.toBitVec.toNat < 2147483648) : x.toInt = (x.toBitVec.toNat : Int) := by
  have q := BitVec.toInt_eq_toNat_cond x.toBitVec
  have e : x.toInt = x.toBitVec.toInt := rfl
  rw [e, q, if_pos (by omega)]
theorem own_ofnat {x : Int32} (h : 0 ≤ x.toInt) : x = Int32.ofNat x.toBitVec.toNat := by
  apply Int32.toBitVec_inj.mp
  apply BitVec.eq_of_toNat_eq
  show _ = (BitVec.ofNat 32 x.toBitVec.toNat).toNat
  rw [BitVec.toNat_ofNat, Nat.mod_eq_of_lt x.toBitVec.isLt]
theorem own_b32 (x : Int32) : -2147483648 ≤ x.toInt ∧ x.toInt < 2147483648 := ⟨Int32.le_toInt x, Int32.toInt_lt x⟩
theorem own_b64 (x : Int64) : -9223372036854775808 ≤ x.toInt ∧ x.toInt < 9223372036854775808 := ⟨Int64.le_toInt x, Int64.toInt_lt x⟩
theorem own_add64 {x y : Int64} (h1 : -9223372036854775808 ≤ x.toInt + y.toInt) (h2 : x.toInt + y.toInt < 9223372036854775808) : (x + y).toInt = x.toInt + y.toInt := XT.add64 ⟨h1, h2⟩
theorem own_sub64 {x y : Int64} (h1 : -9223372036854775808 ≤ x.toInt - y.toInt) (h2 : x.toInt - y.toInt < 9223372036854775808) : (x - y).toInt = x.toInt - y.toInt := XT.sub64 ⟨h1, h2⟩
theorem own_mul64 {x y : Int64} (h1 : -9223372036854775808 ≤ x.toInt * y.toInt) (h2 : x.toInt * y.toInt < 9223372036854775808) : (x * y).toInt = x.toInt * y.toInt := XT.mul64 ⟨h1, h2⟩
theorem own_add32 {x y : Int32} (h1 : -2147483648 ≤ x.toInt + y.toInt) (h2 : x.toInt + y.toInt < 2147483648) : (x + y).toInt = x.toInt + y.toInt := XT.add32 ⟨h1, h2⟩
theorem own_sub32 {x y : Int32} (h1 : -2147483648 ≤ x.toInt - y.toInt) (h2 : x.toInt - y.toInt < 2147483648) : (x - y).toInt = x.toInt - y.toInt := XT.sub32 ⟨h1, h2⟩
theorem own_w (x : Int32) : x.toInt64.toInt = x.toInt := Int32.toInt_toInt64 x
theorem own_div64 {x y : Int64} (hx : 0 ≤ x.toInt) (hy : 0 < y.toInt) : (x / y).toInt = x.toInt / y.toInt := by
  rw [Int64.toInt_div, Int.tdiv_eq_ediv_of_nonneg hx]
  have b := own_b64 x
  have h1 : 0 ≤ x.toInt / y.toInt := Int.ediv_nonneg hx (Int.le_of_lt hy)
  have h2 : x.toInt / y.toInt ≤ x.toInt := Int.ediv_le_self _ hx
  exact Int.bmod_eq_of_le (by omega) (by omega)
theorem own_div32 {x y : Int32} (hx : 0 ≤ x.toInt) (hy : 0 < y.toInt) : (x / y).toInt = x.toInt / y.toInt := by
  rw [Int32.toInt_div, Int.tdiv_eq_ediv_of_nonneg hx]
  have b := own_b32 x
  have h1 : 0 ≤ x.toInt / y.toInt := Int.ediv_nonneg hx (Int.le_of_lt hy)
  have h2 : x.toInt / y.toInt ≤ x.toInt := Int.ediv_le_self _ hx
  exact Int.bmod_eq_of_le (by omega) (by omega)
theorem own_rem32 {x y : Int32} (hx : 0 ≤ x.toInt) : (x % y).toInt = x.toInt % y.toInt := by
  rw [Int32.toInt_mod, Int.tmod_eq_emod_of_nonneg hx]
theorem own_pos32 (x : Int32) : 0 ≤ (x &&& 2147483647).toInt := by
  have q := (XT.and_neg32 x 2147483647)
  rw [XT.negI32] at q
  have r : ¬ (x &&& 2147483647).toInt < 0 := fun h => absurd (q.mp h).2 (by decide)
  omega
theorem own_pos64 (x : Int64) : 0 ≤ (x &&& 9223372036854775807).toInt := by
  have q := (XT.and_neg64 x 9223372036854775807)
  rw [XT.negI64] at q
  have r : ¬ (x &&& 9223372036854775807).toInt < 0 := fun h => absurd (q.mp h).2 (by decide)
  omega
theorem own_lt32 {x y : Int32} : x < y ↔ x.toInt < y.toInt := Int32.lt_iff_toInt_lt
theorem own_lt64 {x y : Int64} : x < y ↔ x.toInt < y.toInt := Int64.lt_iff_toInt_lt
theorem own_eq32 {x y : Int32} : x = y ↔ x.toInt = y.toInt := ⟨fun h => h ▸ rfl, Int32.toInt_inj.mp⟩
theorem own_eq64 {x y : Int64} : x = y ↔ x.toInt = y.toInt := ⟨fun h => h ▸ rfl, Int64.toInt_inj.mp⟩
theorem own_255 (i : Nat) : (255#32).getLsbD i = decide (i < 8) := by
  show (BitVec.ofNat 32 (2 ^ 8 - 1)).getLsbD i = _
  rw [BitVec.getLsbD_ofNat, Nat.testBit_two_pow_sub_one]
  by_cases h : i < 8
  · simp [h, show i < 32 by omega]
  · simp [h]
theorem own_sx (x : BitVec 32) (i : Nat) (h : i < 8) : ((x.signExtend 8).signExtend 32).getLsbD i = x.getLsbD i := by
  rw [BitVec.getLsbD_signExtend, if_pos h, BitVec.getLsbD_signExtend, if_pos (show i < 32 by omega)]
  rw [decide_eq_true h, decide_eq_true (show i < 32 by omega), Bool.true_and, Bool.true_and]
theorem own_byte (x : Int32) : (nar .byte x) &&& 255 = x &&& 255 := by
  apply Int32.toBitVec_inj.mp
  rw [Int32.toBitVec_and, Int32.toBitVec_and]
  show ((x.toBitVec.signExtend 8).signExtend 32) &&& 255#32 = x.toBitVec &&& 255#32
  apply BitVec.eq_of_getLsbD_eq
  intro i hi
  rw [BitVec.getLsbD_and, BitVec.getLsbD_and, own_255]
  by_cases h : i < 8
  · rw [own_sx _ _ h]
  · simp [h]
theorem own_byte2 (x : Int32) : (nar .byte (x.toInt8.toInt32)) &&& 255 = x &&& 255 := by
  rw [own_byte]; exact own_byte x
theorem own_cat4 (w : BitVec 32) : (((w >>> 24 &&& 255#32) <<< 24 ||| (w >>> 16 &&& 255#32) <<< 16) ||| (w >>> 8 &&& 255#32) <<< 8) ||| (w &&& 255#32) = w := by
  apply BitVec.eq_of_getLsbD_eq
  intro i hi
  simp only [BitVec.getLsbD_or, BitVec.getLsbD_and, BitVec.getLsbD_shiftLeft, BitVec.getLsbD_ushiftRight, own_255]
  have q : i < 8 ∨ (8 ≤ i ∧ i < 16) ∨ (16 ≤ i ∧ i < 24) ∨ (24 ≤ i ∧ i < 32) := by omega
  rcases q with q | q | q | q
  · simp [q, show i < 16 by omega, show i < 24 by omega]
  · simp [show i < 32 by omega, show i < 16 by omega, show i < 24 by omega, show ¬ i < 8 by omega, show 8 + (i - 8) = i by omega, show i - 8 < 8 by omega]
  · simp [show i < 32 by omega, show ¬ i < 16 by omega, show i < 24 by omega, show ¬ i < 8 by omega, show 16 + (i - 16) = i by omega, show i - 16 < 8 by omega, show ¬ i - 8 < 8 by omega]
  · simp [show i < 32 by omega, show ¬ i < 16 by omega, show ¬ i < 24 by omega, show ¬ i < 8 by omega, show 24 + (i - 24) = i by omega, show i - 24 < 8 by omega, show ¬ i - 8 < 8 by omega, show ¬ i - 16 < 8 by omega]
theorem own_ushr32 (z k : Int32) (n : Nat) (hk : (k &&& 31).toUInt32.toBitVec.toNat = n) (hn : n < 32) : (XT.ushr z k).toBitVec = z.toBitVec >>> n := by
  unfold XT.ushr
  show (z.toUInt32 >>> (k &&& 31).toUInt32).toBitVec = _
  rw [UInt32.toBitVec_shiftRight]
  show z.toBitVec >>> ((k &&& 31).toUInt32.toBitVec % 32) = _
  rw [BitVec.ushiftRight_eq']
  congr 1
  rw [BitVec.toNat_umod, hk]
  exact Nat.mod_eq_of_lt hn
theorem own_shl32 (z k : Int32) (n : Nat) (hk : (k &&& 31).toBitVec.toNat = n) (hn : n < 32) : (z <<< (k &&& 31)).toBitVec = z.toBitVec <<< n := by
  rw [Int32.toBitVec_shiftLeft]
  show z.toBitVec <<< ((k &&& 31).toBitVec.smod 32) = _
  have e : (k &&& 31).toBitVec.smod 32#32 = (k &&& 31).toBitVec := by
    rw [show (k &&& 31).toBitVec = BitVec.ofNat 32 n from BitVec.eq_of_toNat_eq (by rw [hk, BitVec.toNat_ofNat, Nat.mod_eq_of_lt (by omega)])]
    have : ∀ m : Fin 32, (BitVec.ofNat 32 m.val).smod 32#32 = BitVec.ofNat 32 m.val := by decide +kernel
    exact this ⟨n, hn⟩
  show z.toBitVec <<< ((k &&& 31).toBitVec.smod 32#32) = _
  rw [e, BitVec.shiftLeft_eq', hk]
def own_w4 (b3 b2 b1 b0 : Int32) : Int32 := (((b3 &&& 255) <<< ((24 : Int32) &&& 31) ||| (b2 &&& 255) <<< ((16 : Int32) &&& 31)) ||| (b1 &&& 255) <<< ((8 : Int32) &&& 31)) ||| (b0 &&& 255)
theorem own_word (w : Int32) : own_w4 (nar .byte (XT.ushr w 24).toInt8.toInt32) (nar .byte (XT.ushr w 16).toInt8.toInt32) (nar .byte (XT.ushr w 8).toInt8.toInt32) (nar .byte w.toInt8.toInt32) = w := by
  unfold own_w4
  rw [own_byte2, own_byte2, own_byte2, own_byte2]
  apply Int32.toBitVec_inj.mp
  rw [Int32.toBitVec_or, Int32.toBitVec_or, Int32.toBitVec_or, own_shl32 _ 24 24 (by decide) (by decide), own_shl32 _ 16 16 (by decide) (by decide), own_shl32 _ 8 8 (by decide) (by decide),
    Int32.toBitVec_and, Int32.toBitVec_and, Int32.toBitVec_and, Int32.toBitVec_and, own_ushr32 _ 24 24 (by decide) (by decide), own_ushr32 _ 16 16 (by decide) (by decide), own_ushr32 _ 8 8 (by decide) (by decide)]
  exact own_cat4 w.toBitVec
def own_zz (v : Int64) : Int64 := (v <<< ((1 : Int32).toInt64 &&& 63)) ^^^ (v >>> ((63 : Int32).toInt64 &&& 63))
def own_unzz (z : Int64) : Int64 := XT.ushrL z 1 ^^^ -(z &&& 1)
theorem own_shl64 (z : Int64) (k : Int32) (n : Nat) (hk : (k.toInt64 &&& 63).toBitVec.toNat = n) (hn : n < 64) : (z <<< (k.toInt64 &&& 63)).toBitVec = z.toBitVec <<< n := by
  rw [Int64.toBitVec_shiftLeft]
  have e : (k.toInt64 &&& 63).toBitVec.smod 64#64 = (k.toInt64 &&& 63).toBitVec := by
    rw [show (k.toInt64 &&& 63).toBitVec = BitVec.ofNat 64 n from BitVec.eq_of_toNat_eq (by rw [hk, BitVec.toNat_ofNat, Nat.mod_eq_of_lt (by omega)])]
    have : ∀ m : Fin 64, (BitVec.ofNat 64 m.val).smod 64#64 = BitVec.ofNat 64 m.val := by decide +kernel
    exact this ⟨n, hn⟩
  show z.toBitVec <<< ((k.toInt64 &&& 63).toBitVec.smod 64#64) = _
  rw [e, BitVec.shiftLeft_eq', hk]
theorem own_sar64 (z : Int64) (k : Int32) (n : Nat) (hk : (k.toInt64 &&& 63).toBitVec.toNat = n) (hn : n < 64) : (z >>> (k.toInt64 &&& 63)).toBitVec = z.toBitVec.sshiftRight n := by
  rw [Int64.toBitVec_shiftRight]
  have e : (k.toInt64 &&& 63).toBitVec.smod 64#64 = (k.toInt64 &&& 63).toBitVec := by
    rw [show (k.toInt64 &&& 63).toBitVec = BitVec.ofNat 64 n from BitVec.eq_of_toNat_eq (by rw [hk, BitVec.toNat_ofNat, Nat.mod_eq_of_lt (by omega)])]
    have : ∀ m : Fin 64, (BitVec.ofNat 64 m.val).smod 64#64 = BitVec.ofNat 64 m.val := by decide +kernel
    exact this ⟨n, hn⟩
  show z.toBitVec.sshiftRight' ((k.toInt64 &&& 63).toBitVec.smod 64#64) = _
  rw [e]
  show z.toBitVec.sshiftRight (k.toInt64 &&& 63).toBitVec.toNat = _
  rw [hk]
theorem own_ushr64 (z : Int64) (k : Int32) (n : Nat) (hk : (k.toInt64.toUInt64 &&& Int64.toUInt64 63).toBitVec.toNat = n) (hn : n < 64) : (XT.ushrL z k).toBitVec = z.toBitVec >>> n := by
  unfold XT.ushrL
  show (z.toUInt64 >>> (k.toInt64.toUInt64 &&& Int64.toUInt64 63)).toBitVec = _
  rw [UInt64.toBitVec_shiftRight]
  show z.toBitVec >>> ((k.toInt64.toUInt64 &&& Int64.toUInt64 63).toBitVec % 64) = _
  rw [BitVec.ushiftRight_eq']
  congr 1
  rw [BitVec.toNat_umod, hk]
  exact Nat.mod_eq_of_lt hn
theorem own_zzb (v : BitVec 64) : (((v <<< 1) ^^^ v.sshiftRight 63) >>> 1) ^^^ -(((v <<< 1) ^^^ v.sshiftRight 63) &&& 1#64) = v := by
  have one : (1#64) = BitVec.twoPow 64 0 := by decide
  cases hm : v.msb
  · have s0 : v.sshiftRight 63 = 0#64 := by
      apply BitVec.eq_of_getLsbD_eq
      intro i hi
      rw [BitVec.getLsbD_sshiftRight, hm]
      by_cases q : 63 + i < 64
      · have : i = 0 := by omega
        subst this
        have e : v.getLsbD 63 = v.msb := by rw [BitVec.msb_eq_getLsbD_last]
        rw [if_pos q, show 63 + 0 = 63 from rfl, e, hm]; rfl
      · rw [if_neg q, BitVec.getLsbD_zero, Bool.and_false]
    rw [s0, BitVec.xor_zero]
    have a0 : (v <<< 1) &&& 1#64 = 0#64 := by
      rw [one, BitVec.and_twoPow]; simp
    rw [a0, BitVec.neg_zero, BitVec.xor_zero]
    apply BitVec.eq_of_getLsbD_eq
    intro i hi
    rw [BitVec.getLsbD_ushiftRight, BitVec.getLsbD_shiftLeft]
    by_cases q : 1 + i < 64
    · simp [q, show 1 + i - 1 = i by omega, show ¬ (1 + i < 1) by omega]
    · have : i = 63 := by omega
      subst this
      have e : v.getLsbD 63 = v.msb := by rw [BitVec.msb_eq_getLsbD_last]
      rw [e, hm]; simp
  · have s1 : v.sshiftRight 63 = BitVec.allOnes 64 := by
      apply BitVec.eq_of_getLsbD_eq
      intro i hi
      rw [BitVec.getLsbD_sshiftRight, hm]
      by_cases q : 63 + i < 64
      · have : i = 0 := by omega
        subst this
        have e : v.getLsbD 63 = v.msb := by rw [BitVec.msb_eq_getLsbD_last]
        rw [if_pos q, show 63 + 0 = 63 from rfl, e, hm]; rfl
      · rw [if_neg q, BitVec.getLsbD_allOnes, Bool.and_true, decide_eq_true hi, decide_eq_false (show ¬ 64 ≤ i by omega)]; rfl
    rw [s1, BitVec.xor_allOnes]
    have a1 : (~~~(v <<< 1)) &&& 1#64 = 1#64 := by
      rw [one, BitVec.and_twoPow]; simp
    have n1 : -(1#64) = BitVec.allOnes 64 := by decide
    rw [a1, n1, BitVec.xor_allOnes]
    apply BitVec.eq_of_getLsbD_eq
    intro i hi
    rw [BitVec.getLsbD_not, BitVec.getLsbD_ushiftRight, BitVec.getLsbD_not, BitVec.getLsbD_shiftLeft]
    by_cases q : 1 + i < 64
    · simp [q, hi, show 1 + i - 1 = i by omega, show ¬ (1 + i < 1) by omega]
    · have : i = 63 := by omega
      subst this
      have e : v.getLsbD 63 = v.msb := by rw [BitVec.msb_eq_getLsbD_last]
      rw [e, hm]; simp
theorem own_unzz_zz (v : Int64) : own_unzz (own_zz v) = v := by
  apply Int64.toBitVec_inj.mp
  unfold own_unzz
  rw [Int64.toBitVec_xor, own_ushr64 _ 1 1 (by decide) (by decide), Int64.toBitVec_neg, Int64.toBitVec_and]
  have z : (own_zz v).toBitVec = (v.toBitVec <<< 1) ^^^ v.toBitVec.sshiftRight 63 := by
    unfold own_zz
    rw [Int64.toBitVec_xor, own_shl64 _ 1 1 (by decide) (by decide), own_sar64 _ 63 63 (by decide) (by decide)]
  rw [z]
  exact own_zzb v.toBitVec
def own_B (x : Int64) : Int32 := nar .byte (x.toInt32).toInt8.toInt32
def own_var : Nat → Int64 → List Int32
  | 0, _ => []
  | k + 1, v => if v &&& -128 = 0 then [own_B v] else own_B ((v &&& 127) ||| 128) :: own_var k (XT.ushrL v 7)
theorem own_bytem (x m : Int32) (hm : 255 &&& m = m) : (nar .byte x) &&& m = x &&& m := by
  rw [← hm, ← Int32.and_assoc, own_byte, Int32.and_assoc]
theorem own_Bm (x : Int64) (m : Int32) (hm : 255 &&& m = m) : own_B x &&& m = x.toInt32 &&& m := by
  unfold own_B
  rw [own_bytem _ m hm]; exact own_bytem x.toInt32 m hm
theorem own_127 (w : Nat) (hw : 7 ≤ w) (i : Nat) : (BitVec.ofNat w 127).getLsbD i = decide (i < 7) := by
  show (BitVec.ofNat w (2 ^ 7 - 1)).getLsbD i = _
  rw [BitVec.getLsbD_ofNat, Nat.testBit_two_pow_sub_one]
  by_cases h : i < 7
  · simp [h, show i < w by omega]
  · simp [h]
theorem own_cut (x : Int64) : (x.toInt32 &&& 127).toInt64 = x &&& 127 := by
  apply Int64.toBitVec_inj.mp
  show ((x.toBitVec.signExtend 32) &&& 127#32).signExtend 64 = x.toBitVec &&& 127#64
  apply BitVec.eq_of_getLsbD_eq
  intro i hi
  have m0 : ((x.toBitVec.signExtend 32) &&& 127#32).msb = false := by
    rw [BitVec.msb_eq_getLsbD_last, BitVec.getLsbD_and, own_127 32 (by decide)]; simp
  rw [BitVec.getLsbD_signExtend, m0, BitVec.getLsbD_and, BitVec.getLsbD_and, own_127 32 (by decide), own_127 64 (by decide), BitVec.getLsbD_signExtend]
  by_cases h : i < 7
  · simp [h, hi, show i < 32 by omega]
  · simp [h]
theorem own_hi (v : BitVec 64) : (v &&& (-128#64) = 0#64) ↔ v.toNat < 128 := by
  have e : (-128#64) = ~~~(127#64) := by decide
  rw [e]
  constructor
  · intro h
    have q : v = v &&& 127#64 := by
      apply BitVec.eq_of_getLsbD_eq
      intro i hi
      have g := congrArg (fun b => BitVec.getLsbD b i) h
      simp only [BitVec.getLsbD_and, BitVec.getLsbD_not, own_127 64 (by decide), BitVec.getLsbD_zero] at g
      rw [BitVec.getLsbD_and, own_127 64 (by decide)]
      by_cases k : i < 7
      · simp [k]
      · simp [k, hi] at g ⊢; exact g
    rw [q, BitVec.toNat_and]
    exact Nat.lt_of_le_of_lt Nat.and_le_right (by decide)
  · intro h
    apply BitVec.eq_of_getLsbD_eq
    intro i hi
    rw [BitVec.getLsbD_and, BitVec.getLsbD_not, own_127 64 (by decide), BitVec.getLsbD_zero]
    by_cases k : i < 7
    · simp [k]
    · have : v.getLsbD i = false := by
        rw [BitVec.getLsbD, Nat.testBit_lt_two_pow]
        exact Nat.lt_of_lt_of_le (show v.toNat < 2 ^ 7 from h) (Nat.pow_le_pow_right (by decide : 0 < 2) (show 7 ≤ i by omega))
      simp [this]
theorem own_hi64 (v : Int64) : (v &&& -128 = 0) ↔ v.toBitVec.toNat < 128 := by
  rw [← Int64.toBitVec_inj, Int64.toBitVec_and]
  exact own_hi v.toBitVec
theorem own_shr7 (v : Int64) : (XT.ushrL v 7).toBitVec.toNat = v.toBitVec.toNat / 128 := by
  rw [own_ushr64 v 7 7 (by decide) (by decide), BitVec.toNat_ushiftRight, Nat.shiftRight_eq_div_pow]
theorem own_comb (a v : BitVec 64) (s : Nat) (hs : s + 7 < 64) : (a ||| ((v &&& 127#64) <<< s)) ||| ((v >>> 7) <<< (s + 7)) = a ||| (v <<< s) := by
  apply BitVec.eq_of_getLsbD_eq
  intro i hi
  simp only [BitVec.getLsbD_or, BitVec.getLsbD_and, BitVec.getLsbD_shiftLeft, BitVec.getLsbD_ushiftRight, own_127 64 (by decide)]
  by_cases h1 : i < s
  · simp [h1, show i < s + 7 by omega]
  · by_cases h2 : i < s + 7
    · simp [h1, h2, show i - s < 7 by omega]
    · simp [h1, h2, hi, show ¬ (i - s < 7) by omega, show 7 + (i - (s + 7)) = i - s by omega]
theorem own_and127 {v : BitVec 64} (h : v.toNat < 128) : v &&& 127#64 = v := by
  apply BitVec.eq_of_toNat_eq
  rw [BitVec.toNat_and]
  show v.toNat &&& 127 = _
  have q := Nat.and_two_pow_sub_one_eq_mod v.toNat 7
  rw [show (127 : Nat) = 2 ^ 7 - 1 from rfl, q]; omega
/-- the byte that is written while more follow -/
theorem own_more (v : Int64) : ¬ (own_B ((v &&& 127) ||| 128) &&& 128) = 0 ∧ (own_B ((v &&& 127) ||| 128) &&& 127).toInt64 = v &&& 127 := by
  constructor
  · rw [own_Bm _ 128 (by decide)]
    intro h
    have g := congrArg (fun b => BitVec.getLsbD b 7) (Int32.toBitVec_inj.mpr h)
    have e : (((v &&& 127) ||| 128).toInt32 &&& 128).toBitVec = (((v.toBitVec &&& 127#64) ||| 128#64).signExtend 32) &&& 128#32 := rfl
    rw [e] at g
    simp only [BitVec.getLsbD_and, BitVec.getLsbD_signExtend, BitVec.getLsbD_or] at g
    revert g
    have a1 : (128#32).getLsbD 7 = true := by decide
    have a2 : (128#64).getLsbD 7 = true := by decide
    have a3 : (Int32.toBitVec 0).getLsbD 7 = false := by decide
    simp [a1, a2, a3]
  · rw [own_Bm _ 127 (by decide), own_cut]
    apply Int64.toBitVec_inj.mp
    rw [Int64.toBitVec_and, Int64.toBitVec_or, Int64.toBitVec_and]
    show ((v.toBitVec &&& 127#64) ||| 128#64) &&& 127#64 = v.toBitVec &&& 127#64
    apply BitVec.eq_of_getLsbD_eq
    intro i hi
    have a4 : (128#64) &&& 127#64 = 0#64 := by decide
    have a5 : ((128#64).getLsbD i && decide (i < 7)) = false := by
      have := congrArg (fun b => BitVec.getLsbD b i) a4
      simp only [BitVec.getLsbD_and, own_127 64 (by decide), BitVec.getLsbD_zero] at this
      exact this
    simp only [BitVec.getLsbD_and, BitVec.getLsbD_or, own_127 64 (by decide)]
    cases hd : decide (i < 7)
    · simp
    · rw [hd, Bool.and_true] at a5; rw [a5]; simp
/-- the last byte -/
theorem own_lastb {v : Int64} (h : v &&& -128 = 0) : (own_B v &&& 128) = 0 ∧ (own_B v &&& 127).toInt64 = v := by
  have h' := (own_hi64 v).mp h
  constructor
  · rw [own_Bm _ 128 (by decide)]
    apply Int32.toBitVec_inj.mp
    show (v.toBitVec.signExtend 32) &&& 128#32 = 0#32
    apply BitVec.eq_of_getLsbD_eq
    intro i hi
    rw [BitVec.getLsbD_and, BitVec.getLsbD_zero]
    by_cases k : i = 7
    · subst k
      have : v.toBitVec.getLsbD 7 = false := by
        rw [BitVec.getLsbD, Nat.testBit_lt_two_pow]; exact h'
      rw [BitVec.getLsbD_signExtend, if_pos (by decide), this]; rfl
    · have : (128#32).getLsbD i = false := by
        have q : ∀ j : Fin 32, j.val ≠ 7 → (128#32).getLsbD j.val = false := by decide +kernel
        exact q ⟨i, hi⟩ k
      rw [this, Bool.and_false]
  · rw [own_Bm _ 127 (by decide), own_cut]
    apply Int64.toBitVec_inj.mp
    rw [Int64.toBitVec_and]
    exact own_and127 h'
def own_ok (xs cs : List Int32) (B : Nat) : Prop := cs <+: xs ∧ xs.length ≤ B ∧ ∀ x ∈ xs, fits .byte (.int x) = true
theorem own_fitB (x : Int32) : fits .byte (.int (nar .byte x)) = true := by
  have e : ∀ b : BitVec 8, fits .byte (.int ⟨⟨b.signExtend 32⟩⟩) = true := by decide +kernel
  exact e (x.toBitVec.signExtend 8)
theorem own_fit0 : fits .byte (.int 0) = true := by decide
theorem own_lenI {n : Nat} (h : n ≤ 128) : n.toInt32.toInt = n := len_toInt (by omega)
theorem own_lenn {n : Nat} (h : n ≤ 128) : ¬ n.toInt32 < 0 := by
  rw [own_lt32, own_lenI h]; show ¬ (n : Int) < 0; omega
theorem own_lenN {n : Nat} (h : n ≤ 128) : n.toInt32.toNatClampNeg = n := by
  have q := nat_of (own_lenn h)
  have e := own_lenI h
  omega
theorem own_lens {n : Nat} (h : n ≤ 127) : n.toInt32 + 1 = (n + 1).toInt32 := by
  have c1 : (1 : Int32).toInt = 1 := by decide
  rw [own_eq32, own_add32 (by rw [own_lenI (by omega), c1]; omega) (by rw [own_lenI (by omega), c1]; omega), own_lenI (by omega), own_lenI (by omega), c1]
  omega
theorem own_put {xs cs : List Int32} {B : Nat} {x : Int32} (ok : own_ok xs cs B) (h : cs.length < xs.length) : own_ok (xs.set cs.length (nar .byte x)) (cs ++ [nar .byte x]) B := by
  obtain ⟨⟨r, hr⟩, l, f⟩ := ok
  refine ⟨?_, by rw [List.length_set]; exact l, fun y hy => ?_⟩
  · subst hr
    match r with
    | [] => simp at h
    | z :: r' => exact ⟨r', by simp⟩
  · rcases List.mem_or_eq_of_mem_set hy with q | q
    · exact f y q
    · rw [q]; exact own_fitB x
theorem own_var_len : ∀ (k : Nat) (v : Int64), (own_var k v).length ≤ k
  | 0, _ => Nat.le_refl _
  | k + 1, v => by
    unfold own_var
    split
    · simp
    · have := own_var_len k (XT.ushrL v 7)
      simp; exact this
/-- what ensureRoom asks for -/
def own_N (n L : Nat) : Nat := max (n + 10) (L + L / 2)
theorem own_w2 {n : Nat} (h : n ≤ 128) : (n.toInt32.toInt64 + (10 : Int32).toInt64).toInt = n + 10 := by
  have c : ((10 : Int32).toInt64).toInt = 10 := by decide
  rw [own_add64 (by rw [own_w, own_lenI h, c]; omega) (by rw [own_w, own_lenI h, c]; omega), own_w, own_lenI h, c]
theorem own_half {L : Nat} (h : L ≤ 64) : (L.toInt32 + (L.toInt32 >>> ((1 : Int32) &&& 31))) = (L + L / 2).toInt32 := by
  have : ∀ k : Fin 65, (k.val.toInt32 + (k.val.toInt32 >>> ((1 : Int32) &&& 31))) = (k.val + k.val / 2).toInt32 := by decide +kernel
  exact this ⟨L, by omega⟩
theorem own_grow {n L : Nat} (hn : n ≤ 64) (hL : L ≤ 40) : ((if (n.toInt32.toInt64 + (10 : Int32).toInt64) < ((if (L.toInt32 + (L.toInt32 >>> ((1 : Int32) &&& 31))) < (2147483639 : Int32) then (L.toInt32 + (L.toInt32 >>> ((1 : Int32) &&& 31))) else (2147483639 : Int32))).toInt64 then ((if (L.toInt32 + (L.toInt32 >>> ((1 : Int32) &&& 31))) < (2147483639 : Int32) then (L.toInt32 + (L.toInt32 >>> ((1 : Int32) &&& 31))) else (2147483639 : Int32))).toInt64 else (n.toInt32.toInt64 + (10 : Int32).toInt64))).toInt32 = (own_N n L).toInt32 := by
  rw [own_half (by omega)]
  have c : (2147483639 : Int32).toInt = 2147483639 := by decide
  have e := own_lenI (n := L + L / 2) (by omega)
  rw [if_pos (show (L + L / 2).toInt32 < (2147483639 : Int32) by rw [own_lt32, e, c]; omega)]
  have w := own_w2 (n := n) (by omega)
  have f := own_lenI (n := own_N n L) (by unfold own_N; omega)
  by_cases q : (n.toInt32.toInt64 + (10 : Int32).toInt64) < (L + L / 2).toInt32.toInt64
  · rw [if_pos q]
    rw [own_lt64, w, own_w, e] at q
    rw [own_eq32, f, XT.narrowInt ⟨by rw [own_w, e]; omega, by rw [own_w, e]; omega⟩, own_w, e]
    unfold own_N; omega
  · rw [if_neg q]
    rw [own_lt64, w, own_w, e] at q
    rw [own_eq32, f, XT.narrowInt ⟨by rw [w]; omega, by rw [w]; omega⟩, w]
    unfold own_N; omega
theorem own_copy {xs : List Int32} {N : Nat} (h : xs.length ≤ N) : (List.replicate N (0 : Int32)).take 0 ++ (xs.drop 0).take xs.length ++ (List.replicate N 0).drop (0 + xs.length) = xs ++ List.replicate (N - xs.length) 0 := by
  simp
theorem own_minr {n : Int32} {xs : List Int32} (hlt : xs.length < n.toNatClampNeg) (hl : xs.length ≤ 64) : ¬ (if n < xs.length.toInt32 then n else xs.length.toInt32) < 0 ∧ (if n < xs.length.toInt32 then n else xs.length.toInt32).toNatClampNeg = xs.length := by
  have e := own_lenI (n := xs.length) (by omega)
  have e2 := own_lenN (n := xs.length) (by omega)
  have q : ¬ n < xs.length.toInt32 := by
    rw [own_lt32, e]
    have : ¬ n < 0 := by
      intro h
      have : n.toNatClampNeg = 0 := by
        rw [own_lt32] at h
        show n.toInt.toNat = 0
        have c0 : (0 : Int32).toInt = 0 := by decide
        omega
      omega
    have := nat_of this
    omega
  rw [if_neg q, own_lt32, e, e2]
  exact ⟨by show ¬ (xs.length : Int) < 0; omega, rfl⟩
theorem own_NB {xs cs : List Int32} {B : Nat} (hB : B + B / 2 ≤ 60) (hn : cs.length + 10 ≤ B + B / 2) (ok : own_ok xs cs B) : own_N cs.length xs.length ≤ 128 ∧ own_N cs.length xs.length ≤ 64 ∧ own_N cs.length xs.length ≤ B + B / 2 := by
  have := ok.2.1
  unfold own_N; omega
theorem own_cmp {n L : Nat} (h : n ≤ 64 ∧ L ≤ 64) : (L.toInt32.toInt64 < n.toInt32.toInt64 + (10 : Int32).toInt64) ↔ L < n + 10 := by
  rw [own_lt64, own_w2 (by omega), own_w, own_lenI (by omega)]; omega
theorem own_Ngt {xs cs : List Int32} (c : xs.length.toInt32.toInt64 < cs.length.toInt32.toInt64 + (10 : Int32).toInt64) (h : cs.length ≤ 64 ∧ xs.length ≤ 64) : xs.length < own_N cs.length xs.length := by
  rw [own_cmp h] at c
  unfold own_N; omega
theorem own_Nne {N L : Nat} (h : N ≤ 128) (h2 : L < N) : ¬ N.toInt32 = L.toInt32 := by
  rw [own_eq32, own_lenI h, own_lenI (by omega)]; omega
theorem own_okup {xs cs : List Int32} {B : Nat} (ok : own_ok xs cs B) : own_ok xs cs (B + B / 2) := ⟨ok.1, by have := ok.2.1; omega, ok.2.2⟩
theorem own_roomy {xs cs : List Int32} (h : cs.length ≤ 64 ∧ xs.length ≤ 64) (c : ¬ xs.length.toInt32.toInt64 < cs.length.toInt32.toInt64 + (10 : Int32).toInt64) : cs.length + 10 ≤ xs.length := by
  rw [own_cmp h] at c; omega
theorem own_okgrow {xs cs : List Int32} {B : Nat} (hB : B + B / 2 ≤ 60) (hn : cs.length + 10 ≤ B + B / 2) (ok : own_ok xs cs B) (c : xs.length.toInt32.toInt64 < cs.length.toInt32.toInt64 + (10 : Int32).toInt64) : own_ok (xs ++ List.replicate ((own_N cs.length xs.length).toInt32.toNatClampNeg - xs.length) 0) cs (B + B / 2) := by
  have b := own_NB hB hn ok
  rw [own_lenN b.1]
  have l := ok.2.1
  refine ⟨ok.1.trans (List.prefix_append _ _), ?_, fun x hx => ?_⟩
  · rw [List.length_append, List.length_replicate]; omega
  · rcases List.mem_append.mp hx with q | q
    · exact ok.2.2 x q
    · rw [List.eq_of_mem_replicate q]; exact own_fit0
theorem own_roomg {xs cs : List Int32} {B : Nat} (hB : B + B / 2 ≤ 60) (hn : cs.length + 10 ≤ B + B / 2) (ok : own_ok xs cs B) : cs.length + 10 ≤ (xs ++ List.replicate ((own_N cs.length xs.length).toInt32.toNatClampNeg - xs.length) (0 : Int32)).length := by
  have b := own_NB hB hn ok
  rw [own_lenN b.1, List.length_append, List.length_replicate]
  unfold own_N; omega
theorem own_small {n : Nat} (h : n ≤ 64) : ¬ (2147483639 : Int64) < n.toInt32.toInt64 + (10 : Int32).toInt64 := by
  have c : (2147483639 : Int64).toInt = 2147483639 := by decide
  rw [own_lt64, own_w2 (by omega), c]; omega
theorem own_lapp {cs : List Int32} {x : Int32} (h : cs.length ≤ 127) : (cs ++ [x]).length.toInt32 = cs.length.toInt32 + 1 := by
  rw [own_lens h, List.length_append]; rfl
theorem own_var1 {k : Nat} {v : Int64} (h : v &&& -128 = 0) : own_var (k + 1) v = [own_B v] := by
  unfold own_var; rw [if_pos h]
theorem own_varS {k : Nat} {v : Int64} (h : ¬ v &&& -128 = 0) : own_var (k + 1) v = own_B ((v &&& 127) ||| 128) :: own_var k (XT.ushrL v 7) := by
  conv => lhs; unfold own_var
  rw [if_neg h]
theorem own_hus {n k : Nat} (h : n < 2 ^ (7 * (k + 1 + 1))) : n / 128 < 2 ^ (7 * (k + 1)) := by
  rw [Nat.div_lt_iff_lt_mul (by decide)]
  have e : 2 ^ (7 * (k + 1 + 1)) = 2 ^ (7 * (k + 1)) * 128 := by rw [show 7 * (k + 1 + 1) = 7 * (k + 1) + 7 by omega, Nat.pow_add]
  omega
theorem own_hu10 (v : Int64) : v.toBitVec.toNat < 2 ^ (7 * (9 + 1)) := Nat.lt_trans v.toBitVec.isLt (by decide)
theorem own_l0 : (List.length ([] : List Int32)).toInt32 = (0 : Int32) := by decide
theorem own_okinit {N : Nat} (h : N ≤ 16) : own_ok (List.replicate N (0 : Int32)) [] 16 :=
  ⟨List.nil_prefix, by rw [List.length_replicate]; exact h, fun x hx => by rw [List.eq_of_mem_replicate hx]; exact own_fit0⟩
theorem own_sh63 {s : Nat} (h : s ≤ 63) : ((s.toInt32).toInt64 &&& 63).toBitVec.toNat = s := by
  have : ∀ k : Fin 64, ((k.val.toInt32).toInt64 &&& 63).toBitVec.toNat = k.val := by decide +kernel
  exact this ⟨s, by omega⟩
theorem own_rlast {acc u W : Int64} {y sh : Int32} {s : Nat} (h127 : (y &&& 127).toInt64 = u) (hsh : sh = s.toInt32) (hs : s ≤ 63) (hW : W.toBitVec = acc.toBitVec ||| (u.toBitVec <<< s)) : (acc ||| ((y &&& 127).toInt64 <<< (sh.toInt64 &&& 63))) = W := by
  apply Int64.toBitVec_inj.mp
  rw [h127, Int64.toBitVec_or, own_shl64 u sh s (by rw [hsh]; exact own_sh63 hs) (by omega), hW]
theorem own_rmore {acc u W : Int64} {y sh : Int32} {s : Nat} (h127 : (y &&& 127).toInt64 = u &&& 127) (hsh : sh = s.toInt32) (hs : s + 7 < 64) (hW : W.toBitVec = acc.toBitVec ||| (u.toBitVec <<< s)) : W.toBitVec = (acc ||| ((y &&& 127).toInt64 <<< (sh.toInt64 &&& 63))).toBitVec ||| ((XT.ushrL u 7).toBitVec <<< (s + 7)) := by
  rw [h127, Int64.toBitVec_or, own_shl64 (u &&& 127) sh s (by rw [hsh]; exact own_sh63 (by omega)) (by omega), own_ushr64 u 7 7 (by decide) (by decide), hW]
  exact (own_comb acc.toBitVec u.toBitVec s hs).symm
theorem own_getlt {xs : List Int32} {i : Nat} {y : Int32} (h : xs[i]? = some y) : i < xs.length := (List.getElem?_eq_some_iff.mp h).1
theorem own_getpre (pre r : List Int32) (y : Int32) : (pre ++ y :: r)[pre.length]? = some y := by
  rw [List.getElem?_append_right (Nat.le_refl _), Nat.sub_self]; rfl
theorem own_rdL {xs pre post : List Int32} {k : Nat} {u : Int64} (hx : xs = pre ++ own_var (k + 1) u ++ post) (hc : u &&& -128 = 0) : ∃ y : Int32, xs[pre.length]? = some y ∧ (y &&& 128) = 0 ∧ (y &&& 127).toInt64 = u := by
  refine ⟨own_B u, ?_, own_lastb hc⟩
  rw [hx, own_var1 hc, List.append_assoc]
  exact own_getpre pre post _
theorem own_rdM {xs pre post : List Int32} {k : Nat} {u : Int64} (hx : xs = pre ++ own_var (k + 1) u ++ post) (hc : ¬ u &&& -128 = 0) : ∃ y : Int32, xs[pre.length]? = some y ∧ ¬ (y &&& 128) = 0 ∧ (y &&& 127).toInt64 = u &&& 127 ∧ xs = (pre ++ [y]) ++ own_var k (XT.ushrL u 7) ++ post := by
  have e : xs = pre ++ own_B ((u &&& 127) ||| 128) :: (own_var k (XT.ushrL u 7) ++ post) := by rw [hx, own_varS hc, List.append_assoc]; rfl
  refine ⟨own_B ((u &&& 127) ||| 128), ?_, (own_more u).1, (own_more u).2, ?_⟩
  · rw [e]; exact own_getpre _ _ _
  · rw [e]; simp only [List.append_assoc, List.cons_append, List.nil_append]
theorem own_sh7 {s : Nat} (h : s ≤ 57) : s.toInt32 + 7 = (s + 7).toInt32 := by
  have : ∀ k : Fin 58, k.val.toInt32 + 7 = (k.val + 7).toInt32 := by decide +kernel
  exact this ⟨s, by omega⟩
theorem own_W0 (w : Int64) : w.toBitVec = (0 : Int64).toBitVec ||| (w.toBitVec <<< 0) := by
  show w.toBitVec = 0#64 ||| (w.toBitVec <<< 0)
  simp
theorem own_cap (i : Int32) : ¬ ((1 : Int32) + (i &&& 15)) < 0 ∧ ((1 : Int32) + (i &&& 15)).toNatClampNeg ≤ 16 := by
  have e : ∀ b : BitVec 4, ¬ ((1 : Int32) + ⟨⟨b.setWidth 32⟩⟩) < 0 ∧ ((1 : Int32) + ⟨⟨b.setWidth 32⟩⟩).toNatClampNeg ≤ 16 := by decide +kernel
  have q : i &&& 15 = ⟨⟨(i.toBitVec.setWidth 4).setWidth 32⟩⟩ := by
    apply Int32.toBitVec_inj.mp
    show i.toBitVec &&& 15#32 = (i.toBitVec.setWidth 4).setWidth 32
    apply BitVec.eq_of_getLsbD_eq
    intro j hj
    have m : (15#32).getLsbD j = decide (j < 4) := by
      have : ∀ k : Fin 32, (15#32).getLsbD k.val = decide (k.val < 4) := by decide +kernel
      exact this ⟨j, hj⟩
    rw [BitVec.getLsbD_and, m, BitVec.getLsbD_setWidth, BitVec.getLsbD_setWidth]
    by_cases h : j < 4
    · simp [h, hj]
    · simp [h]
  rw [q]; exact e _

theorem d9_0 : decode jdk_29_method_66_code 0 = .ok (.lload_n 0, 1) := by decide +kernel
theorem d9_1 : decode jdk_29_method_66_code 1 = .ok (.lload_n 2, 1) := by decide +kernel
theorem d9_2 : decode jdk_29_method_66_code 2 = .ok (.lcmp, 1) := by decide +kernel
theorem d9_3 : decode jdk_29_method_66_code 3 = .ok (.ifCond .lt 7, 3) := by decide +kernel
theorem d9_6 : decode jdk_29_method_66_code 6 = .ok (.lload_n 0, 1) := by decide +kernel
theorem d9_7 : decode jdk_29_method_66_code 7 = .ok (.goto 4, 3) := by decide +kernel
theorem d9_10 : decode jdk_29_method_66_code 10 = .ok (.lload_n 2, 1) := by decide +kernel
theorem d9_11 : decode jdk_29_method_66_code 11 = .ok (.lreturn, 1) := by decide +kernel

theorem pd9 : parseMethodDescriptor "(JJ)J" = some ⟨[.long, .long], some .long⟩ := by decide +kernel
theorem pl9 : plainFor (⟨"java/lang/Math", "max", "(JJ)J"⟩ : MethodName) = true := by first | exact plainFor_of_name (by first | (simp [plainName, overriddenIn]; done) | decide +kernel) | decide +kernel

theorem ef_k_max (m : MethodId) (x0 : Int64) (x1 : Int64) : entryFrame m #[(.long x0), (.long x1)] 4 = mkF m 0 #[.val (.long x0), .second, .val (.long x1), .second] [] := by first | (simp [entryFrame, mkF, argsToLocals, Value.category]; done) | rfl

set_option maxRecDepth 65536 in
set_option maxHeartbeats 40000000 in
theorem k_max {l : Launch} {Z : State} {a0 : Array Value} (hw : ∀ d ∈ tables_1, d.before a0 Z = true)  (h : Heap) (hz : Z.heap.size ≤ h.size) (x : Int64) (z : Int64)     : Go l Z (⟨"java/lang/Math", "max", "(JJ)J"⟩ : MethodName) jdk_29_method_66_code 4 (Option.some Jvm.ClassFile.FieldType.long) ({ frames := 0, cells := 0, slots := 0, locals := 0 } : Room) (QJ fun rz h' => rz = (if x < z then z else x) ∧ h' = h) 0 0 h 0 #[.val (.long x), .second, .val (.long z), .second] [] := by
  refine Go.lload_n 1 d9_0 rfl rfl ?_
  refine Go.lload_n 2 d9_1 rfl rfl ?_
  refine Go.lcmp 3 d9_2 rfl ?_
  refine Go.lcmp_lt 10 6 d9_3 (by decide) (by decide) rfl (fun c1 => ?_) (fun c1 => ?_)
  ·
    refine Go.lload_n 11 d9_10 rfl rfl ?_
    refine Go.lreturn d9_11 rfl (by decide) (by decide) ?_
    exact ⟨by first | rfl | (simp [*]; done) | simp_all, rfl⟩
  ·
    refine Go.lload_n 7 d9_6 rfl rfl ?_
    refine Go.goto 11 d9_7 (by decide) (by decide) ?_
    refine Go.lreturn d9_11 rfl (by decide) (by decide) ?_
    exact ⟨by first | rfl | (simp [*]; done) | simp_all, rfl⟩

theorem d8_0 : decode jdk_29_method_69_code 0 = .ok (.iload_n 0, 1) := by decide +kernel
theorem d8_1 : decode jdk_29_method_69_code 1 = .ok (.iload_n 1, 1) := by decide +kernel
theorem d8_2 : decode jdk_29_method_69_code 2 = .ok (.if_icmp .gt 7, 3) := by decide +kernel
theorem d8_5 : decode jdk_29_method_69_code 5 = .ok (.iload_n 0, 1) := by decide +kernel
theorem d8_6 : decode jdk_29_method_69_code 6 = .ok (.goto 4, 3) := by decide +kernel
theorem d8_9 : decode jdk_29_method_69_code 9 = .ok (.iload_n 1, 1) := by decide +kernel
theorem d8_10 : decode jdk_29_method_69_code 10 = .ok (.ireturn, 1) := by decide +kernel

theorem pd8 : parseMethodDescriptor "(II)I" = some ⟨[.int, .int], some .int⟩ := by decide +kernel
theorem pl8 : plainFor (⟨"java/lang/Math", "min", "(II)I"⟩ : MethodName) = true := by first | exact plainFor_of_name (by first | (simp [plainName, overriddenIn]; done) | decide +kernel) | decide +kernel

theorem ef_k_min (m : MethodId) (x0 : Int32) (x1 : Int32) : entryFrame m #[(.int x0), (.int x1)] 2 = mkF m 0 #[.val (.int x0), .val (.int x1)] [] := by first | (simp [entryFrame, mkF, argsToLocals, Value.category]; done) | rfl

set_option maxRecDepth 65536 in
set_option maxHeartbeats 40000000 in
theorem k_min {l : Launch} {Z : State} {a0 : Array Value} (hw : ∀ d ∈ tables_1, d.before a0 Z = true)  (h : Heap) (hz : Z.heap.size ≤ h.size) (x : Int32) (z : Int32)     : Go l Z (⟨"java/lang/Math", "min", "(II)I"⟩ : MethodName) jdk_29_method_69_code 2 (Option.some Jvm.ClassFile.FieldType.int) ({ frames := 0, cells := 0, slots := 0, locals := 0 } : Room) (QI fun rz h' => rz = (if z < x then z else x) ∧ h' = h) 0 0 h 0 #[.val (.int x), .val (.int z)] [] := by
  refine Go.iload_n 1 d8_0 rfl rfl ?_
  refine Go.iload_n 2 d8_1 rfl rfl ?_
  refine Go.icmp_gt 9 5 d8_2 (by decide) (by decide) rfl (fun c1 => ?_) (fun c1 => ?_)
  ·
    refine Go.iload_n 10 d8_9 rfl rfl ?_
    refine Go.ireturn d8_10 rfl (by decide) (by decide) ?_
    exact ⟨by first | rfl | (simp [*]; done) | simp_all, rfl⟩
  ·
    refine Go.iload_n 6 d8_5 rfl rfl ?_
    refine Go.goto 10 d8_6 (by decide) (by decide) ?_
    refine Go.ireturn d8_10 rfl (by decide) (by decide) ?_
    exact ⟨by first | rfl | (simp [*]; done) | simp_all, rfl⟩

theorem d10_0 : decode jdk_65_method_121_code 0 = .ok (.iload_n 1, 1) := by decide +kernel
theorem d10_1 : decode jdk_65_method_121_code 1 = .ok (.aload_n 0, 1) := by decide +kernel
theorem d10_2 : decode jdk_65_method_121_code 2 = .ok (.arraylength, 1) := by decide +kernel
theorem d10_3 : decode jdk_65_method_121_code 3 = .ok (.if_icmp .ne 11, 3) := by decide +kernel
theorem d10_6 : decode jdk_65_method_121_code 6 = .ok (.aload_n 0, 1) := by decide +kernel
theorem d10_7 : decode jdk_65_method_121_code 7 = .ok (.invokevirtual 310, 3) := by decide +kernel
theorem d10_10 : decode jdk_65_method_121_code 10 = .ok (.checkcast 311, 3) := by decide +kernel
theorem d10_13 : decode jdk_65_method_121_code 13 = .ok (.areturn, 1) := by decide +kernel
theorem d10_14 : decode jdk_65_method_121_code 14 = .ok (.iload_n 1, 1) := by decide +kernel
theorem d10_15 : decode jdk_65_method_121_code 15 = .ok (.newarray .byte, 2) := by decide +kernel
theorem d10_17 : decode jdk_65_method_121_code 17 = .ok (.astore_n 2, 1) := by decide +kernel
theorem d10_18 : decode jdk_65_method_121_code 18 = .ok (.aload_n 0, 1) := by decide +kernel
theorem d10_19 : decode jdk_65_method_121_code 19 = .ok (.iconst 0, 1) := by decide +kernel
theorem d10_20 : decode jdk_65_method_121_code 20 = .ok (.aload_n 2, 1) := by decide +kernel
theorem d10_21 : decode jdk_65_method_121_code 21 = .ok (.iconst 0, 1) := by decide +kernel
theorem d10_22 : decode jdk_65_method_121_code 22 = .ok (.aload_n 0, 1) := by decide +kernel
theorem d10_23 : decode jdk_65_method_121_code 23 = .ok (.arraylength, 1) := by decide +kernel
theorem d10_24 : decode jdk_65_method_121_code 24 = .ok (.iload_n 1, 1) := by decide +kernel
theorem d10_25 : decode jdk_65_method_121_code 25 = .ok (.invokestatic 304, 3) := by decide +kernel
theorem d10_28 : decode jdk_65_method_121_code 28 = .ok (.invokestatic 150, 3) := by decide +kernel
theorem d10_31 : decode jdk_65_method_121_code 31 = .ok (.aload_n 2, 1) := by decide +kernel
theorem d10_32 : decode jdk_65_method_121_code 32 = .ok (.areturn, 1) := by decide +kernel

theorem pd10 : parseMethodDescriptor "([BI)[B" = some ⟨[(.array .byte), .int], some (.array .byte)⟩ := by decide +kernel
theorem pl10 : plainFor (⟨"java/util/Arrays", "copyOf", "([BI)[B"⟩ : MethodName) = true := by first | exact plainFor_of_name (by first | (simp [plainName, overriddenIn]; done) | decide +kernel) | decide +kernel

theorem ef_k_copy (m : MethodId) (x0 : Addr) (x1 : Int32) : entryFrame m #[(.ref x0), (.int x1)] 3 = mkF m 0 #[.val (.ref x0), .val (.int x1), .unset] [] := by first | (simp [entryFrame, mkF, argsToLocals, Value.category]; done) | rfl

set_option maxRecDepth 65536 in
set_option maxHeartbeats 40000000 in
theorem k_copy {l : Launch} {Z : State} {a0 : Array Value} (hw : ∀ d ∈ tables_1, d.before a0 Z = true) {xs : List Int32} (h : Heap) (hz : Z.heap.size ≤ h.size) (a : Addr) (n : Int32) (fa0 : Ari Z h a .byte xs) (hn0 : ¬ n < 0) (hn64 : (Int32.toNatClampNeg n) ≤ 64) (hlt : xs.length < (Int32.toNatClampNeg n)) (hl64 : xs.length ≤ 64) (hne : ¬ n = (List.length xs).toInt32) (hf : ∀ x ∈ xs, fits .byte (.int x) = true)   : Go l Z (⟨"java/util/Arrays", "copyOf", "([BI)[B"⟩ : MethodName) jdk_65_method_121_code 3 (Option.some (Jvm.ClassFile.FieldType.array Jvm.ClassFile.FieldType.byte)) ({ frames := 1, cells := 1, slots := 64, locals := 48 } : Room) (QR fun rz h' => ∃ r : Addr, rz = .ref r ∧ h.size ≤ r ∧ Keep h h' [] ∧ Ari Z h' r .byte (xs ++ List.replicate ((Int32.toNatClampNeg n) - xs.length) 0)) 0 0 h 0 #[.val (.ref a), .val (.int n), .unset] [] := by
  have kp0 : Keep h h [] := Keep.refl _ _
  refine Go.iload_n 1 d10_0 rfl rfl ?_
  refine Go.aload_n 2 d10_1 rfl rfl rfl ?_
  refine Go.arraylength (z := (List.length xs).toInt32) 3 d10_2 fa0 rfl rfl ?_
  refine Go.icmp_ne 14 6 d10_3 (by decide) (by decide) rfl (fun c1 => ?_) (fun c1 => ?_)
  ·
    refine Go.iload_n 15 d10_14 rfl rfl ?_
    refine Go.newI (cap := 64) (xs := (List.replicate (Int32.toNatClampNeg n) 0)) 17 d10_15 (tw16 hw) rfl hn0 hn64 (by decide) rfl (by decide) (by decide) rfl (fun a2 h3 q4 E5 A6 => ?_)
    have ne7 : a ≠ a2 := fun e => absurd fa0.lt (by rw [e, q4]; exact Nat.lt_irrefl _)
    have ge8 : Z.heap.size ≤ a2 := (Eq.symm q4) ▸ hz
    have fr9 : h.size ≤ a2 := by rw [q4]; exact kp0.1
    have f10 : Ari Z h3 a .byte xs := fa0.ext E5
    have zs11 : Z.heap.size ≤ h3.size := Nat.le_trans hz E5.1
    have kp12 : Keep h h3 [] := kp0.ext E5
    refine Go.astore_n 18 #[.val (.ref a), .val (.int n), .val (.ref a2)] d10_17 rfl rfl rfl ?_
    refine Go.aload_n 19 d10_18 rfl rfl rfl ?_
    refine Go.iconst 20 (0) d10_19 (by decide) rfl ?_
    refine Go.aload_n 21 d10_20 rfl rfl rfl ?_
    refine Go.iconst 22 (0) d10_21 (by decide) rfl ?_
    refine Go.aload_n 23 d10_22 rfl rfl rfl ?_
    refine Go.arraylength (z := (List.length xs).toInt32) 24 d10_23 f10 rfl rfl ?_
    refine Go.iload_n 25 d10_24 rfl rfl ?_
    refine Go.callSIp [.int (List.length xs).toInt32, .int n] [.int (0 : Int32), .ref a2, .int (0 : Int32), .ref a] 28 d10_25 (tw55 hw) (tw45 hw) (tw46 hw) (tw47 hw) pl8 (by decide) (lenOf pd8 rfl) rfl (fun m => ef_k_min m (List.length xs).toInt32 n) _ (k_min hw h3 zs11 ((List.length xs).toInt32) n) 4 rfl (Nat.le_of_eq rfl) (by decide) (by decide) (by decide) (by decide) rfl ?_
    refine Go.arraycopy (W := 0) 0 0 (List.length xs) 31 d10_28 (tw56 hw) (tw59 hw) (tw57 hw) (tw58 hw) f10 A6 hf (fun x hx => by rw [List.eq_of_mem_replicate hx]; exact own_fit0) rfl (by decide) (by decide) (own_minr hlt hl64).1 (by decide) (by decide) (own_minr hlt hl64).2 (by omega) (by rw [List.length_replicate]; omega) (ys' := (xs ++ List.replicate ((Int32.toNatClampNeg n) - xs.length) 0)) (own_copy (Nat.le_of_lt hlt)) ge8 rfl (by decide) (Nat.le_of_eq rfl) (by decide) rfl (fun h16 K17 A18 => ?_)
    have f19 : Ari Z h16 a .byte xs := f10.keep K17 (ninS ne7 nin0)
    have zs20 : Z.heap.size ≤ h16.size := Nat.le_trans zs11 K17.1
    have kp21 : Keep h h16 [] := kp12.trans K17 (allS (Or.inr fr9) all0)
    refine Go.aload_n 32 d10_31 rfl rfl rfl ?_
    refine Go.areturn d10_32 rfl rfl rfl (by decide) (by decide) ?_
    exact ⟨a2, rfl, fr9, kp21, A18⟩
  ·
    exact absurd c1 hne

theorem d7_0 : decode prog_28_method_21_code 0 = .ok (.aload_n 0, 1) := by decide +kernel
theorem d7_1 : decode prog_28_method_21_code 1 = .ok (.getfield 19, 3) := by decide +kernel
theorem d7_4 : decode prog_28_method_21_code 4 = .ok (.i2l, 1) := by decide +kernel
theorem d7_5 : decode prog_28_method_21_code 5 = .ok (.iload_n 1, 1) := by decide +kernel
theorem d7_6 : decode prog_28_method_21_code 6 = .ok (.i2l, 1) := by decide +kernel
theorem d7_7 : decode prog_28_method_21_code 7 = .ok (.ladd, 1) := by decide +kernel
theorem d7_8 : decode prog_28_method_21_code 8 = .ok (.lstore_n 2, 1) := by decide +kernel
theorem d7_9 : decode prog_28_method_21_code 9 = .ok (.lload_n 2, 1) := by decide +kernel
theorem d7_10 : decode prog_28_method_21_code 10 = .ok (.aload_n 0, 1) := by decide +kernel
theorem d7_11 : decode prog_28_method_21_code 11 = .ok (.getfield 15, 3) := by decide +kernel
theorem d7_14 : decode prog_28_method_21_code 14 = .ok (.arraylength, 1) := by decide +kernel
theorem d7_15 : decode prog_28_method_21_code 15 = .ok (.i2l, 1) := by decide +kernel
theorem d7_16 : decode prog_28_method_21_code 16 = .ok (.lcmp, 1) := by decide +kernel
theorem d7_17 : decode prog_28_method_21_code 17 = .ok (.ifCond .gt 4, 3) := by decide +kernel
theorem d7_20 : decode prog_28_method_21_code 20 = .ok (.return_, 1) := by decide +kernel
theorem d7_21 : decode prog_28_method_21_code 21 = .ok (.lload_n 2, 1) := by decide +kernel
theorem d7_22 : decode prog_28_method_21_code 22 = .ok (.ldc2_w 111, 3) := by decide +kernel
theorem d7_25 : decode prog_28_method_21_code 25 = .ok (.lcmp, 1) := by decide +kernel
theorem d7_26 : decode prog_28_method_21_code 26 = .ok (.ifCond .le 13, 3) := by decide +kernel
theorem d7_29 : decode prog_28_method_21_code 29 = .ok (.new 113, 3) := by decide +kernel
theorem d7_32 : decode prog_28_method_21_code 32 = .ok (.dup, 1) := by decide +kernel
theorem d7_33 : decode prog_28_method_21_code 33 = .ok (.ldc 115, 2) := by decide +kernel
theorem d7_35 : decode prog_28_method_21_code 35 = .ok (.invokespecial 117, 3) := by decide +kernel
theorem d7_38 : decode prog_28_method_21_code 38 = .ok (.athrow, 1) := by decide +kernel
theorem d7_39 : decode prog_28_method_21_code 39 = .ok (.ldc 120, 2) := by decide +kernel
theorem d7_41 : decode prog_28_method_21_code 41 = .ok (.aload_n 0, 1) := by decide +kernel
theorem d7_42 : decode prog_28_method_21_code 42 = .ok (.getfield 15, 3) := by decide +kernel
theorem d7_45 : decode prog_28_method_21_code 45 = .ok (.arraylength, 1) := by decide +kernel
theorem d7_46 : decode prog_28_method_21_code 46 = .ok (.aload_n 0, 1) := by decide +kernel
theorem d7_47 : decode prog_28_method_21_code 47 = .ok (.getfield 15, 3) := by decide +kernel
theorem d7_50 : decode prog_28_method_21_code 50 = .ok (.arraylength, 1) := by decide +kernel
theorem d7_51 : decode prog_28_method_21_code 51 = .ok (.iconst 1, 1) := by decide +kernel
theorem d7_52 : decode prog_28_method_21_code 52 = .ok (.ishr, 1) := by decide +kernel
theorem d7_53 : decode prog_28_method_21_code 53 = .ok (.iadd, 1) := by decide +kernel
theorem d7_54 : decode prog_28_method_21_code 54 = .ok (.invokestatic 101, 3) := by decide +kernel
theorem d7_57 : decode prog_28_method_21_code 57 = .ok (.i2l, 1) := by decide +kernel
theorem d7_58 : decode prog_28_method_21_code 58 = .ok (.lstore 4, 2) := by decide +kernel
theorem d7_60 : decode prog_28_method_21_code 60 = .ok (.aload_n 0, 1) := by decide +kernel
theorem d7_61 : decode prog_28_method_21_code 61 = .ok (.aload_n 0, 1) := by decide +kernel
theorem d7_62 : decode prog_28_method_21_code 62 = .ok (.getfield 15, 3) := by decide +kernel
theorem d7_65 : decode prog_28_method_21_code 65 = .ok (.lload_n 2, 1) := by decide +kernel
theorem d7_66 : decode prog_28_method_21_code 66 = .ok (.lload 4, 2) := by decide +kernel
theorem d7_68 : decode prog_28_method_21_code 68 = .ok (.invokestatic 121, 3) := by decide +kernel
theorem d7_71 : decode prog_28_method_21_code 71 = .ok (.l2i, 1) := by decide +kernel
theorem d7_72 : decode prog_28_method_21_code 72 = .ok (.invokestatic 125, 3) := by decide +kernel
theorem d7_75 : decode prog_28_method_21_code 75 = .ok (.putfield 15, 3) := by decide +kernel
theorem d7_78 : decode prog_28_method_21_code 78 = .ok (.return_, 1) := by decide +kernel

theorem pd7 : parseMethodDescriptor "(I)V" = some ⟨[.int], none⟩ := by decide +kernel
theorem pl7 : plainFor (⟨"io/mereline/ByteOutput", "ensureRoom", "(I)V"⟩ : MethodName) = true := by first | exact plainFor_of_name (by first | (simp [plainName, overriddenIn]; done) | decide +kernel) | decide +kernel

theorem ef_k_room (m : MethodId) (x0 : Addr) (x1 : Int32) : entryFrame m #[(.ref x0), (.int x1)] 6 = mkF m 0 #[.val (.ref x0), .val (.int x1), .unset, .unset, .unset, .unset] [] := by first | (simp [entryFrame, mkF, argsToLocals, Value.category]; done) | rfl

set_option maxRecDepth 65536 in
set_option maxHeartbeats 40000000 in
theorem k_room {l : Launch} {Z : State} {a0 : Array Value} (hw : ∀ d ∈ tables_1, d.before a0 Z = true) {am : Addr} {xs : List Int32} {cs : List Int32} {B : Nat} (h : Heap) (hz : Z.heap.size ≤ h.size) (a : Addr) (fa0 : Exa Z h a "io/mereline/SpillEncoding$Output") (fa1 : Fld Z h a "io/mereline/ByteOutput" "bytes" "[B" (.ref am)) (fa2 : Fld Z h a "io/mereline/ByteOutput" "length" "I" (.int (List.length cs).toInt32)) (fa3 : Ari Z h am .byte xs) (ok : own_ok xs cs B) (hB : B + B / 2 ≤ 60) (hn10 : cs.length + 10 ≤ B + B / 2) (ge_a : Z.heap.size ≤ a) (ge_am : Z.heap.size ≤ am) (ne_a_am : a ≠ am) : Go l Z (⟨"io/mereline/ByteOutput", "ensureRoom", "(I)V"⟩ : MethodName) prog_28_method_21_code 6 (Option.none : Option Jvm.ClassFile.FieldType) ({ frames := 2, cells := 1, slots := 64, locals := 96 } : Room) (QV fun h' => (∃ am' : Addr, ∃ xs' : List Int32, Fld Z h' a "io/mereline/ByteOutput" "bytes" "[B" (.ref am') ∧ Ari Z h' am' .byte xs' ∧ a ≠ am' ∧ Z.heap.size ≤ am' ∧ own_ok xs' cs (B + B / 2) ∧ cs.length + 10 ≤ xs'.length ∧ (am' = am ∨ h.size ≤ am')) ∧ Keep h h' [a, am] ∧ Exa Z h' a "io/mereline/SpillEncoding$Output" ∧ Fld Z h' a "io/mereline/ByteOutput" "length" "I" (.int (List.length cs).toInt32)) 0 0 h 0 #[.val (.ref a), .val (.int (10 : Int32)), .unset, .unset, .unset, .unset] [] := by
  have kp0 : Keep h h [a, am] := Keep.refl _ _
  have hn64' : cs.length ≤ 64 := by omega
  have hL40 : xs.length ≤ 40 := by have := ok.2.1; omega
  have hlen : cs.length ≤ 64 ∧ xs.length ≤ 64 := ⟨by omega, by omega⟩
  refine Go.aload_n 1 d7_0 rfl rfl rfl ?_
  refine Go.getfield 4 d7_1 (tw40 hw) fa2 rfl ?_
  refine Go.i2l 5 d7_4 rfl ?_
  refine Go.iload_n 6 d7_5 rfl rfl ?_
  refine Go.i2l 7 d7_6 rfl ?_
  refine Go.ladd 8 d7_7 rfl ?_
  refine Go.lstore_n 9 #[.val (.ref a), .val (.int (10 : Int32)), .val (.long ((Int32.toInt64 (List.length cs).toInt32) + (Int32.toInt64 (10 : Int32)))), .second, .unset, .unset] d7_8 rfl rfl ?_
  refine Go.lload_n 10 d7_9 rfl rfl ?_
  refine Go.aload_n 11 d7_10 rfl rfl rfl ?_
  refine Go.getfield 14 d7_11 (tw17 hw) fa1 rfl ?_
  refine Go.arraylength (z := (List.length xs).toInt32) 15 d7_14 fa3 rfl rfl ?_
  refine Go.i2l 16 d7_15 rfl ?_
  refine Go.lcmp 17 d7_16 rfl ?_
  refine Go.lcmp_gt 21 20 d7_17 (by decide) (by decide) rfl (fun c1 => ?_) (fun c1 => ?_)
  ·
    refine Go.lload_n 22 d7_21 rfl rfl ?_
    refine Go.ldc2_w 25 d7_22 (tw42 hw) rfl ?_
    refine Go.lcmp 26 d7_25 rfl ?_
    refine Go.lcmp_le 39 29 d7_26 (by decide) (by decide) rfl (fun c2 => ?_) (fun c2 => ?_)
    ·
      refine Go.ldc 41 d7_39 (tw43 hw) rfl ?_
      refine Go.aload_n 42 d7_41 rfl rfl rfl ?_
      refine Go.getfield 45 d7_42 (tw17 hw) fa1 rfl ?_
      refine Go.arraylength (z := (List.length xs).toInt32) 46 d7_45 fa3 rfl rfl ?_
      refine Go.aload_n 47 d7_46 rfl rfl rfl ?_
      refine Go.getfield 50 d7_47 (tw17 hw) fa1 rfl ?_
      refine Go.arraylength (z := (List.length xs).toInt32) 51 d7_50 fa3 rfl rfl ?_
      refine Go.iconst 52 (1) d7_51 (by decide) rfl ?_
      refine Go.ishr 53 d7_52 rfl ?_
      refine Go.iadd 54 d7_53 rfl ?_
      refine Go.callSIp [.int (2147483639 : Int32), .int ((List.length xs).toInt32 + ((List.length xs).toInt32 >>> ((1 : Int32) &&& 31)))] [] 57 d7_54 (tw44 hw) (tw45 hw) (tw46 hw) (tw47 hw) pl8 (by decide) (lenOf pd8 rfl) rfl (fun m => ef_k_min m (2147483639 : Int32) ((List.length xs).toInt32 + ((List.length xs).toInt32 >>> ((1 : Int32) &&& 31)))) _ (k_min hw h hz (2147483639 : Int32) (((List.length xs).toInt32 + ((List.length xs).toInt32 >>> ((1 : Int32) &&& 31))))) 0 rfl (Nat.le_of_eq rfl) (by decide) (by decide) (by decide) (by decide) rfl ?_
      refine Go.i2l 58 d7_57 rfl ?_
      refine Go.lstore 60 #[.val (.ref a), .val (.int (10 : Int32)), .val (.long ((Int32.toInt64 (List.length cs).toInt32) + (Int32.toInt64 (10 : Int32)))), .second, .val (.long (Int32.toInt64 (if ((List.length xs).toInt32 + ((List.length xs).toInt32 >>> ((1 : Int32) &&& 31))) < (2147483639 : Int32) then ((List.length xs).toInt32 + ((List.length xs).toInt32 >>> ((1 : Int32) &&& 31))) else (2147483639 : Int32)))), .second] d7_58 rfl rfl ?_
      refine Go.aload_n 61 d7_60 rfl rfl rfl ?_
      refine Go.aload_n 62 d7_61 rfl rfl rfl ?_
      refine Go.getfield 65 d7_62 (tw17 hw) fa1 rfl ?_
      refine Go.lload_n 66 d7_65 rfl rfl ?_
      refine Go.lload 68 d7_66 rfl rfl ?_
      refine Go.callSJp [.long ((Int32.toInt64 (List.length cs).toInt32) + (Int32.toInt64 (10 : Int32))), .long (Int32.toInt64 (if ((List.length xs).toInt32 + ((List.length xs).toInt32 >>> ((1 : Int32) &&& 31))) < (2147483639 : Int32) then ((List.length xs).toInt32 + ((List.length xs).toInt32 >>> ((1 : Int32) &&& 31))) else (2147483639 : Int32)))] [.ref am, .ref a] 71 d7_68 (tw48 hw) (tw49 hw) (tw46 hw) (tw50 hw) pl9 (by decide) (lenOf pd9 rfl) rfl (fun m => ef_k_max m ((Int32.toInt64 (List.length cs).toInt32) + (Int32.toInt64 (10 : Int32))) (Int32.toInt64 (if ((List.length xs).toInt32 + ((List.length xs).toInt32 >>> ((1 : Int32) &&& 31))) < (2147483639 : Int32) then ((List.length xs).toInt32 + ((List.length xs).toInt32 >>> ((1 : Int32) &&& 31))) else (2147483639 : Int32)))) _ (k_max hw h hz (((Int32.toInt64 (List.length cs).toInt32) + (Int32.toInt64 (10 : Int32)))) ((Int32.toInt64 (if ((List.length xs).toInt32 + ((List.length xs).toInt32 >>> ((1 : Int32) &&& 31))) < (2147483639 : Int32) then ((List.length xs).toInt32 + ((List.length xs).toInt32 >>> ((1 : Int32) &&& 31))) else (2147483639 : Int32))))) 2 rfl (Nat.le_of_eq rfl) (by decide) (by decide) (by decide) (by decide) rfl ?_
      refine Go.l2i 72 d7_71 rfl ?_
      refine Go.callSR [.ref am, .int (Int64.toInt32 (if ((Int32.toInt64 (List.length cs).toInt32) + (Int32.toInt64 (10 : Int32))) < (Int32.toInt64 (if ((List.length xs).toInt32 + ((List.length xs).toInt32 >>> ((1 : Int32) &&& 31))) < (2147483639 : Int32) then ((List.length xs).toInt32 + ((List.length xs).toInt32 >>> ((1 : Int32) &&& 31))) else (2147483639 : Int32))) then (Int32.toInt64 (if ((List.length xs).toInt32 + ((List.length xs).toInt32 >>> ((1 : Int32) &&& 31))) < (2147483639 : Int32) then ((List.length xs).toInt32 + ((List.length xs).toInt32 >>> ((1 : Int32) &&& 31))) else (2147483639 : Int32))) else ((Int32.toInt64 (List.length cs).toInt32) + (Int32.toInt64 (10 : Int32)))))] [.ref a] 75 d7_72 (tw51 hw) (tw52 hw) (tw53 hw) (tw54 hw) pl10 (by decide) (lenOf pd10 rfl) rfl (fun m => ef_k_copy m am (Int64.toInt32 (if ((Int32.toInt64 (List.length cs).toInt32) + (Int32.toInt64 (10 : Int32))) < (Int32.toInt64 (if ((List.length xs).toInt32 + ((List.length xs).toInt32 >>> ((1 : Int32) &&& 31))) < (2147483639 : Int32) then ((List.length xs).toInt32 + ((List.length xs).toInt32 >>> ((1 : Int32) &&& 31))) else (2147483639 : Int32))) then (Int32.toInt64 (if ((List.length xs).toInt32 + ((List.length xs).toInt32 >>> ((1 : Int32) &&& 31))) < (2147483639 : Int32) then ((List.length xs).toInt32 + ((List.length xs).toInt32 >>> ((1 : Int32) &&& 31))) else (2147483639 : Int32))) else ((Int32.toInt64 (List.length cs).toInt32) + (Int32.toInt64 (10 : Int32)))))) _ (k_copy hw h hz am ((Int64.toInt32 (if ((Int32.toInt64 (List.length cs).toInt32) + (Int32.toInt64 (10 : Int32))) < (Int32.toInt64 (if ((List.length xs).toInt32 + ((List.length xs).toInt32 >>> ((1 : Int32) &&& 31))) < (2147483639 : Int32) then ((List.length xs).toInt32 + ((List.length xs).toInt32 >>> ((1 : Int32) &&& 31))) else (2147483639 : Int32))) then (Int32.toInt64 (if ((List.length xs).toInt32 + ((List.length xs).toInt32 >>> ((1 : Int32) &&& 31))) < (2147483639 : Int32) then ((List.length xs).toInt32 + ((List.length xs).toInt32 >>> ((1 : Int32) &&& 31))) else (2147483639 : Int32))) else ((Int32.toInt64 (List.length cs).toInt32) + (Int32.toInt64 (10 : Int32)))))) fa3 (by rw [own_grow hn64' hL40]; exact own_lenn (own_NB hB hn10 ok).1) (by rw [own_grow hn64' hL40, own_lenN (own_NB hB hn10 ok).1]; exact (own_NB hB hn10 ok).2.1) (by rw [own_grow hn64' hL40, own_lenN (own_NB hB hn10 ok).1]; exact own_Ngt c1 hlen) (by omega) (by rw [own_grow hn64' hL40]; exact own_Nne (own_NB hB hn10 ok).1 (own_Ngt c1 hlen)) ok.2.2) 1 rfl (Nat.le_of_eq rfl) (by decide) (by decide) (by decide) (by decide) rfl ?_
      rintro z9 h10 ⟨a12, rfl, g13, K11, f14⟩
      have ne15 : a ≠ a12 := Nat.ne_of_lt (Nat.lt_of_lt_of_le fa0.lt g13)
      have ne16 : am ≠ a12 := Nat.ne_of_lt (Nat.lt_of_lt_of_le fa3.lt g13)
      have ge17 : Z.heap.size ≤ a12 := Nat.le_trans hz g13
      have fr18 : h.size ≤ a12 := Nat.le_trans kp0.1 g13
      have f19 : Exa Z h10 a "io/mereline/SpillEncoding$Output" := fa0.keep K11
      have f20 : Fld Z h10 a "io/mereline/ByteOutput" "bytes" "[B" (.ref am) := fa1.keep K11 nin0
      have f21 : Fld Z h10 a "io/mereline/ByteOutput" "length" "I" (.int (List.length cs).toInt32) := fa2.keep K11 nin0
      have f22 : Ari Z h10 am .byte xs := fa3.keep K11 nin0
      have zs23 : Z.heap.size ≤ h10.size := Nat.le_trans hz K11.1
      have kp24 : Keep h h10 [a, am] := kp0.trans K11 all0
      refine Go.putfield (ty := (.array .byte)) 78 d7_75 (tw17 hw) f20 f19 (Or.inl (tw18 hw)) (tw1 hw) (by decide) rfl rfl ge_a rfl (fun h25 W26 => ?_)
      have f27 : Exa Z h25 a "io/mereline/SpillEncoding$Output" := f19.wr W26
      have f28 : Fld Z h25 a "io/mereline/ByteOutput" "bytes" "[B" (.ref a12) := f20.same W26
      have f29 : Fld Z h25 a "io/mereline/ByteOutput" "length" "I" (.int (List.length cs).toInt32) := f21.other W26 (Or.inr (slot_ne (Or.inl (tw41 hw)) (Or.inl (tw18 hw)) (by decide) (by decide +kernel : parseFieldDescriptor "I" = some .int) (by decide +kernel : parseFieldDescriptor "[B" = some (.array .byte))))
      have f30 : Ari Z h25 am .byte xs := f22.other W26 (Ne.symm ne_a_am)
      have f31 : Ari Z h25 a12 .byte (xs ++ List.replicate ((Int32.toNatClampNeg (Int64.toInt32 (if ((Int32.toInt64 (List.length cs).toInt32) + (Int32.toInt64 (10 : Int32))) < (Int32.toInt64 (if ((List.length xs).toInt32 + ((List.length xs).toInt32 >>> ((1 : Int32) &&& 31))) < (2147483639 : Int32) then ((List.length xs).toInt32 + ((List.length xs).toInt32 >>> ((1 : Int32) &&& 31))) else (2147483639 : Int32))) then (Int32.toInt64 (if ((List.length xs).toInt32 + ((List.length xs).toInt32 >>> ((1 : Int32) &&& 31))) < (2147483639 : Int32) then ((List.length xs).toInt32 + ((List.length xs).toInt32 >>> ((1 : Int32) &&& 31))) else (2147483639 : Int32))) else ((Int32.toInt64 (List.length cs).toInt32) + (Int32.toInt64 (10 : Int32)))))) - xs.length) 0) := f14.other W26 (Ne.symm ne15)
      have zs32 : Z.heap.size ≤ h25.size := W26.size ▸ zs23
      have kp33 : Keep h h25 [a, am] := kp24.wr W26 (Or.inl (by simp))
      refine Go.vreturn d7_78 rfl (by decide) (by decide) ?_
      exact ⟨⟨a12, _, f28, f31, ne15, ge17, by rw [own_grow hn64' hL40]; exact own_okgrow hB hn10 ok c1, by rw [own_grow hn64' hL40]; exact own_roomg hB hn10 ok, Or.inr fr18⟩, kp33, f27, f29⟩
    ·
      exact absurd c2 (own_small hlen.1)
  ·
    refine Go.vreturn d7_20 rfl (by decide) (by decide) ?_
    exact ⟨⟨am, _, fa1, fa3, ne_a_am, ge_am, own_okup ok, own_roomy hlen c1, Or.inl rfl⟩, kp0, fa0, fa2⟩

theorem d6_0 : decode prog_28_method_7_code 0 = .ok (.aload_n 0, 1) := by decide +kernel
theorem d6_1 : decode prog_28_method_7_code 1 = .ok (.bipush 10, 2) := by decide +kernel
theorem d6_3 : decode prog_28_method_7_code 3 = .ok (.invokevirtual 22, 3) := by decide +kernel
theorem d6_6 : decode prog_28_method_7_code 6 = .ok (.lload_n 1, 1) := by decide +kernel
theorem d6_7 : decode prog_28_method_7_code 7 = .ok (.lstore_n 3, 1) := by decide +kernel
theorem d6_8 : decode prog_28_method_7_code 8 = .ok (.lload_n 3, 1) := by decide +kernel
theorem d6_9 : decode prog_28_method_7_code 9 = .ok (.ldc2_w 32, 3) := by decide +kernel
theorem d6_12 : decode prog_28_method_7_code 12 = .ok (.land, 1) := by decide +kernel
theorem d6_13 : decode prog_28_method_7_code 13 = .ok (.lconst 0, 1) := by decide +kernel
theorem d6_14 : decode prog_28_method_7_code 14 = .ok (.lcmp, 1) := by decide +kernel
theorem d6_15 : decode prog_28_method_7_code 15 = .ok (.ifCond .ne 23, 3) := by decide +kernel
theorem d6_18 : decode prog_28_method_7_code 18 = .ok (.aload_n 0, 1) := by decide +kernel
theorem d6_19 : decode prog_28_method_7_code 19 = .ok (.getfield 15, 3) := by decide +kernel
theorem d6_22 : decode prog_28_method_7_code 22 = .ok (.aload_n 0, 1) := by decide +kernel
theorem d6_23 : decode prog_28_method_7_code 23 = .ok (.dup, 1) := by decide +kernel
theorem d6_24 : decode prog_28_method_7_code 24 = .ok (.getfield 19, 3) := by decide +kernel
theorem d6_27 : decode prog_28_method_7_code 27 = .ok (.dup_x1, 1) := by decide +kernel
theorem d6_28 : decode prog_28_method_7_code 28 = .ok (.iconst 1, 1) := by decide +kernel
theorem d6_29 : decode prog_28_method_7_code 29 = .ok (.iadd, 1) := by decide +kernel
theorem d6_30 : decode prog_28_method_7_code 30 = .ok (.putfield 19, 3) := by decide +kernel
theorem d6_33 : decode prog_28_method_7_code 33 = .ok (.lload_n 3, 1) := by decide +kernel
theorem d6_34 : decode prog_28_method_7_code 34 = .ok (.l2i, 1) := by decide +kernel
theorem d6_35 : decode prog_28_method_7_code 35 = .ok (.i2b, 1) := by decide +kernel
theorem d6_36 : decode prog_28_method_7_code 36 = .ok (.bastore, 1) := by decide +kernel
theorem d6_37 : decode prog_28_method_7_code 37 = .ok (.return_, 1) := by decide +kernel
theorem d6_38 : decode prog_28_method_7_code 38 = .ok (.lload_n 3, 1) := by decide +kernel
theorem d6_39 : decode prog_28_method_7_code 39 = .ok (.ldc2_w 32, 3) := by decide +kernel
theorem d6_42 : decode prog_28_method_7_code 42 = .ok (.land, 1) := by decide +kernel
theorem d6_43 : decode prog_28_method_7_code 43 = .ok (.lconst 0, 1) := by decide +kernel
theorem d6_44 : decode prog_28_method_7_code 44 = .ok (.lcmp, 1) := by decide +kernel
theorem d6_45 : decode prog_28_method_7_code 45 = .ok (.ifCond .eq 38, 3) := by decide +kernel
theorem d6_48 : decode prog_28_method_7_code 48 = .ok (.aload_n 0, 1) := by decide +kernel
theorem d6_49 : decode prog_28_method_7_code 49 = .ok (.getfield 15, 3) := by decide +kernel
theorem d6_52 : decode prog_28_method_7_code 52 = .ok (.aload_n 0, 1) := by decide +kernel
theorem d6_53 : decode prog_28_method_7_code 53 = .ok (.dup, 1) := by decide +kernel
theorem d6_54 : decode prog_28_method_7_code 54 = .ok (.getfield 19, 3) := by decide +kernel
theorem d6_57 : decode prog_28_method_7_code 57 = .ok (.dup_x1, 1) := by decide +kernel
theorem d6_58 : decode prog_28_method_7_code 58 = .ok (.iconst 1, 1) := by decide +kernel
theorem d6_59 : decode prog_28_method_7_code 59 = .ok (.iadd, 1) := by decide +kernel
theorem d6_60 : decode prog_28_method_7_code 60 = .ok (.putfield 19, 3) := by decide +kernel
theorem d6_63 : decode prog_28_method_7_code 63 = .ok (.lload_n 3, 1) := by decide +kernel
theorem d6_64 : decode prog_28_method_7_code 64 = .ok (.ldc2_w 34, 3) := by decide +kernel
theorem d6_67 : decode prog_28_method_7_code 67 = .ok (.land, 1) := by decide +kernel
theorem d6_68 : decode prog_28_method_7_code 68 = .ok (.ldc2_w 36, 3) := by decide +kernel
theorem d6_71 : decode prog_28_method_7_code 71 = .ok (.lor, 1) := by decide +kernel
theorem d6_72 : decode prog_28_method_7_code 72 = .ok (.l2i, 1) := by decide +kernel
theorem d6_73 : decode prog_28_method_7_code 73 = .ok (.i2b, 1) := by decide +kernel
theorem d6_74 : decode prog_28_method_7_code 74 = .ok (.bastore, 1) := by decide +kernel
theorem d6_75 : decode prog_28_method_7_code 75 = .ok (.lload_n 3, 1) := by decide +kernel
theorem d6_76 : decode prog_28_method_7_code 76 = .ok (.bipush 7, 2) := by decide +kernel
theorem d6_78 : decode prog_28_method_7_code 78 = .ok (.lushr, 1) := by decide +kernel
theorem d6_79 : decode prog_28_method_7_code 79 = .ok (.lstore_n 3, 1) := by decide +kernel
theorem d6_80 : decode prog_28_method_7_code 80 = .ok (.goto (-42), 3) := by decide +kernel
theorem d6_83 : decode prog_28_method_7_code 83 = .ok (.aload_n 0, 1) := by decide +kernel
theorem d6_84 : decode prog_28_method_7_code 84 = .ok (.getfield 15, 3) := by decide +kernel
theorem d6_87 : decode prog_28_method_7_code 87 = .ok (.aload_n 0, 1) := by decide +kernel
theorem d6_88 : decode prog_28_method_7_code 88 = .ok (.dup, 1) := by decide +kernel
theorem d6_89 : decode prog_28_method_7_code 89 = .ok (.getfield 19, 3) := by decide +kernel
theorem d6_92 : decode prog_28_method_7_code 92 = .ok (.dup_x1, 1) := by decide +kernel
theorem d6_93 : decode prog_28_method_7_code 93 = .ok (.iconst 1, 1) := by decide +kernel
theorem d6_94 : decode prog_28_method_7_code 94 = .ok (.iadd, 1) := by decide +kernel
theorem d6_95 : decode prog_28_method_7_code 95 = .ok (.putfield 19, 3) := by decide +kernel
theorem d6_98 : decode prog_28_method_7_code 98 = .ok (.lload_n 3, 1) := by decide +kernel
theorem d6_99 : decode prog_28_method_7_code 99 = .ok (.l2i, 1) := by decide +kernel
theorem d6_100 : decode prog_28_method_7_code 100 = .ok (.i2b, 1) := by decide +kernel
theorem d6_101 : decode prog_28_method_7_code 101 = .ok (.bastore, 1) := by decide +kernel
theorem d6_102 : decode prog_28_method_7_code 102 = .ok (.return_, 1) := by decide +kernel

theorem pd6 : parseMethodDescriptor "(J)V" = some ⟨[.long], none⟩ := by decide +kernel
theorem pl6 : plainFor (⟨"io/mereline/ByteOutput", "writeVarint", "(J)V"⟩ : MethodName) = true := by first | exact plainFor_of_name (by first | (simp [plainName, overriddenIn]; done) | decide +kernel) | decide +kernel

set_option maxRecDepth 65536 in
set_option maxHeartbeats 40000000 in
theorem k_wl {l : Launch} {Z : State} {a0 : Array Value} (hw : ∀ d ∈ tables_1, d.before a0 Z = true) (h : Heap) (a am am0 : Addr) (v : Int64) (TT : List Int32) (Bq : Nat) (hBq : Bq ≤ 60) (ge_a : Z.heap.size ≤ a) (ge_am : Z.heap.size ≤ am) (ne1 : a ≠ am) (kor : am = am0 ∨ h.size ≤ am) : ∀ (k : Nat) (u : Int64) (cs xs : List Int32) (h1 : Heap) (hz1 : Z.heap.size ≤ h1.size) (K1 : Keep h h1 [a, am0]) (E1 : Exa Z h1 a "io/mereline/SpillEncoding$Output") (F1 : Fld Z h1 a "io/mereline/ByteOutput" "bytes" "[B" (.ref am)) (F2 : Fld Z h1 a "io/mereline/ByteOutput" "length" "I" (.int (List.length cs).toInt32)) (A1 : Ari Z h1 am .byte xs) (ok : own_ok xs cs Bq) (hr : cs.length + (k + 1) ≤ xs.length) (hu : u.toBitVec.toNat < 2 ^ (7 * (k + 1))) (ht : TT = cs ++ own_var (k + 1) u), Go l Z (⟨"io/mereline/ByteOutput", "writeVarint", "(J)V"⟩ : MethodName) prog_28_method_7_code 5 (Option.none : Option Jvm.ClassFile.FieldType) ({ frames := 3, cells := 1, slots := 64, locals := 120 } : Room) (QV fun h' => (∃ am' : Addr, ∃ xs' : List Int32, Fld Z h' a "io/mereline/ByteOutput" "bytes" "[B" (.ref am') ∧ Ari Z h' am' .byte xs' ∧ a ≠ am' ∧ Z.heap.size ≤ am' ∧ own_ok xs' TT Bq ∧ (am' = am0 ∨ h.size ≤ am')) ∧ Keep h h' [a, am0] ∧ Exa Z h' a "io/mereline/SpillEncoding$Output" ∧ Fld Z h' a "io/mereline/ByteOutput" "length" "I" (.int (List.length TT).toInt32)) 1 64 h1 38 #[.val (.ref a), .val (.long v), .second, .val (.long u), .second] [] := by
  have kq : am ∈ [a, am0] ∨ h.size ≤ am := kor.elim (fun e => Or.inl (by simp [e])) Or.inr
  intro k
  induction k with
  | zero =>
    intro u cs xs h1 hz1 K1 E1 F1 F2 A1 ok hr hu ht
    have hn : cs.length ≤ 59 := by have := ok.2.1; omega
    refine Go.lload_n 39 d6_38 rfl rfl ?_
    refine Go.ldc2_w 42 d6_39 (tw60 hw) rfl ?_
    refine Go.land 43 d6_42 rfl ?_
    refine Go.lconst 44 (0) d6_43 (by decide) rfl ?_
    refine Go.lcmp 45 d6_44 rfl ?_
    refine Go.lcmp_eq 83 48 d6_45 (by decide) (by decide) rfl (fun c1 => ?_) (fun c1 => ?_)
    ·
      refine Go.aload_n 84 d6_83 rfl rfl rfl ?_
      refine Go.getfield 87 d6_84 (tw17 hw) F1 rfl ?_
      refine Go.aload_n 88 d6_87 rfl rfl rfl ?_
      refine Go.dup 89 d6_88 rfl rfl ?_
      refine Go.getfield 92 d6_89 (tw40 hw) F2 rfl ?_
      refine Go.dupX1 93 d6_92 rfl rfl rfl ?_
      refine Go.iconst 94 (1) d6_93 (by decide) rfl ?_
      refine Go.iadd 95 d6_94 rfl ?_
      refine Go.putfield (ty := .int) 98 d6_95 (tw40 hw) F2 E1 (Or.inl (tw41 hw)) (tw1 hw) (by decide) rfl rfl ge_a rfl (fun h2 W3 => ?_)
      have f4 : Exa Z h2 a "io/mereline/SpillEncoding$Output" := E1.wr W3
      have f5 : Fld Z h2 a "io/mereline/ByteOutput" "bytes" "[B" (.ref am) := F1.other W3 (Or.inr (slot_ne (Or.inl (tw18 hw)) (Or.inl (tw41 hw)) (by decide) (by decide +kernel : parseFieldDescriptor "[B" = some (.array .byte)) (by decide +kernel : parseFieldDescriptor "I" = some .int)))
      have f6 : Fld Z h2 a "io/mereline/ByteOutput" "length" "I" (.int ((List.length cs).toInt32 + (1 : Int32))) := F2.same W3
      have f7 : Ari Z h2 am .byte xs := A1.other W3 (Ne.symm ne1)
      have zs8 : Z.heap.size ≤ h2.size := W3.size ▸ hz1
      have kp9 : Keep h h2 [a, am0] := K1.wr W3 (Or.inl (by simp))
      refine Go.lload_n 99 d6_98 rfl rfl ?_
      refine Go.l2i 100 d6_99 rfl ?_
      refine Go.i2b 101 d6_100 rfl ?_
      refine Go.bastore (cs.length) ((xs.set cs.length (nar .byte (Int8.toInt32 (Int32.toInt8 (Int64.toInt32 u)))))) 102 d6_101 f7 (own_lenn (by omega)) (own_lenN (by omega)) (by omega) rfl ge_am rfl (fun h10 W11 A12 => ?_)
      have f13 : Exa Z h10 a "io/mereline/SpillEncoding$Output" := f4.wr W11
      have f14 : Fld Z h10 a "io/mereline/ByteOutput" "bytes" "[B" (.ref am) := f5.other W11 (Or.inl ne1)
      have f15 : Fld Z h10 a "io/mereline/ByteOutput" "length" "I" (.int ((List.length cs).toInt32 + (1 : Int32))) := f6.other W11 (Or.inl ne1)
      have zs16 : Z.heap.size ≤ h10.size := W11.size ▸ zs8
      have kp17 : Keep h h10 [a, am0] := kp9.wr W11 kq
      refine Go.vreturn d6_102 rfl (by decide) (by decide) ?_
      obtain rfl : TT = cs ++ [own_B u] := ht.trans (by rw [own_var1 c1])
      exact ⟨⟨am, _, f14, A12, ne1, ge_am, own_put ok (by omega), kor⟩, kp17, f13, (by rw [own_lapp (by omega)]; exact f15)⟩
    ·
      exact absurd ((own_hi64 u).mpr hu) c1
  | succ k ih =>
    intro u cs xs h1 hz1 K1 E1 F1 F2 A1 ok hr hu ht
    have hn : cs.length ≤ 59 := by have := ok.2.1; omega
    refine Go.lload_n 39 d6_38 rfl rfl ?_
    refine Go.ldc2_w 42 d6_39 (tw60 hw) rfl ?_
    refine Go.land 43 d6_42 rfl ?_
    refine Go.lconst 44 (0) d6_43 (by decide) rfl ?_
    refine Go.lcmp 45 d6_44 rfl ?_
    refine Go.lcmp_eq 83 48 d6_45 (by decide) (by decide) rfl (fun c1 => ?_) (fun c1 => ?_)
    ·
      refine Go.aload_n 84 d6_83 rfl rfl rfl ?_
      refine Go.getfield 87 d6_84 (tw17 hw) F1 rfl ?_
      refine Go.aload_n 88 d6_87 rfl rfl rfl ?_
      refine Go.dup 89 d6_88 rfl rfl ?_
      refine Go.getfield 92 d6_89 (tw40 hw) F2 rfl ?_
      refine Go.dupX1 93 d6_92 rfl rfl rfl ?_
      refine Go.iconst 94 (1) d6_93 (by decide) rfl ?_
      refine Go.iadd 95 d6_94 rfl ?_
      refine Go.putfield (ty := .int) 98 d6_95 (tw40 hw) F2 E1 (Or.inl (tw41 hw)) (tw1 hw) (by decide) rfl rfl ge_a rfl (fun h2 W3 => ?_)
      have f4 : Exa Z h2 a "io/mereline/SpillEncoding$Output" := E1.wr W3
      have f5 : Fld Z h2 a "io/mereline/ByteOutput" "bytes" "[B" (.ref am) := F1.other W3 (Or.inr (slot_ne (Or.inl (tw18 hw)) (Or.inl (tw41 hw)) (by decide) (by decide +kernel : parseFieldDescriptor "[B" = some (.array .byte)) (by decide +kernel : parseFieldDescriptor "I" = some .int)))
      have f6 : Fld Z h2 a "io/mereline/ByteOutput" "length" "I" (.int ((List.length cs).toInt32 + (1 : Int32))) := F2.same W3
      have f7 : Ari Z h2 am .byte xs := A1.other W3 (Ne.symm ne1)
      have zs8 : Z.heap.size ≤ h2.size := W3.size ▸ hz1
      have kp9 : Keep h h2 [a, am0] := K1.wr W3 (Or.inl (by simp))
      refine Go.lload_n 99 d6_98 rfl rfl ?_
      refine Go.l2i 100 d6_99 rfl ?_
      refine Go.i2b 101 d6_100 rfl ?_
      refine Go.bastore (cs.length) ((xs.set cs.length (nar .byte (Int8.toInt32 (Int32.toInt8 (Int64.toInt32 u)))))) 102 d6_101 f7 (own_lenn (by omega)) (own_lenN (by omega)) (by omega) rfl ge_am rfl (fun h10 W11 A12 => ?_)
      have f13 : Exa Z h10 a "io/mereline/SpillEncoding$Output" := f4.wr W11
      have f14 : Fld Z h10 a "io/mereline/ByteOutput" "bytes" "[B" (.ref am) := f5.other W11 (Or.inl ne1)
      have f15 : Fld Z h10 a "io/mereline/ByteOutput" "length" "I" (.int ((List.length cs).toInt32 + (1 : Int32))) := f6.other W11 (Or.inl ne1)
      have zs16 : Z.heap.size ≤ h10.size := W11.size ▸ zs8
      have kp17 : Keep h h10 [a, am0] := kp9.wr W11 kq
      refine Go.vreturn d6_102 rfl (by decide) (by decide) ?_
      obtain rfl : TT = cs ++ [own_B u] := ht.trans (by rw [own_var1 c1])
      exact ⟨⟨am, _, f14, A12, ne1, ge_am, own_put ok (by omega), kor⟩, kp17, f13, (by rw [own_lapp (by omega)]; exact f15)⟩
    ·
      refine Go.aload_n 49 d6_48 rfl rfl rfl ?_
      refine Go.getfield 52 d6_49 (tw17 hw) F1 rfl ?_
      refine Go.aload_n 53 d6_52 rfl rfl rfl ?_
      refine Go.dup 54 d6_53 rfl rfl ?_
      refine Go.getfield 57 d6_54 (tw40 hw) F2 rfl ?_
      refine Go.dupX1 58 d6_57 rfl rfl rfl ?_
      refine Go.iconst 59 (1) d6_58 (by decide) rfl ?_
      refine Go.iadd 60 d6_59 rfl ?_
      refine Go.putfield (ty := .int) 63 d6_60 (tw40 hw) F2 E1 (Or.inl (tw41 hw)) (tw1 hw) (by decide) rfl rfl ge_a rfl (fun h18 W19 => ?_)
      have f20 : Exa Z h18 a "io/mereline/SpillEncoding$Output" := E1.wr W19
      have f21 : Fld Z h18 a "io/mereline/ByteOutput" "bytes" "[B" (.ref am) := F1.other W19 (Or.inr (slot_ne (Or.inl (tw18 hw)) (Or.inl (tw41 hw)) (by decide) (by decide +kernel : parseFieldDescriptor "[B" = some (.array .byte)) (by decide +kernel : parseFieldDescriptor "I" = some .int)))
      have f22 : Fld Z h18 a "io/mereline/ByteOutput" "length" "I" (.int ((List.length cs).toInt32 + (1 : Int32))) := F2.same W19
      have f23 : Ari Z h18 am .byte xs := A1.other W19 (Ne.symm ne1)
      have zs24 : Z.heap.size ≤ h18.size := W19.size ▸ hz1
      have kp25 : Keep h h18 [a, am0] := K1.wr W19 (Or.inl (by simp))
      refine Go.lload_n 64 d6_63 rfl rfl ?_
      refine Go.ldc2_w 67 d6_64 (tw67 hw) rfl ?_
      refine Go.land 68 d6_67 rfl ?_
      refine Go.ldc2_w 71 d6_68 (tw68 hw) rfl ?_
      refine Go.lor 72 d6_71 rfl ?_
      refine Go.l2i 73 d6_72 rfl ?_
      refine Go.i2b 74 d6_73 rfl ?_
      refine Go.bastore (cs.length) ((xs.set cs.length (nar .byte (Int8.toInt32 (Int32.toInt8 (Int64.toInt32 ((u &&& (127 : Int64)) ||| (128 : Int64)))))))) 75 d6_74 f23 (own_lenn (by omega)) (own_lenN (by omega)) (by omega) rfl ge_am rfl (fun h26 W27 A28 => ?_)
      have f29 : Exa Z h26 a "io/mereline/SpillEncoding$Output" := f20.wr W27
      have f30 : Fld Z h26 a "io/mereline/ByteOutput" "bytes" "[B" (.ref am) := f21.other W27 (Or.inl ne1)
      have f31 : Fld Z h26 a "io/mereline/ByteOutput" "length" "I" (.int ((List.length cs).toInt32 + (1 : Int32))) := f22.other W27 (Or.inl ne1)
      have zs32 : Z.heap.size ≤ h26.size := W27.size ▸ zs24
      have kp33 : Keep h h26 [a, am0] := kp25.wr W27 kq
      refine Go.lload_n 76 d6_75 rfl rfl ?_
      refine Go.bipush 78 (7) d6_76 (by decide) rfl ?_
      refine Go.lushr 79 d6_78 rfl ?_
      refine Go.lstore_n 80 #[.val (.ref a), .val (.long v), .second, .val (.long (XT.ushrL u (7 : Int32))), .second] d6_79 rfl rfl ?_
      refine Go.goto 38 d6_80 (by decide) (by decide) ?_
      exact (ih (XT.ushrL u 7) (cs ++ [own_B ((u &&& 127) ||| 128)]) _ h26 zs32 kp33 f29 f30 (by rw [own_lapp (by omega)]; exact f31) A28 (own_put ok (by omega)) (by simp only [List.length_append, List.length_set, List.length_cons, List.length_nil]; omega) (by rw [own_shr7]; exact own_hus hu) (ht.trans (by rw [own_varS c1, List.append_assoc]; rfl))).le (by decide) (by decide)

theorem ef_k_wv (m : MethodId) (x0 : Addr) (x1 : Int64) : entryFrame m #[(.ref x0), (.long x1)] 5 = mkF m 0 #[.val (.ref x0), .val (.long x1), .second, .unset, .unset] [] := by first | (simp [entryFrame, mkF, argsToLocals, Value.category]; done) | rfl

set_option maxRecDepth 65536 in
set_option maxHeartbeats 40000000 in
theorem k_wv {l : Launch} {Z : State} {a0 : Array Value} (hw : ∀ d ∈ tables_1, d.before a0 Z = true) {am : Addr} {xs : List Int32} {cs : List Int32} {B : Nat} (h : Heap) (hz : Z.heap.size ≤ h.size) (a : Addr) (v : Int64) (fa0 : Exa Z h a "io/mereline/SpillEncoding$Output") (fa1 : Fld Z h a "io/mereline/ByteOutput" "bytes" "[B" (.ref am)) (fa2 : Fld Z h a "io/mereline/ByteOutput" "length" "I" (.int (List.length cs).toInt32)) (fa3 : Ari Z h am .byte xs) (ok : own_ok xs cs B) (hB : B + B / 2 ≤ 60) (hn10 : cs.length + 10 ≤ B + B / 2) (ge_a : Z.heap.size ≤ a) (ge_am : Z.heap.size ≤ am) (ne_a_am : a ≠ am) : Go l Z (⟨"io/mereline/ByteOutput", "writeVarint", "(J)V"⟩ : MethodName) prog_28_method_7_code 5 (Option.none : Option Jvm.ClassFile.FieldType) ({ frames := 3, cells := 1, slots := 64, locals := 120 } : Room) (QV fun h' => (∃ am' : Addr, ∃ xs' : List Int32, Fld Z h' a "io/mereline/ByteOutput" "bytes" "[B" (.ref am') ∧ Ari Z h' am' .byte xs' ∧ a ≠ am' ∧ Z.heap.size ≤ am' ∧ own_ok xs' (cs ++ own_var 10 v) (B + B / 2) ∧ (am' = am ∨ h.size ≤ am')) ∧ Keep h h' [a, am] ∧ Exa Z h' a "io/mereline/SpillEncoding$Output" ∧ Fld Z h' a "io/mereline/ByteOutput" "length" "I" (.int (List.length (cs ++ own_var 10 v)).toInt32)) 0 0 h 0 #[.val (.ref a), .val (.long v), .second, .unset, .unset] [] := by
  have kp0 : Keep h h [a, am] := Keep.refl _ _
  refine Go.aload_n 1 d6_0 rfl rfl rfl ?_
  refine Go.bipush 3 (10) d6_1 (by decide) rfl ?_
  refine Go.callVV [.int (10 : Int32)] [] 6 d6_3 (tw35 hw) (tw36 hw) (tw38 hw) (tw37 hw) (tw9 hw) (tw39 hw) fa0 pl7 (by decide) (lenOf pd7 rfl) rfl (fun m => ef_k_room m a (10 : Int32)) _ (k_room (cs := cs) (B := B) hw h hz a fa0 fa1 fa2 fa3 (by assumption) (by assumption) (by assumption) ge_a ge_am ne_a_am) 0 rfl (Nat.le_of_eq rfl) (by decide) (by decide) (by decide) (by decide) rfl ?_
  rintro h2 ⟨p6, K3, f4, f5⟩
  have zs7 : Z.heap.size ≤ h2.size := Nat.le_trans hz K3.1
  have kp8 : Keep h h2 [a, am] := kp0.trans K3 (allS (Or.inl (by simp)) (allS (Or.inl (by simp)) all0))
  obtain ⟨am8, xs8, fe8, ar8, na8, ga8, ok8, px8_0, px8_1⟩ := p6
  have hn : cs.length ≤ 50 := by have := ok8.2.1; omega
  refine Go.lload_n 7 d6_6 rfl rfl ?_
  refine Go.lstore_n 8 #[.val (.ref a), .val (.long v), .second, .val (.long v), .second] d6_7 rfl rfl ?_
  refine Go.lload_n 9 d6_8 rfl rfl ?_
  refine Go.ldc2_w 12 d6_9 (tw60 hw) rfl ?_
  refine Go.land 13 d6_12 rfl ?_
  refine Go.lconst 14 (0) d6_13 (by decide) rfl ?_
  refine Go.lcmp 15 d6_14 rfl ?_
  refine Go.lcmp_ne 38 18 d6_15 (by decide) (by decide) rfl (fun c10 => ?_) (fun c10 => ?_)
  ·
    exact (k_wl hw h a am8 am v (cs ++ own_var 10 v) (B + B / 2) hB ge_a ga8 na8 px8_1 9 v cs _ h2 zs7 kp8 f4 fe8 f5 ar8 ok8 px8_0 (own_hu10 v) rfl).le (by decide) (by decide)
  ·
    refine Go.aload_n 19 d6_18 rfl rfl rfl ?_
    refine Go.getfield 22 d6_19 (tw17 hw) fe8 rfl ?_
    refine Go.aload_n 23 d6_22 rfl rfl rfl ?_
    refine Go.dup 24 d6_23 rfl rfl ?_
    refine Go.getfield 27 d6_24 (tw40 hw) f5 rfl ?_
    refine Go.dupX1 28 d6_27 rfl rfl rfl ?_
    refine Go.iconst 29 (1) d6_28 (by decide) rfl ?_
    refine Go.iadd 30 d6_29 rfl ?_
    refine Go.putfield (ty := .int) 33 d6_30 (tw40 hw) f5 f4 (Or.inl (tw41 hw)) (tw1 hw) (by decide) rfl rfl ge_a rfl (fun h11 W12 => ?_)
    have f13 : Exa Z h11 a "io/mereline/SpillEncoding$Output" := f4.wr W12
    have f14 : Fld Z h11 a "io/mereline/ByteOutput" "length" "I" (.int ((List.length cs).toInt32 + (1 : Int32))) := f5.same W12
    have f15 : Fld Z h11 a "io/mereline/ByteOutput" "bytes" "[B" (.ref am8) := fe8.other W12 (Or.inr (slot_ne (Or.inl (tw18 hw)) (Or.inl (tw41 hw)) (by decide) (by decide +kernel : parseFieldDescriptor "[B" = some (.array .byte)) (by decide +kernel : parseFieldDescriptor "I" = some .int)))
    have f16 : Ari Z h11 am8 .byte xs8 := ar8.other W12 (Ne.symm na8)
    have zs17 : Z.heap.size ≤ h11.size := W12.size ▸ zs7
    have kp18 : Keep h h11 [a, am] := kp8.wr W12 (Or.inl (by simp))
    refine Go.lload_n 34 d6_33 rfl rfl ?_
    refine Go.l2i 35 d6_34 rfl ?_
    refine Go.i2b 36 d6_35 rfl ?_
    refine Go.bastore (cs.length) ((xs8.set cs.length (nar .byte (Int8.toInt32 (Int32.toInt8 (Int64.toInt32 v)))))) 37 d6_36 f16 (own_lenn (by omega)) (own_lenN (by omega)) (by omega) rfl ga8 rfl (fun h19 W20 A21 => ?_)
    have f22 : Exa Z h19 a "io/mereline/SpillEncoding$Output" := f13.wr W20
    have f23 : Fld Z h19 a "io/mereline/ByteOutput" "length" "I" (.int ((List.length cs).toInt32 + (1 : Int32))) := f14.other W20 (Or.inl na8)
    have f24 : Fld Z h19 a "io/mereline/ByteOutput" "bytes" "[B" (.ref am8) := f15.other W20 (Or.inl na8)
    have zs25 : Z.heap.size ≤ h19.size := W20.size ▸ zs17
    have kp26 : Keep h h19 [a, am] := kp18.wr W20 (px8_1.elim (fun e => Or.inl (by simp [e])) Or.inr)
    refine Go.vreturn d6_37 rfl (by decide) (by decide) ?_
    have ev : own_var 10 v = [own_B v] := own_var1 (k := 9) c10
    exact ⟨⟨am8, _, f24, A21, na8, ga8, (by rw [ev]; exact own_put ok8 (by omega)), px8_1⟩, kp26, f22, (by rw [ev, own_lapp (by omega)]; exact f23)⟩

theorem d5_0 : decode prog_28_method_6_code 0 = .ok (.aload_n 0, 1) := by decide +kernel
theorem d5_1 : decode prog_28_method_6_code 1 = .ok (.lload_n 1, 1) := by decide +kernel
theorem d5_2 : decode prog_28_method_6_code 2 = .ok (.iconst 1, 1) := by decide +kernel
theorem d5_3 : decode prog_28_method_6_code 3 = .ok (.lshl, 1) := by decide +kernel
theorem d5_4 : decode prog_28_method_6_code 4 = .ok (.lload_n 1, 1) := by decide +kernel
theorem d5_5 : decode prog_28_method_6_code 5 = .ok (.bipush 63, 2) := by decide +kernel
theorem d5_7 : decode prog_28_method_6_code 7 = .ok (.lshr, 1) := by decide +kernel
theorem d5_8 : decode prog_28_method_6_code 8 = .ok (.lxor, 1) := by decide +kernel
theorem d5_9 : decode prog_28_method_6_code 9 = .ok (.invokevirtual 28, 3) := by decide +kernel
theorem d5_12 : decode prog_28_method_6_code 12 = .ok (.return_, 1) := by decide +kernel

theorem pd5 : parseMethodDescriptor "(J)V" = some ⟨[.long], none⟩ := by decide +kernel
theorem pl5 : plainFor (⟨"io/mereline/ByteOutput", "writeZigZag", "(J)V"⟩ : MethodName) = true := by first | exact plainFor_of_name (by first | (simp [plainName, overriddenIn]; done) | decide +kernel) | decide +kernel

theorem ef_k_wz (m : MethodId) (x0 : Addr) (x1 : Int64) : entryFrame m #[(.ref x0), (.long x1)] 3 = mkF m 0 #[.val (.ref x0), .val (.long x1), .second] [] := by first | (simp [entryFrame, mkF, argsToLocals, Value.category]; done) | rfl

set_option maxRecDepth 65536 in
set_option maxHeartbeats 40000000 in
theorem k_wz {l : Launch} {Z : State} {a0 : Array Value} (hw : ∀ d ∈ tables_1, d.before a0 Z = true) {am : Addr} {xs : List Int32} {cs : List Int32} {B : Nat} (h : Heap) (hz : Z.heap.size ≤ h.size) (a : Addr) (v : Int64) (fa0 : Exa Z h a "io/mereline/SpillEncoding$Output") (fa1 : Fld Z h a "io/mereline/ByteOutput" "bytes" "[B" (.ref am)) (fa2 : Fld Z h a "io/mereline/ByteOutput" "length" "I" (.int (List.length cs).toInt32)) (fa3 : Ari Z h am .byte xs) (ok : own_ok xs cs B) (hB : B + B / 2 ≤ 60) (hn10 : cs.length + 10 ≤ B + B / 2) (ge_a : Z.heap.size ≤ a) (ge_am : Z.heap.size ≤ am) (ne_a_am : a ≠ am) : Go l Z (⟨"io/mereline/ByteOutput", "writeZigZag", "(J)V"⟩ : MethodName) prog_28_method_6_code 3 (Option.none : Option Jvm.ClassFile.FieldType) ({ frames := 4, cells := 1, slots := 64, locals := 140 } : Room) (QV fun h' => (∃ am' : Addr, ∃ xs' : List Int32, Fld Z h' a "io/mereline/ByteOutput" "bytes" "[B" (.ref am') ∧ Ari Z h' am' .byte xs' ∧ a ≠ am' ∧ Z.heap.size ≤ am' ∧ own_ok xs' (cs ++ own_var 10 (own_zz v)) (B + B / 2) ∧ (am' = am ∨ h.size ≤ am')) ∧ Keep h h' [a, am] ∧ Exa Z h' a "io/mereline/SpillEncoding$Output" ∧ Fld Z h' a "io/mereline/ByteOutput" "length" "I" (.int (List.length (cs ++ own_var 10 (own_zz v))).toInt32)) 0 0 h 0 #[.val (.ref a), .val (.long v), .second] [] := by
  have kp0 : Keep h h [a, am] := Keep.refl _ _
  refine Go.aload_n 1 d5_0 rfl rfl rfl ?_
  refine Go.lload_n 2 d5_1 rfl rfl ?_
  refine Go.iconst 3 (1) d5_2 (by decide) rfl ?_
  refine Go.lshl 4 d5_3 rfl ?_
  refine Go.lload_n 5 d5_4 rfl rfl ?_
  refine Go.bipush 7 (63) d5_5 (by decide) rfl ?_
  refine Go.lshr 8 d5_7 rfl ?_
  refine Go.lxor 9 d5_8 rfl ?_
  refine Go.callVV [.long ((v <<< (Int32.toInt64 (1 : Int32) &&& 63)) ^^^ (v >>> (Int32.toInt64 (63 : Int32) &&& 63)))] [] 12 d5_9 (tw30 hw) (tw31 hw) (tw33 hw) (tw32 hw) (tw9 hw) (tw34 hw) fa0 pl6 (by decide) (lenOf pd6 rfl) rfl (fun m => ef_k_wv m a ((v <<< (Int32.toInt64 (1 : Int32) &&& 63)) ^^^ (v >>> (Int32.toInt64 (63 : Int32) &&& 63)))) _ (k_wv (cs := cs) (B := B) hw h hz a (((v <<< (Int32.toInt64 (1 : Int32) &&& 63)) ^^^ (v >>> (Int32.toInt64 (63 : Int32) &&& 63)))) fa0 fa1 fa2 fa3 (by assumption) (by assumption) (by assumption) ge_a ge_am ne_a_am) 0 rfl (Nat.le_of_eq rfl) (by decide) (by decide) (by decide) (by decide) rfl ?_
  rintro h2 ⟨p6, K3, f4, f5⟩
  have zs7 : Z.heap.size ≤ h2.size := Nat.le_trans hz K3.1
  have kp8 : Keep h h2 [a, am] := kp0.trans K3 (allS (Or.inl (by simp)) (allS (Or.inl (by simp)) all0))
  obtain ⟨am8, xs8, fe8, ar8, na8, ga8, ok8, px8_0⟩ := p6
  refine Go.vreturn d5_12 rfl (by decide) (by decide) ?_
  exact ⟨⟨am8, _, fe8, ar8, na8, ga8, ok8, px8_0⟩, kp8, f4, f5⟩

theorem d4_0 : decode prog_146_method_2_code 0 = .ok (.aload_n 0, 1) := by decide +kernel
theorem d4_1 : decode prog_146_method_2_code 1 = .ok (.lload_n 1, 1) := by decide +kernel
theorem d4_2 : decode prog_146_method_2_code 2 = .ok (.invokevirtual 7, 3) := by decide +kernel
theorem d4_5 : decode prog_146_method_2_code 5 = .ok (.return_, 1) := by decide +kernel

theorem pd4 : parseMethodDescriptor "(J)V" = some ⟨[.long], none⟩ := by decide +kernel
theorem pl4 : plainFor (⟨"io/mereline/SpillEncoding$Output", "writeNumber", "(J)V"⟩ : MethodName) = true := by first | exact plainFor_of_name (by first | (simp [plainName, overriddenIn]; done) | decide +kernel) | decide +kernel

theorem ef_k_wn (m : MethodId) (x0 : Addr) (x1 : Int64) : entryFrame m #[(.ref x0), (.long x1)] 3 = mkF m 0 #[.val (.ref x0), .val (.long x1), .second] [] := by first | (simp [entryFrame, mkF, argsToLocals, Value.category]; done) | rfl

set_option maxRecDepth 65536 in
set_option maxHeartbeats 40000000 in
theorem k_wn {l : Launch} {Z : State} {a0 : Array Value} (hw : ∀ d ∈ tables_1, d.before a0 Z = true) {am : Addr} {xs : List Int32} {cs : List Int32} {B : Nat} (h : Heap) (hz : Z.heap.size ≤ h.size) (a : Addr) (v : Int64) (fa0 : Exa Z h a "io/mereline/SpillEncoding$Output") (fa1 : Fld Z h a "io/mereline/ByteOutput" "bytes" "[B" (.ref am)) (fa2 : Fld Z h a "io/mereline/ByteOutput" "length" "I" (.int (List.length cs).toInt32)) (fa3 : Ari Z h am .byte xs) (ok : own_ok xs cs B) (hB : B + B / 2 ≤ 60) (hn10 : cs.length + 10 ≤ B + B / 2) (ge_a : Z.heap.size ≤ a) (ge_am : Z.heap.size ≤ am) (ne_a_am : a ≠ am) : Go l Z (⟨"io/mereline/SpillEncoding$Output", "writeNumber", "(J)V"⟩ : MethodName) prog_146_method_2_code 3 (Option.none : Option Jvm.ClassFile.FieldType) ({ frames := 5, cells := 1, slots := 64, locals := 158 } : Room) (QV fun h' => (∃ am' : Addr, ∃ xs' : List Int32, Fld Z h' a "io/mereline/ByteOutput" "bytes" "[B" (.ref am') ∧ Ari Z h' am' .byte xs' ∧ a ≠ am' ∧ Z.heap.size ≤ am' ∧ own_ok xs' (cs ++ own_var 10 (own_zz v)) (B + B / 2) ∧ (am' = am ∨ h.size ≤ am')) ∧ Keep h h' [a, am] ∧ Exa Z h' a "io/mereline/SpillEncoding$Output" ∧ Fld Z h' a "io/mereline/ByteOutput" "length" "I" (.int (List.length (cs ++ own_var 10 (own_zz v))).toInt32)) 0 0 h 0 #[.val (.ref a), .val (.long v), .second] [] := by
  have kp0 : Keep h h [a, am] := Keep.refl _ _
  refine Go.aload_n 1 d4_0 rfl rfl rfl ?_
  refine Go.lload_n 2 d4_1 rfl rfl ?_
  refine Go.callUV [.long v] [] 5 d4_2 (tw24 hw) (tw25 hw) (tw26 hw) (tw28 hw) (tw27 hw) (tw9 hw) (tw29 hw) fa0 pl5 (by decide) (lenOf pd5 rfl) rfl (fun m => ef_k_wz m a v) _ (k_wz (cs := cs) (B := B) hw h hz a v fa0 fa1 fa2 fa3 (by assumption) (by assumption) (by assumption) ge_a ge_am ne_a_am) 0 rfl (Nat.le_of_eq rfl) (by decide) (by decide) (by decide) (by decide) rfl ?_
  rintro h2 ⟨p6, K3, f4, f5⟩
  have zs7 : Z.heap.size ≤ h2.size := Nat.le_trans hz K3.1
  have kp8 : Keep h h2 [a, am] := kp0.trans K3 (allS (Or.inl (by simp)) (allS (Or.inl (by simp)) all0))
  obtain ⟨am8, xs8, fe8, ar8, na8, ga8, ok8, px8_0⟩ := p6
  refine Go.vreturn d4_5 rfl (by decide) (by decide) ?_
  exact ⟨⟨am8, _, fe8, ar8, na8, ga8, ok8, px8_0⟩, kp8, f4, f5⟩

theorem d2_0 : decode prog_28_method_1_code 0 = .ok (.aload_n 0, 1) := by decide +kernel
theorem d2_1 : decode prog_28_method_1_code 1 = .ok (.invokespecial 5, 3) := by decide +kernel
theorem d2_4 : decode prog_28_method_1_code 4 = .ok (.aload_n 0, 1) := by decide +kernel
theorem d2_5 : decode prog_28_method_1_code 5 = .ok (.iload_n 1, 1) := by decide +kernel
theorem d2_6 : decode prog_28_method_1_code 6 = .ok (.putfield 11, 3) := by decide +kernel
theorem d2_9 : decode prog_28_method_1_code 9 = .ok (.aload_n 0, 1) := by decide +kernel
theorem d2_10 : decode prog_28_method_1_code 10 = .ok (.iload_n 1, 1) := by decide +kernel
theorem d2_11 : decode prog_28_method_1_code 11 = .ok (.newarray .byte, 2) := by decide +kernel
theorem d2_13 : decode prog_28_method_1_code 13 = .ok (.putfield 15, 3) := by decide +kernel
theorem d2_16 : decode prog_28_method_1_code 16 = .ok (.return_, 1) := by decide +kernel

theorem pd2 : parseMethodDescriptor "(I)V" = some ⟨[.int], none⟩ := by decide +kernel
theorem pl2 : plainFor (⟨"io/mereline/ByteOutput", "<init>", "(I)V"⟩ : MethodName) = true := by first | exact plainFor_of_name (by first | (simp [plainName, overriddenIn]; done) | decide +kernel) | decide +kernel

theorem ef_k_bi (m : MethodId) (x0 : Addr) (x1 : Int32) : entryFrame m #[(.ref x0), (.int x1)] 2 = mkF m 0 #[.val (.ref x0), .val (.int x1)] [] := by first | (simp [entryFrame, mkF, argsToLocals, Value.category]; done) | rfl

set_option maxRecDepth 65536 in
set_option maxHeartbeats 40000000 in
theorem k_bi {l : Launch} {Z : State} {a0 : Array Value} (hw : ∀ d ∈ tables_1, d.before a0 Z = true)  (h : Heap) (hz : Z.heap.size ≤ h.size) (a : Addr) (n : Int32) (fa0 : Exa Z h a "io/mereline/SpillEncoding$Output") (fa1 : Fld Z h a "io/mereline/ByteOutput" "bytes" "[B" (.null)) (fa2 : Fld Z h a "io/mereline/ByteOutput" "length" "I" (.int (0 : Int32))) (fa3 : Fld Z h a "io/mereline/ByteOutput" "initialCapacity" "I" (.int (0 : Int32))) (hn0 : ¬ n < 0) (hn16 : (Int32.toNatClampNeg n) ≤ 16) (ge_a : Z.heap.size ≤ a)  : Go l Z (⟨"io/mereline/ByteOutput", "<init>", "(I)V"⟩ : MethodName) prog_28_method_1_code 2 (Option.none : Option Jvm.ClassFile.FieldType) ({ frames := 1, cells := 1, slots := 16, locals := 16 } : Room) (QV fun h' => (∃ am' : Addr, ∃ xs' : List Int32, Fld Z h' a "io/mereline/ByteOutput" "bytes" "[B" (.ref am') ∧ Ari Z h' am' .byte xs' ∧ a ≠ am' ∧ Z.heap.size ≤ am' ∧ own_ok xs' [] 16) ∧ Keep h h' [a] ∧ Exa Z h' a "io/mereline/SpillEncoding$Output" ∧ Fld Z h' a "io/mereline/ByteOutput" "length" "I" (.int (List.length ([] : List Int32)).toInt32)) 0 0 h 0 #[.val (.ref a), .val (.int n)] [] := by
  have kp0 : Keep h h [a] := Keep.refl _ _
  refine Go.aload_n 1 d2_0 rfl rfl rfl ?_
  refine Go.initO 0 4 d2_1 (tw11 hw) (tw12 hw) (tw13 hw) rfl (by decide) (Nat.le_of_eq rfl) (by decide) rfl ?_
  refine Go.aload_n 5 d2_4 rfl rfl rfl ?_
  refine Go.iload_n 6 d2_5 rfl rfl ?_
  refine Go.putfield (ty := .int) 9 d2_6 (tw14 hw) fa3 fa0 (Or.inr ⟨(tw15 hw), rfl, rfl⟩) (tw1 hw) (by decide) rfl rfl ge_a rfl (fun h1 W2 => ?_)
  have f3 : Exa Z h1 a "io/mereline/SpillEncoding$Output" := fa0.wr W2
  have f4 : Fld Z h1 a "io/mereline/ByteOutput" "bytes" "[B" (.null) := fa1.other W2 (Or.inr (slot_ne (Or.inl (tw18 hw)) (Or.inr (tw15 hw)) (by decide) (by decide +kernel : parseFieldDescriptor "[B" = some (.array .byte)) (by decide +kernel : parseFieldDescriptor "I" = some .int)))
  have f5 : Fld Z h1 a "io/mereline/ByteOutput" "length" "I" (.int (0 : Int32)) := fa2.other W2 (Or.inr (slot_ne (Or.inl (tw41 hw)) (Or.inr (tw15 hw)) (by decide) (by decide +kernel : parseFieldDescriptor "I" = some .int) (by decide +kernel : parseFieldDescriptor "I" = some .int)))
  have f6 : Fld Z h1 a "io/mereline/ByteOutput" "initialCapacity" "I" (.int n) := fa3.same W2
  have zs7 : Z.heap.size ≤ h1.size := W2.size ▸ hz
  have kp8 : Keep h h1 [a] := kp0.wr W2 (Or.inl (by simp))
  refine Go.aload_n 10 d2_9 rfl rfl rfl ?_
  refine Go.iload_n 11 d2_10 rfl rfl ?_
  refine Go.newI (cap := 16) (xs := (List.replicate (Int32.toNatClampNeg n) 0)) 13 d2_11 (tw16 hw) rfl hn0 hn16 (by decide) rfl (by decide) (by decide) rfl (fun a9 h10 q11 E12 A13 => ?_)
  have ne14 : a ≠ a9 := fun e => absurd f3.lt (by rw [e, q11]; exact Nat.lt_irrefl _)
  have ge15 : Z.heap.size ≤ a9 := (Eq.symm q11) ▸ zs7
  have fr16 : h.size ≤ a9 := by rw [q11]; exact kp8.1
  have f17 : Exa Z h10 a "io/mereline/SpillEncoding$Output" := f3.ext E12
  have f18 : Fld Z h10 a "io/mereline/ByteOutput" "bytes" "[B" (.null) := f4.ext E12
  have f19 : Fld Z h10 a "io/mereline/ByteOutput" "length" "I" (.int (0 : Int32)) := f5.ext E12
  have f20 : Fld Z h10 a "io/mereline/ByteOutput" "initialCapacity" "I" (.int n) := f6.ext E12
  have zs21 : Z.heap.size ≤ h10.size := Nat.le_trans zs7 E12.1
  have kp22 : Keep h h10 [a] := kp8.ext E12
  refine Go.putfield (ty := (.array .byte)) 16 d2_13 (tw17 hw) f18 f17 (Or.inl (tw18 hw)) (tw1 hw) (by decide) rfl rfl ge_a rfl (fun h23 W24 => ?_)
  have f25 : Exa Z h23 a "io/mereline/SpillEncoding$Output" := f17.wr W24
  have f26 : Fld Z h23 a "io/mereline/ByteOutput" "bytes" "[B" (.ref a9) := f18.same W24
  have f27 : Fld Z h23 a "io/mereline/ByteOutput" "length" "I" (.int (0 : Int32)) := f19.other W24 (Or.inr (slot_ne (Or.inl (tw41 hw)) (Or.inl (tw18 hw)) (by decide) (by decide +kernel : parseFieldDescriptor "I" = some .int) (by decide +kernel : parseFieldDescriptor "[B" = some (.array .byte))))
  have f28 : Fld Z h23 a "io/mereline/ByteOutput" "initialCapacity" "I" (.int n) := f20.other W24 (Or.inr (slot_ne (Or.inr (tw15 hw)) (Or.inl (tw18 hw)) (by decide) (by decide +kernel : parseFieldDescriptor "I" = some .int) (by decide +kernel : parseFieldDescriptor "[B" = some (.array .byte))))
  have f29 : Ari Z h23 a9 .byte (List.replicate (Int32.toNatClampNeg n) 0) := A13.other W24 (Ne.symm ne14)
  have zs30 : Z.heap.size ≤ h23.size := W24.size ▸ zs21
  have kp31 : Keep h h23 [a] := kp22.wr W24 (Or.inl (by simp))
  refine Go.vreturn d2_16 rfl (by decide) (by decide) ?_
  exact ⟨⟨a9, _, f26, f29, ne14, ge15, own_okinit hn16⟩, kp31, f25, (own_l0 ▸ f27)⟩

theorem d1_0 : decode prog_146_method_1_code 0 = .ok (.aload_n 0, 1) := by decide +kernel
theorem d1_1 : decode prog_146_method_1_code 1 = .ok (.iload_n 1, 1) := by decide +kernel
theorem d1_2 : decode prog_146_method_1_code 2 = .ok (.invokespecial 1, 3) := by decide +kernel
theorem d1_5 : decode prog_146_method_1_code 5 = .ok (.return_, 1) := by decide +kernel

theorem pd1 : parseMethodDescriptor "(I)V" = some ⟨[.int], none⟩ := by decide +kernel
theorem pl1 : plainFor (⟨"io/mereline/SpillEncoding$Output", "<init>", "(I)V"⟩ : MethodName) = true := by first | exact plainFor_of_name (by first | (simp [plainName, overriddenIn]; done) | decide +kernel) | decide +kernel

theorem ef_k_oi (m : MethodId) (x0 : Addr) (x1 : Int32) : entryFrame m #[(.ref x0), (.int x1)] 2 = mkF m 0 #[.val (.ref x0), .val (.int x1)] [] := by first | (simp [entryFrame, mkF, argsToLocals, Value.category]; done) | rfl

set_option maxRecDepth 65536 in
set_option maxHeartbeats 40000000 in
theorem k_oi {l : Launch} {Z : State} {a0 : Array Value} (hw : ∀ d ∈ tables_1, d.before a0 Z = true)  (h : Heap) (hz : Z.heap.size ≤ h.size) (a : Addr) (n : Int32) (fa0 : Exa Z h a "io/mereline/SpillEncoding$Output") (fa1 : Fld Z h a "io/mereline/ByteOutput" "bytes" "[B" (.null)) (fa2 : Fld Z h a "io/mereline/ByteOutput" "length" "I" (.int (0 : Int32))) (fa3 : Fld Z h a "io/mereline/ByteOutput" "initialCapacity" "I" (.int (0 : Int32))) (hn0 : ¬ n < 0) (hn16 : (Int32.toNatClampNeg n) ≤ 16) (ge_a : Z.heap.size ≤ a)  : Go l Z (⟨"io/mereline/SpillEncoding$Output", "<init>", "(I)V"⟩ : MethodName) prog_146_method_1_code 2 (Option.none : Option Jvm.ClassFile.FieldType) ({ frames := 2, cells := 1, slots := 16, locals := 40 } : Room) (QV fun h' => (∃ am' : Addr, ∃ xs' : List Int32, Fld Z h' a "io/mereline/ByteOutput" "bytes" "[B" (.ref am') ∧ Ari Z h' am' .byte xs' ∧ a ≠ am' ∧ Z.heap.size ≤ am' ∧ own_ok xs' [] 16) ∧ Keep h h' [a] ∧ Exa Z h' a "io/mereline/SpillEncoding$Output" ∧ Fld Z h' a "io/mereline/ByteOutput" "length" "I" (.int (List.length ([] : List Int32)).toInt32)) 0 0 h 0 #[.val (.ref a), .val (.int n)] [] := by
  have kp0 : Keep h h [a] := Keep.refl _ _
  refine Go.aload_n 1 d1_0 rfl rfl rfl ?_
  refine Go.iload_n 2 d1_1 rfl rfl ?_
  refine Go.callC [.int n] [] 5 d1_2 rfl (tw6 hw) (tw7 hw) (tw9 hw) (tw10 hw) pl2 (by decide) (lenOf pd2 rfl) rfl (fun m => ef_k_bi m a n) _ (k_bi hw h hz a n fa0 fa1 fa2 fa3 (by assumption) (by assumption) ge_a) 0 rfl (Nat.le_of_eq rfl) (by decide) (by decide) (by decide) (by decide) rfl ?_
  rintro h2 ⟨p6, K3, f4, f5⟩
  have zs7 : Z.heap.size ≤ h2.size := Nat.le_trans hz K3.1
  have kp8 : Keep h h2 [a] := kp0.trans K3 (allS (Or.inl (by simp)) all0)
  obtain ⟨am8, xs8, fe8, ar8, na8, ga8, ok8⟩ := p6
  refine Go.vreturn d1_5 rfl (by decide) (by decide) ?_
  exact ⟨⟨am8, _, fe8, ar8, na8, ga8, ok8⟩, kp8, f4, f5⟩

theorem d11_0 : decode prog_28_method_2_code 0 = .ok (.aload_n 0, 1) := by decide +kernel
theorem d11_1 : decode prog_28_method_2_code 1 = .ok (.getfield 19, 3) := by decide +kernel
theorem d11_4 : decode prog_28_method_2_code 4 = .ok (.ireturn, 1) := by decide +kernel

theorem pd11 : parseMethodDescriptor "()I" = some ⟨[], some .int⟩ := by decide +kernel
theorem pl11 : plainFor (⟨"io/mereline/ByteOutput", "length", "()I"⟩ : MethodName) = true := by first | exact plainFor_of_name (by first | (simp [plainName, overriddenIn]; done) | decide +kernel) | decide +kernel

theorem ef_k_len (m : MethodId) (x0 : Addr) : entryFrame m #[(.ref x0)] 1 = mkF m 0 #[.val (.ref x0)] [] := by first | (simp [entryFrame, mkF, argsToLocals, Value.category]; done) | rfl

set_option maxRecDepth 65536 in
set_option maxHeartbeats 40000000 in
theorem k_len {l : Launch} {Z : State} {a0 : Array Value} (hw : ∀ d ∈ tables_1, d.before a0 Z = true) {n : Int32} (h : Heap) (hz : Z.heap.size ≤ h.size) (a : Addr) (fa0 : Fld Z h a "io/mereline/ByteOutput" "length" "I" (.int n))    : Go l Z (⟨"io/mereline/ByteOutput", "length", "()I"⟩ : MethodName) prog_28_method_2_code 1 (Option.some Jvm.ClassFile.FieldType.int) ({ frames := 0, cells := 0, slots := 0, locals := 0 } : Room) (QI fun rz h' => rz = n ∧ h' = h) 0 0 h 0 #[.val (.ref a)] [] := by
  refine Go.aload_n 1 d11_0 rfl rfl rfl ?_
  refine Go.getfield 4 d11_1 (tw40 hw) fa0 rfl ?_
  refine Go.ireturn d11_4 rfl (by decide) (by decide) ?_
  exact ⟨rfl, rfl⟩

theorem d12_0 : decode prog_28_method_4_code 0 = .ok (.aload_n 0, 1) := by decide +kernel
theorem d12_1 : decode prog_28_method_4_code 1 = .ok (.getfield 15, 3) := by decide +kernel
theorem d12_4 : decode prog_28_method_4_code 4 = .ok (.areturn, 1) := by decide +kernel

theorem pd12 : parseMethodDescriptor "()[B" = some ⟨[], some (.array .byte)⟩ := by decide +kernel
theorem pl12 : plainFor (⟨"io/mereline/ByteOutput", "bytes", "()[B"⟩ : MethodName) = true := by first | exact plainFor_of_name (by first | (simp [plainName, overriddenIn]; done) | decide +kernel) | decide +kernel

theorem ef_k_bytes (m : MethodId) (x0 : Addr) : entryFrame m #[(.ref x0)] 1 = mkF m 0 #[.val (.ref x0)] [] := by first | (simp [entryFrame, mkF, argsToLocals, Value.category]; done) | rfl

set_option maxRecDepth 65536 in
set_option maxHeartbeats 40000000 in
theorem k_bytes {l : Launch} {Z : State} {a0 : Array Value} (hw : ∀ d ∈ tables_1, d.before a0 Z = true) {am : Addr} (h : Heap) (hz : Z.heap.size ≤ h.size) (a : Addr) (fa0 : Fld Z h a "io/mereline/ByteOutput" "bytes" "[B" (.ref am))    : Go l Z (⟨"io/mereline/ByteOutput", "bytes", "()[B"⟩ : MethodName) prog_28_method_4_code 1 (Option.some (Jvm.ClassFile.FieldType.array Jvm.ClassFile.FieldType.byte)) ({ frames := 0, cells := 0, slots := 0, locals := 0 } : Room) (QR fun rz h' => rz = .ref am ∧ h' = h) 0 0 h 0 #[.val (.ref a)] [] := by
  refine Go.aload_n 1 d12_0 rfl rfl rfl ?_
  refine Go.getfield 4 d12_1 (tw17 hw) fa0 rfl ?_
  refine Go.areturn d12_4 rfl rfl rfl (by decide) (by decide) ?_
  exact ⟨rfl, rfl⟩

theorem d13_0 : decode prog_144_method_2_code 0 = .ok (.lconst 0, 1) := by decide +kernel
theorem d13_1 : decode prog_144_method_2_code 1 = .ok (.lstore_n 2, 1) := by decide +kernel
theorem d13_2 : decode prog_144_method_2_code 2 = .ok (.iload_n 1, 1) := by decide +kernel
theorem d13_3 : decode prog_144_method_2_code 3 = .ok (.istore 4, 2) := by decide +kernel
theorem d13_5 : decode prog_144_method_2_code 5 = .ok (.iconst 0, 1) := by decide +kernel
theorem d13_6 : decode prog_144_method_2_code 6 = .ok (.istore 5, 2) := by decide +kernel
theorem d13_8 : decode prog_144_method_2_code 8 = .ok (.aload_n 0, 1) := by decide +kernel
theorem d13_9 : decode prog_144_method_2_code 9 = .ok (.iload 4, 2) := by decide +kernel
theorem d13_11 : decode prog_144_method_2_code 11 = .ok (.iinc 4 1, 3) := by decide +kernel
theorem d13_14 : decode prog_144_method_2_code 14 = .ok (.baload, 1) := by decide +kernel
theorem d13_15 : decode prog_144_method_2_code 15 = .ok (.istore 6, 2) := by decide +kernel
theorem d13_17 : decode prog_144_method_2_code 17 = .ok (.lload_n 2, 1) := by decide +kernel
theorem d13_18 : decode prog_144_method_2_code 18 = .ok (.iload 6, 2) := by decide +kernel
theorem d13_20 : decode prog_144_method_2_code 20 = .ok (.bipush 127, 2) := by decide +kernel
theorem d13_22 : decode prog_144_method_2_code 22 = .ok (.iand, 1) := by decide +kernel
theorem d13_23 : decode prog_144_method_2_code 23 = .ok (.i2l, 1) := by decide +kernel
theorem d13_24 : decode prog_144_method_2_code 24 = .ok (.iload 5, 2) := by decide +kernel
theorem d13_26 : decode prog_144_method_2_code 26 = .ok (.lshl, 1) := by decide +kernel
theorem d13_27 : decode prog_144_method_2_code 27 = .ok (.lor, 1) := by decide +kernel
theorem d13_28 : decode prog_144_method_2_code 28 = .ok (.lstore_n 2, 1) := by decide +kernel
theorem d13_29 : decode prog_144_method_2_code 29 = .ok (.iload 6, 2) := by decide +kernel
theorem d13_31 : decode prog_144_method_2_code 31 = .ok (.sipush 128, 3) := by decide +kernel
theorem d13_34 : decode prog_144_method_2_code 34 = .ok (.iand, 1) := by decide +kernel
theorem d13_35 : decode prog_144_method_2_code 35 = .ok (.ifCond .ne 12, 3) := by decide +kernel
theorem d13_38 : decode prog_144_method_2_code 38 = .ok (.lload_n 2, 1) := by decide +kernel
theorem d13_39 : decode prog_144_method_2_code 39 = .ok (.iconst 1, 1) := by decide +kernel
theorem d13_40 : decode prog_144_method_2_code 40 = .ok (.lushr, 1) := by decide +kernel
theorem d13_41 : decode prog_144_method_2_code 41 = .ok (.lload_n 2, 1) := by decide +kernel
theorem d13_42 : decode prog_144_method_2_code 42 = .ok (.lconst 1, 1) := by decide +kernel
theorem d13_43 : decode prog_144_method_2_code 43 = .ok (.land, 1) := by decide +kernel
theorem d13_44 : decode prog_144_method_2_code 44 = .ok (.lneg, 1) := by decide +kernel
theorem d13_45 : decode prog_144_method_2_code 45 = .ok (.lxor, 1) := by decide +kernel
theorem d13_46 : decode prog_144_method_2_code 46 = .ok (.lreturn, 1) := by decide +kernel
theorem d13_47 : decode prog_144_method_2_code 47 = .ok (.iinc 5 7, 3) := by decide +kernel
theorem d13_50 : decode prog_144_method_2_code 50 = .ok (.goto (-42), 3) := by decide +kernel

theorem pd13 : parseMethodDescriptor "([BI)J" = some ⟨[(.array .byte), .int], some .long⟩ := by decide +kernel
theorem pl13 : plainFor (⟨"io/mereline/SpillEncoding", "readNumber", "([BI)J"⟩ : MethodName) = true := by first | exact plainFor_of_name (by first | (simp [plainName, overriddenIn]; done) | decide +kernel) | decide +kernel

set_option maxRecDepth 65536 in
set_option maxHeartbeats 40000000 in
theorem k_rl {l : Launch} {Z : State} {a0 : Array Value} (hw : ∀ d ∈ tables_1, d.before a0 Z = true) (h : Heap) (b : Addr) (off : Int32) (xs post : List Int32) (W : Int64) (fa0 : Ari Z h b .byte xs) (hl : xs.length ≤ 60) : ∀ (k : Nat) (u acc : Int64) (pos sh : Int32) (s : Nat) (pre : List Int32) (u6 : Slot) (hu6 : u6 = .unset ∨ ∃ v, u6 = .val v ∧ v.category = 1) (hx : xs = pre ++ own_var (k + 1) u ++ post) (hpos : pos = pre.length.toInt32) (hsh : sh = s.toInt32) (hs : s + 7 * k = 63) (hu : u.toBitVec.toNat < 2 ^ (7 * (k + 1))) (hW : W.toBitVec = acc.toBitVec ||| (u.toBitVec <<< s)), Go l Z (⟨"io/mereline/SpillEncoding", "readNumber", "([BI)J"⟩ : MethodName) prog_144_method_2_code 7 (Option.some Jvm.ClassFile.FieldType.long) ({ frames := 0, cells := 0, slots := 0, locals := 0 } : Room) (QJ fun rz h' => rz = own_unzz W ∧ h' = h) 0 0 h 8 #[.val (.ref b), .val (.int off), .val (.long acc), .second, .val (.int pos), .val (.int sh), u6] [] := by
  intro k
  induction k with
  | zero =>
    intro u acc pos sh s pre u6 hu6 hx hpos hsh hs hu hW
    by_cases hc : u &&& -128 = 0
    · obtain ⟨y, hy, h128, h127⟩ := own_rdL hx hc
      have hp : pre.length ≤ 60 := Nat.le_trans (Nat.le_of_lt (own_getlt hy)) hl
      refine Go.aload_n 9 d13_8 rfl rfl rfl ?_
      refine Go.iload 11 d13_9 rfl rfl ?_
      refine Go.iinc 14 (1) #[.val (.ref b), .val (.int off), .val (.long acc), .second, .val (.int (pos + (1 : Int32))), .val (.int sh), u6] d13_11 (by decide) rfl rfl rfl ?_
      refine Go.baload (x := y) (pre.length) 15 d13_14 fa0 (by rw [hpos]; exact own_lenn (by omega)) (by rw [hpos]; exact own_lenN (by omega)) hy rfl ?_
      refine Go.istoreS 17 #[.val (.ref b), .val (.int off), .val (.long acc), .second, .val (.int (pos + (1 : Int32))), .val (.int sh), .val (.int y)] d13_15 rfl hu6 rfl rfl ?_
      refine Go.lload_n 18 d13_17 rfl rfl ?_
      refine Go.iload 20 d13_18 rfl rfl ?_
      refine Go.bipush 22 (127) d13_20 (by decide) rfl ?_
      refine Go.iand 23 d13_22 rfl ?_
      refine Go.i2l 24 d13_23 rfl ?_
      refine Go.iload 26 d13_24 rfl rfl ?_
      refine Go.lshl 27 d13_26 rfl ?_
      refine Go.lor 28 d13_27 rfl ?_
      refine Go.nameJ (fun v1 e2 => ?_)
      refine Go.lstore_n 29 #[.val (.ref b), .val (.int off), .val (.long v1), .second, .val (.int (pos + (1 : Int32))), .val (.int sh), .val (.int y)] d13_28 rfl rfl ?_
      refine Go.iload 31 d13_29 rfl rfl ?_
      refine Go.sipush 34 (128) d13_31 (by decide) rfl ?_
      refine Go.iand 35 d13_34 rfl ?_
      refine Go.if_ne 47 38 d13_35 (by decide) (by decide) rfl (fun c3 => ?_) (fun c3 => ?_)
      ·
        exact absurd h128 c3
      ·
        refine Go.lload_n 39 d13_38 rfl rfl ?_
        refine Go.iconst 40 (1) d13_39 (by decide) rfl ?_
        refine Go.lushr 41 d13_40 rfl ?_
        refine Go.lload_n 42 d13_41 rfl rfl ?_
        refine Go.lconst 43 (1) d13_42 (by decide) rfl ?_
        refine Go.land 44 d13_43 rfl ?_
        refine Go.lneg 45 d13_44 rfl ?_
        refine Go.lxor 46 d13_45 rfl ?_
        refine Go.lreturn d13_46 rfl (by decide) (by decide) ?_
        obtain rfl : v1 = W := e2.trans (own_rlast h127 hsh (by omega) hW)
        exact ⟨rfl, rfl⟩
    · exact absurd ((own_hi64 u).mpr hu) hc
  | succ k ih =>
    intro u acc pos sh s pre u6 hu6 hx hpos hsh hs hu hW
    by_cases hc : u &&& -128 = 0
    · obtain ⟨y, hy, h128, h127⟩ := own_rdL hx hc
      have hp : pre.length ≤ 60 := Nat.le_trans (Nat.le_of_lt (own_getlt hy)) hl
      refine Go.aload_n 9 d13_8 rfl rfl rfl ?_
      refine Go.iload 11 d13_9 rfl rfl ?_
      refine Go.iinc 14 (1) #[.val (.ref b), .val (.int off), .val (.long acc), .second, .val (.int (pos + (1 : Int32))), .val (.int sh), u6] d13_11 (by decide) rfl rfl rfl ?_
      refine Go.baload (x := y) (pre.length) 15 d13_14 fa0 (by rw [hpos]; exact own_lenn (by omega)) (by rw [hpos]; exact own_lenN (by omega)) hy rfl ?_
      refine Go.istoreS 17 #[.val (.ref b), .val (.int off), .val (.long acc), .second, .val (.int (pos + (1 : Int32))), .val (.int sh), .val (.int y)] d13_15 rfl hu6 rfl rfl ?_
      refine Go.lload_n 18 d13_17 rfl rfl ?_
      refine Go.iload 20 d13_18 rfl rfl ?_
      refine Go.bipush 22 (127) d13_20 (by decide) rfl ?_
      refine Go.iand 23 d13_22 rfl ?_
      refine Go.i2l 24 d13_23 rfl ?_
      refine Go.iload 26 d13_24 rfl rfl ?_
      refine Go.lshl 27 d13_26 rfl ?_
      refine Go.lor 28 d13_27 rfl ?_
      refine Go.nameJ (fun v1 e2 => ?_)
      refine Go.lstore_n 29 #[.val (.ref b), .val (.int off), .val (.long v1), .second, .val (.int (pos + (1 : Int32))), .val (.int sh), .val (.int y)] d13_28 rfl rfl ?_
      refine Go.iload 31 d13_29 rfl rfl ?_
      refine Go.sipush 34 (128) d13_31 (by decide) rfl ?_
      refine Go.iand 35 d13_34 rfl ?_
      refine Go.if_ne 47 38 d13_35 (by decide) (by decide) rfl (fun c3 => ?_) (fun c3 => ?_)
      ·
        exact absurd h128 c3
      ·
        refine Go.lload_n 39 d13_38 rfl rfl ?_
        refine Go.iconst 40 (1) d13_39 (by decide) rfl ?_
        refine Go.lushr 41 d13_40 rfl ?_
        refine Go.lload_n 42 d13_41 rfl rfl ?_
        refine Go.lconst 43 (1) d13_42 (by decide) rfl ?_
        refine Go.land 44 d13_43 rfl ?_
        refine Go.lneg 45 d13_44 rfl ?_
        refine Go.lxor 46 d13_45 rfl ?_
        refine Go.lreturn d13_46 rfl (by decide) (by decide) ?_
        obtain rfl : v1 = W := e2.trans (own_rlast h127 hsh (by omega) hW)
        exact ⟨rfl, rfl⟩
    · obtain ⟨y, hy, h128, h127, hx'⟩ := own_rdM hx hc
      have hp : pre.length ≤ 60 := Nat.le_trans (Nat.le_of_lt (own_getlt hy)) hl
      refine Go.aload_n 9 d13_8 rfl rfl rfl ?_
      refine Go.iload 11 d13_9 rfl rfl ?_
      refine Go.iinc 14 (1) #[.val (.ref b), .val (.int off), .val (.long acc), .second, .val (.int (pos + (1 : Int32))), .val (.int sh), u6] d13_11 (by decide) rfl rfl rfl ?_
      refine Go.baload (x := y) (pre.length) 15 d13_14 fa0 (by rw [hpos]; exact own_lenn (by omega)) (by rw [hpos]; exact own_lenN (by omega)) hy rfl ?_
      refine Go.istoreS 17 #[.val (.ref b), .val (.int off), .val (.long acc), .second, .val (.int (pos + (1 : Int32))), .val (.int sh), .val (.int y)] d13_15 rfl hu6 rfl rfl ?_
      refine Go.lload_n 18 d13_17 rfl rfl ?_
      refine Go.iload 20 d13_18 rfl rfl ?_
      refine Go.bipush 22 (127) d13_20 (by decide) rfl ?_
      refine Go.iand 23 d13_22 rfl ?_
      refine Go.i2l 24 d13_23 rfl ?_
      refine Go.iload 26 d13_24 rfl rfl ?_
      refine Go.lshl 27 d13_26 rfl ?_
      refine Go.lor 28 d13_27 rfl ?_
      refine Go.nameJ (fun v1 e2 => ?_)
      refine Go.lstore_n 29 #[.val (.ref b), .val (.int off), .val (.long v1), .second, .val (.int (pos + (1 : Int32))), .val (.int sh), .val (.int y)] d13_28 rfl rfl ?_
      refine Go.iload 31 d13_29 rfl rfl ?_
      refine Go.sipush 34 (128) d13_31 (by decide) rfl ?_
      refine Go.iand 35 d13_34 rfl ?_
      refine Go.if_ne 47 38 d13_35 (by decide) (by decide) rfl (fun c3 => ?_) (fun c3 => ?_)
      ·
        refine Go.iinc 50 (7) #[.val (.ref b), .val (.int off), .val (.long v1), .second, .val (.int (pos + (1 : Int32))), .val (.int (sh + (7 : Int32))), .val (.int y)] d13_47 (by decide) rfl rfl rfl ?_
        refine Go.goto 8 d13_50 (by decide) (by decide) ?_
        exact (ih (XT.ushrL u 7) v1 (pos + 1) (sh + 7) (s + 7) (pre ++ [y]) (.val (.int y)) (Or.inr ⟨_, rfl, rfl⟩) hx' (by rw [hpos, own_lapp (by omega)]) (by rw [hsh]; exact own_sh7 (by omega)) (by omega) (by rw [own_shr7]; exact own_hus hu) (by rw [e2]; exact own_rmore h127 hsh (by omega) hW)).le (by decide) (by decide)
      ·
        exact absurd c3 h128

theorem ef_k_rn (m : MethodId) (x0 : Addr) (x1 : Int32) : entryFrame m #[(.ref x0), (.int x1)] 7 = mkF m 0 #[.val (.ref x0), .val (.int x1), .unset, .unset, .unset, .unset, .unset] [] := by first | (simp [entryFrame, mkF, argsToLocals, Value.category]; done) | rfl

set_option maxRecDepth 65536 in
set_option maxHeartbeats 40000000 in
theorem k_rn {l : Launch} {Z : State} {a0 : Array Value} (hw : ∀ d ∈ tables_1, d.before a0 Z = true) {xs : List Int32} {pre : List Int32} {post : List Int32} {w : Int64} (h : Heap) (hz : Z.heap.size ≤ h.size) (b : Addr) (off : Int32) (fa0 : Ari Z h b .byte xs) (hl : xs.length ≤ 60) (hx : xs = pre ++ own_var 10 w ++ post) (hoff : off = pre.length.toInt32)   : Go l Z (⟨"io/mereline/SpillEncoding", "readNumber", "([BI)J"⟩ : MethodName) prog_144_method_2_code 7 (Option.some Jvm.ClassFile.FieldType.long) ({ frames := 0, cells := 0, slots := 0, locals := 0 } : Room) (QJ fun rz h' => rz = (own_unzz w) ∧ h' = h) 0 0 h 0 #[.val (.ref b), .val (.int off), .unset, .unset, .unset, .unset, .unset] [] := by
  refine Go.lconst 1 (0) d13_0 (by decide) rfl ?_
  refine Go.lstore_n 2 #[.val (.ref b), .val (.int off), .val (.long (0 : Int64)), .second, .unset, .unset, .unset] d13_1 rfl rfl ?_
  refine Go.iload_n 3 d13_2 rfl rfl ?_
  refine Go.istore 5 #[.val (.ref b), .val (.int off), .val (.long (0 : Int64)), .second, .val (.int off), .unset, .unset] d13_3 rfl rfl ?_
  refine Go.iconst 6 (0) d13_5 (by decide) rfl ?_
  refine Go.istore 8 #[.val (.ref b), .val (.int off), .val (.long (0 : Int64)), .second, .val (.int off), .val (.int (0 : Int32)), .unset] d13_6 rfl rfl ?_
  exact (k_rl hw h b off xs post w fa0 hl 9 w 0 off 0 0 pre .unset (Or.inl rfl) hx hoff (by decide) rfl (own_hu10 w) (own_W0 w)).le (by decide) (by decide)

theorem ef_law0 (m : MethodId) (x0 : Int64) (x1 : Int64) (x2 : Int64) (x3 : Int32) : entryFrame m #[(.long x0), (.long x1), (.long x2), (.int x3)] maxLocals = mkF m 0 #[.val (.long x0), .second, .val (.long x1), .second, .val (.long x2), .second, .val (.int x3), .unset, .unset, .unset, .unset] [] := by first | (simp [entryFrame, mkF, argsToLocals, Value.category, maxLocals]; done) | rfl

set_option maxRecDepth 65536 in
set_option maxHeartbeats 40000000 in
theorem law0 {l : Launch} {Z : State} {a0 : Array Value} (hw : ∀ d ∈ tables_1, d.before a0 Z = true)  (h : Heap) (hz : Z.heap.size ≤ h.size) (i0 : Int64) (i1 : Int64) (i2 : Int64) (i3 : Int32)     : Go l Z x code maxLocals ret room_1 (QI fun z h' => z = 1) 0 0 h 0 #[.val (.long i0), .second, .val (.long i1), .second, .val (.long i2), .second, .val (.int i3), .unset, .unset, .unset, .unset] [] := by
  have l0 := own_var_len 10 (own_zz i0)
  have l1 := own_var_len 10 (own_zz i1)
  have l2 := own_var_len 10 (own_zz i2)
  refine Go.new 3 at_0 (tw0 hw) (tw1 hw) (tw2 hw) (by decide) (by decide) rfl (fun a1 h2 q3 E4 A5 D6 => ?_)
  have ge7 : Z.heap.size ≤ a1 := (Eq.symm q3) ▸ hz
  have zs8 : Z.heap.size ≤ h2.size := Nat.le_trans hz E4.1
  have f9 : Fld Z h2 a1 "io/mereline/ByteOutput" "initialCapacity" "I" (.int (0 : Int32)) := D6 (Or.inr (tw15 hw)) (ty := .int) (by decide)
  have f10 : Fld Z h2 a1 "io/mereline/ByteOutput" "bytes" "[B" (.null) := D6 (Or.inl (tw18 hw)) (ty := (.array .byte)) (by decide)
  have f11 : Fld Z h2 a1 "io/mereline/ByteOutput" "length" "I" (.int (0 : Int32)) := D6 (Or.inl (tw41 hw)) (ty := .int) (by decide)
  refine Go.dup 4 at_3 rfl rfl ?_
  refine Go.iconst 5 (1) at_4 (by decide) rfl ?_
  refine Go.iload 7 at_5 rfl rfl ?_
  refine Go.bipush 9 (15) at_7 (by decide) rfl ?_
  refine Go.iand 10 at_9 rfl ?_
  refine Go.iadd 11 at_10 rfl ?_
  refine Go.callC [.int ((1 : Int32) + (i3 &&& (15 : Int32)))] [.ref a1] 14 at_11 rfl (tw3 hw) (tw4 hw) (tw2 hw) (tw5 hw) pl1 (by decide) (lenOf pd1 rfl) rfl (fun m => ef_k_oi m a1 ((1 : Int32) + (i3 &&& (15 : Int32)))) _ (k_oi hw h2 zs8 a1 (((1 : Int32) + (i3 &&& (15 : Int32)))) A5 f10 f11 f9 (own_cap i3).1 (own_cap i3).2 ge7) 1 rfl (Nat.le_of_eq rfl) (by decide) (by decide) (by decide) (by decide) rfl ?_
  rintro h13 ⟨p17, K14, f15, f16⟩
  have zs18 : Z.heap.size ≤ h13.size := Nat.le_trans zs8 K14.1
  obtain ⟨am18, xs18, fe18, ar18, na18, ga18, ok18⟩ := p17
  refine Go.astore 16 #[.val (.long i0), .second, .val (.long i1), .second, .val (.long i2), .second, .val (.int i3), .val (.ref a1), .unset, .unset, .unset] at_14 rfl rfl rfl ?_
  refine Go.aload 18 at_16 rfl rfl rfl ?_
  refine Go.lload_n 19 at_18 rfl rfl ?_
  refine Go.callVV [.long i0] [] 22 at_19 (tw19 hw) (tw20 hw) (tw22 hw) (tw21 hw) (tw2 hw) (tw23 hw) f15 pl4 (by decide) (lenOf pd4 rfl) rfl (fun m => ef_k_wn m a1 i0) _ (k_wn (cs := []) (B := 16) hw h13 zs18 a1 i0 f15 fe18 f16 ar18 ok18 (by decide) (by simp only [List.length_append, List.length_nil]; omega) ge7 ga18 na18) 0 rfl (Nat.le_of_eq rfl) (by decide) (by decide) (by decide) (by decide) rfl ?_
  rintro h21 ⟨p25, K22, f23, f24⟩
  have zs26 : Z.heap.size ≤ h21.size := Nat.le_trans zs18 K22.1
  obtain ⟨am26, xs26, fe26, ar26, na26, ga26, ok26, px26_0⟩ := p25
  refine Go.aload 24 at_22 rfl rfl rfl ?_
  refine Go.callUIp [] [] 27 at_24 (tw61 hw) (tw62 hw) (tw63 hw) (tw65 hw) (tw64 hw) (tw9 hw) (tw66 hw) f23 pl11 (by decide) (lenOf pd11 rfl) rfl (fun m => ef_k_len m a1) _ (k_len hw h21 zs26 a1 f24) 0 rfl (Nat.le_of_eq rfl) (by decide) (by decide) (by decide) (by decide) rfl ?_
  refine Go.nameI (fun v31 e32 => ?_)
  refine Go.istore 29 #[.val (.long i0), .second, .val (.long i1), .second, .val (.long i2), .second, .val (.int i3), .val (.ref a1), .val (.int v31), .unset, .unset] at_27 rfl rfl ?_
  refine Go.aload 31 at_29 rfl rfl rfl ?_
  refine Go.lload_n 32 at_31 rfl rfl ?_
  refine Go.callVV [.long i1] [] 35 at_32 (tw19 hw) (tw20 hw) (tw22 hw) (tw21 hw) (tw2 hw) (tw23 hw) f23 pl4 (by decide) (lenOf pd4 rfl) rfl (fun m => ef_k_wn m a1 i1) _ (k_wn (cs := ([] ++ own_var 10 (own_zz i0))) (B := 24) hw h21 zs26 a1 i1 f23 fe26 f24 ar26 ok26 (by decide) (by simp only [List.length_append, List.length_nil]; omega) ge7 ga26 na26) 0 rfl (Nat.le_of_eq rfl) (by decide) (by decide) (by decide) (by decide) rfl ?_
  rintro h34 ⟨p38, K35, f36, f37⟩
  have zs39 : Z.heap.size ≤ h34.size := Nat.le_trans zs26 K35.1
  obtain ⟨am39, xs39, fe39, ar39, na39, ga39, ok39, px39_0⟩ := p38
  refine Go.aload 37 at_35 rfl rfl rfl ?_
  refine Go.callUIp [] [] 40 at_37 (tw61 hw) (tw62 hw) (tw63 hw) (tw65 hw) (tw64 hw) (tw9 hw) (tw66 hw) f36 pl11 (by decide) (lenOf pd11 rfl) rfl (fun m => ef_k_len m a1) _ (k_len hw h34 zs39 a1 f37) 0 rfl (Nat.le_of_eq rfl) (by decide) (by decide) (by decide) (by decide) rfl ?_
  refine Go.nameI (fun v44 e45 => ?_)
  refine Go.istore 42 #[.val (.long i0), .second, .val (.long i1), .second, .val (.long i2), .second, .val (.int i3), .val (.ref a1), .val (.int v31), .val (.int v44), .unset] at_40 rfl rfl ?_
  refine Go.aload 44 at_42 rfl rfl rfl ?_
  refine Go.lload 46 at_44 rfl rfl ?_
  refine Go.callVV [.long i2] [] 49 at_46 (tw19 hw) (tw20 hw) (tw22 hw) (tw21 hw) (tw2 hw) (tw23 hw) f36 pl4 (by decide) (lenOf pd4 rfl) rfl (fun m => ef_k_wn m a1 i2) _ (k_wn (cs := (([] ++ own_var 10 (own_zz i0)) ++ own_var 10 (own_zz i1))) (B := 36) hw h34 zs39 a1 i2 f36 fe39 f37 ar39 ok39 (by decide) (by simp only [List.length_append, List.length_nil]; omega) ge7 ga39 na39) 0 rfl (Nat.le_of_eq rfl) (by decide) (by decide) (by decide) (by decide) rfl ?_
  rintro h47 ⟨p51, K48, f49, f50⟩
  have zs52 : Z.heap.size ≤ h47.size := Nat.le_trans zs39 K48.1
  obtain ⟨am52, xs52, fe52, ar52, na52, ga52, ok52, px52_0⟩ := p51
  refine Go.aload 51 at_49 rfl rfl rfl ?_
  refine Go.callURp [] [] 54 at_51 (tw69 hw) (tw70 hw) (tw71 hw) (tw73 hw) (tw72 hw) (tw9 hw) (tw74 hw) f49 pl12 (by decide) (lenOf pd12 rfl) rfl (fun m => ef_k_bytes m a1) _ (k_bytes hw h47 zs52 a1 fe52) 0 rfl (Nat.le_of_eq rfl) (by decide) (by decide) (by decide) (by decide) rfl ?_
  refine Go.astore 56 #[.val (.long i0), .second, .val (.long i1), .second, .val (.long i2), .second, .val (.int i3), .val (.ref a1), .val (.int v31), .val (.int v44), .val (.ref am52)] at_54 rfl rfl rfl ?_
  refine Go.aload 58 at_56 rfl rfl rfl ?_
  refine Go.iconst 59 (0) at_58 (by decide) rfl ?_
  obtain ⟨rr, hrr⟩ := ok52.1
  refine Go.callSJp [.ref am52, .int (0 : Int32)] [] 62 at_59 (tw75 hw) (tw76 hw) (tw77 hw) (tw78 hw) pl13 (by decide) (lenOf pd13 rfl) rfl (fun m => ef_k_rn m am52 (0 : Int32)) _ (k_rn (pre := []) (post := (own_var 10 (own_zz i1) ++ (own_var 10 (own_zz i2) ++ rr))) (w := (own_zz i0)) hw h47 zs52 am52 (0 : Int32) ar52 (Nat.le_trans ok52.2.1 (by decide)) (hrr.symm.trans (by simp only [List.nil_append, List.append_assoc])) own_l0.symm) 0 rfl (Nat.le_of_eq rfl) (by decide) (by decide) (by decide) (by decide) rfl ?_
  refine Go.lload_n 63 at_62 rfl rfl ?_
  refine Go.lcmp 64 at_63 rfl ?_
  refine Go.lcmp_ne 96 67 at_64 (by decide) (by decide) rfl (fun c60 => ?_) (fun c60 => ?_)
  ·
    refine Go.iconst 97 (0) at_96 (by decide) rfl ?_
    refine Go.nreturn (t := .boolean) (z' := (0 : Int32)) at_97 rfl (by simp) (by decide) (by decide) (by decide) ?_
    exact absurd (own_unzz_zz _) c60
  ·
    refine Go.aload 69 at_67 rfl rfl rfl ?_
    refine Go.iload 71 at_69 rfl rfl ?_
    refine Go.callSJp [.ref am52, .int v31] [] 74 at_71 (tw75 hw) (tw76 hw) (tw77 hw) (tw78 hw) pl13 (by decide) (lenOf pd13 rfl) rfl (fun m => ef_k_rn m am52 v31) _ (k_rn (pre := ([] ++ own_var 10 (own_zz i0))) (post := (own_var 10 (own_zz i2) ++ rr)) (w := (own_zz i1)) hw h47 zs52 am52 v31 ar52 (Nat.le_trans ok52.2.1 (by decide)) (hrr.symm.trans (by simp only [List.nil_append, List.append_assoc])) e32) 0 rfl (Nat.le_of_eq rfl) (by decide) (by decide) (by decide) (by decide) rfl ?_
    refine Go.lload_n 75 at_74 rfl rfl ?_
    refine Go.lcmp 76 at_75 rfl ?_
    refine Go.lcmp_ne 96 79 at_76 (by decide) (by decide) rfl (fun c64 => ?_) (fun c64 => ?_)
    ·
      refine Go.iconst 97 (0) at_96 (by decide) rfl ?_
      refine Go.nreturn (t := .boolean) (z' := (0 : Int32)) at_97 rfl (by simp) (by decide) (by decide) (by decide) ?_
      exact absurd (own_unzz_zz _) c64
    ·
      refine Go.aload 81 at_79 rfl rfl rfl ?_
      refine Go.iload 83 at_81 rfl rfl ?_
      refine Go.callSJp [.ref am52, .int v44] [] 86 at_83 (tw75 hw) (tw76 hw) (tw77 hw) (tw78 hw) pl13 (by decide) (lenOf pd13 rfl) rfl (fun m => ef_k_rn m am52 v44) _ (k_rn (pre := (([] ++ own_var 10 (own_zz i0)) ++ own_var 10 (own_zz i1))) (post := rr) (w := (own_zz i2)) hw h47 zs52 am52 v44 ar52 (Nat.le_trans ok52.2.1 (by decide)) (hrr.symm.trans (by simp only [List.nil_append, List.append_assoc])) e45) 0 rfl (Nat.le_of_eq rfl) (by decide) (by decide) (by decide) (by decide) rfl ?_
      refine Go.lload 88 at_86 rfl rfl ?_
      refine Go.lcmp 89 at_88 rfl ?_
      refine Go.lcmp_ne 96 92 at_89 (by decide) (by decide) rfl (fun c68 => ?_) (fun c68 => ?_)
      ·
        refine Go.iconst 97 (0) at_96 (by decide) rfl ?_
        refine Go.nreturn (t := .boolean) (z' := (0 : Int32)) at_97 rfl (by simp) (by decide) (by decide) (by decide) ?_
        exact absurd (own_unzz_zz _) c68
      ·
        refine Go.iconst 93 (1) at_92 (by decide) rfl ?_
        refine Go.goto 97 at_93 (by decide) (by decide) ?_
        refine Go.nreturn (t := .boolean) (z' := (1 : Int32)) at_97 rfl (by simp) (by decide) (by decide) (by decide) ?_
        rfl
set_option maxRecDepth 65536 in
set_option maxHeartbeats 40000000 in
theorem comes_1 {Post : Tables → Env → Array Value → State → Outcome → State → Prop} (hpost : ∀ tb e args s v u, (limb_1_1.after args s (.returned v) u = true ∧ limb_1_2.after args s (.returned v) u = true ∧ True) → FrameEnd s (.returned v) u (Jvm.fieldLocs frame_1_writes args s ++ Jvm.arrayLocs frame_1_arrays args s ++ Jvm.staticLocs frame_1_statics s) 24 256 → Post tb e args s (.returned v) u) :
    ArmFor flags0 classFile x code maxLocals ret World_1 tables_1 room_1 Calls_1 rest_1 Pre_1 Post := by
  intro l hfl _ _ p e ha hc hk s m args below hf hA hF happ hP
  obtain ⟨hcalls, hrest, hpre⟩ := hP
  obtain ⟨-, -, -, hnamed, -, -, -, hat⟩ := (Spec.applies_iff hf).mp happ
  obtain ⟨hg, hn⟩ := and_e (Cond.before_iff.mp (show (Jvm.Cond.and given_1 narrow_1).before args s = true from hpre))
  obtain ⟨h1, g0⟩ := and_e hg
  obtain ⟨w0, w1, w2, w3, rfl⟩ : ∃ w0 w1 w2 w3 : Value, args = #[w0, w1, w2, w3] := by
    have hs : args.size = 4 := by simpa [Cond.value, given_1] using h1
    obtain ⟨L⟩ := args
    match L, hs with
    | [w0, w1, w2, w3], _ => exact ⟨w0, w1, w2, w3, rfl⟩
  have hw := fun d (hd : d ∈ tables_1) => atoms_spec (ws := Jvm.Cond.code x code maxLocals ret :: tables_1) hat d (List.mem_cons_of_mem _ hd)
  obtain ⟨b0, g1⟩ := and_e g0
  obtain ⟨i0, ei0⟩ := isL_v b0
  obtain rfl : w0 = (.long i0) := Option.some.inj ei0
  obtain ⟨b1, g2⟩ := and_e g1
  obtain ⟨i1, ei1⟩ := isL_v b1
  obtain rfl : w1 = (.long i1) := Option.some.inj ei1
  obtain ⟨b2, g3⟩ := and_e g2
  obtain ⟨i2, ei2⟩ := isL_v b2
  obtain rfl : w2 = (.long i2) := Option.some.inj ei2
  have b3 := g3
  obtain ⟨i3, ei3⟩ := is_v b3
  obtain rfl : w3 = (.int i3) := Option.some.inj ei3
  have G := law0 (l := l) hw s.heap (Nat.le_refl _) i0 i1 i2 i3
  obtain ⟨n, o, h1, h2, h3, _, L, rfl, ⟨⟨z, rfl, rfl⟩, N⟩, hq⟩ := Go.met (as' := #[.long i0, .long i1, .long i2, .int i3]) (plainFor_of_name pnx) (fun m => ef_law0 m i0 i1 i2 i3) G tables_1 p e ha hc hk s m _ below hf ((Spec.applies_iff_loose hf).mp happ).1 ⟨rfl, State.Warmed39.refl s, rfl⟩ trivial
  refine ⟨n, _, h1, h2, h3, hpost _ _ _ _ _ _ ⟨Cond.after_iff.mpr rfl, Cond.after_iff.mpr (eq_i res_at (Term.int_eval (1)) rfl), trivial⟩ ⟨hq.1, hq.2.1, (hq.2.2.sift fun y hy => Or.inr (N y hy)).mono (by decide) (by decide)⟩⟩
theorem main_1_1 : Claimed_1_1 := comes_1 fun _ _ _ _ _ _ h hF => ⟨h.1, hF⟩
theorem main_1_2 : Claimed_1_2 := comes_1 fun _ _ _ _ _ _ h hF => ⟨h.2.1, hF⟩
end Jvm.Pilot.@@N@@
namespace Jvm.Pilot.@@N@@
open Jvm Jvm.ClassFile Sem Op Lib Jvm.Free Jvm.Stand Jvm.Pilot.@@N@@.Jvm.D
/-! MADE BY PROGRAM (witnessworld.py) out of the Statement's table words and the real class files: 14 classes; the members and pool entries that the words name. The judged class is class 1, her method 1. -/
namespace start1
open Jvm.ClassFile
def u (s : String) : CpInfo := .utf8 (stringToUtf16 s)
/-- a pool by its gaps: so many unusable entries, then the entry; so many at the end -/
def gap : Nat → List CpInfo → List CpInfo
  | 0, r => r
  | n + 1, r => .unusable :: gap n r
def poolList (es : List (Nat × CpInfo)) (last : Nat) : List CpInfo := es.foldr (fun e r => gap e.1 (e.2 :: r)) (gap last [])
def pool (es : List (Nat × CpInfo)) (last : Nat) : Array CpInfo := ⟨poolList es last⟩
def fileOf (pool : Array CpInfo) (this : Nat) (attrs : Array Attribute := #[]) (ms : Array MethodInfo := #[]) (fl : Nat := 33) (sup : Nat := 0) (ifs : Array Nat := #[]) (fds : Array FieldInfo := #[]) : ClassFile where
  minorVersion := 0
  majorVersion := 65
  constantPool := pool
  accessFlags := fl
  thisClass := this
  superClass := sup
  interfaces := ifs
  fields := fds
  methods := ms
  attributes := attrs
def plain (name : String) (sup : Option ClassId) : Class where
  name := name
  kind := .ordinary
  loader := none
  accessFlags := 33
  super := sup
  interfaces := #[]
  cf := none
  fields := #[]
  methods := #[]
  instanceTypes := #[]
  staticTypes := #[]
  resolved := #[]
  callSites := []
  init := .initialized
  statics := none
  mirror := none

def pool0 : Array CpInfo := pool [(5, u "<init>"), (0, u "()V"), (1, .class_ 10), (1, u "java/lang/Object")] 113

def k0c0 : Code := { maxStack := 0, maxLocals := 1, code := object_method_1_code, exceptionTable := #[], attributes := #[] }
def k0m0 : Method := { name := "<init>", desc := "()V", sig := { parameters := [], returnType := none }, accessFlags := 1, code := some k0c0 }
/-- java/lang/Object -/
def k0 : Class := { plain "java/lang/Object" none with
  accessFlags := 33
  interfaces := #[]
  cf := some (fileOf pool0 8 #[] #[{ accessFlags := 1, nameIndex := 5, descriptorIndex := 6, attributes := #[] }] 33 0 #[] #[])
  fields := #[]
  methods := #[k0m0]
  instanceTypes := #[]
  staticTypes := #[]
  resolved := Array.replicate 124 none
  statics := none }

def pool1 : Array CpInfo := pool [(2, .class_ 4), (1, u "java/lang/Object"), (0, u "<init>"), (0, u "()V"), (0, .class_ 8), (0, u "io/mereline/SpillEncoding$Output"), (0, .methodref 7 10), (0, .nameAndType 5 11), (0, u "(I)V"), (0, .methodref 7 13), (0, .nameAndType 14 15), (0, u "writeNumber"), (0, u "(J)V"), (0, .methodref 7 17), (0, .nameAndType 18 19), (0, u "length"), (0, u "()I"), (0, .methodref 7 21), (0, .nameAndType 22 23), (0, u "bytes"), (0, u "()[B"), (0, .methodref 25 26), (0, .class_ 27), (0, .nameAndType 28 29), (0, u "io/mereline/SpillEncoding"), (0, u "readNumber"), (0, u "([BI)J"), (0, .class_ 31), (0, u "io/mereline/SpillEncodingReadNumberPinLaw"), (2, u "law"), (0, u "(JJJI)Z")] 7

def k1m0 : Method := { name := "<init>", desc := "()V", sig := { parameters := [], returnType := none }, accessFlags := 1, code := none }
def k1c1 : Code := { maxStack := 5, maxLocals := 11, code := code, exceptionTable := #[], attributes := #[] }
def k1m1 : Method := { name := "law", desc := "(JJJI)Z", sig := { parameters := [.long, .long, .long, .int], returnType := some .boolean }, accessFlags := 9, code := some k1c1 }
/-- io/mereline/SpillEncodingReadNumberPinLaw -/
def k1 : Class := { plain "io/mereline/SpillEncodingReadNumberPinLaw" (some 0) with
  accessFlags := 49
  interfaces := #[]
  cf := some (fileOf pool1 30 #[] #[{ accessFlags := 1, nameIndex := 5, descriptorIndex := 6, attributes := #[] }, { accessFlags := 9, nameIndex := 34, descriptorIndex := 35, attributes := #[] }] 49 2 #[] #[])
  fields := #[]
  methods := #[k1m0, k1m1]
  instanceTypes := #[]
  staticTypes := #[]
  resolved := Array.replicate 43 none
  statics := none }

def pool2 : Array CpInfo := pool [(3, .class_ 4), (0, u "io/mereline/ByteOutput"), (0, .methodref 6 7), (0, .class_ 8), (0, .nameAndType 9 10), (0, u "java/lang/Object"), (0, u "<init>"), (0, u "()V"), (0, .fieldref 3 12), (0, .nameAndType 13 14), (0, u "initialCapacity"), (0, u "I"), (0, .fieldref 3 16), (0, .nameAndType 17 18), (0, u "bytes"), (0, u "[B"), (0, .fieldref 3 20), (0, .nameAndType 21 14), (0, u "length"), (0, .methodref 3 23), (0, .nameAndType 24 25), (0, u "ensureRoom"), (0, u "(I)V"), (2, .methodref 3 29), (0, .nameAndType 30 31), (0, u "writeVarint"), (0, u "(J)V"), (0, .long 18446744073709551488), (1, .long 127), (1, .long 128), (3, u "INT_LE"), (0, u "Ljava/lang/invoke/VarHandle;"), (8, u "LONG_LE"), (17, u "()I"), (29, u "DIGIT_PAIRS"), (2, .methodref 102 103), (0, .class_ 104), (0, .nameAndType 105 106), (0, u "java/lang/Math"), (0, u "min"), (0, u "(II)I"), (4, .long 2147483639), (8, .integer 2147483639), (0, .methodref 102 122), (0, .nameAndType 123 124), (0, u "max"), (0, u "(JJ)J"), (0, .methodref 126 127), (0, .class_ 128), (0, .nameAndType 129 130), (0, u "java/util/Arrays"), (0, u "copyOf"), (0, u "([BI)[B"), (16, u "MAX_ARRAY"), (1, u "MOST_MOVED_AT_ONCE"), (0, u "MOST_DIGITS"), (1, u "MOST_DECIMAL_BYTES"), (5, u "()[B"), (1, u "writeZigZag")] 19

def k2c0 : Code := { maxStack := 2, maxLocals := 2, code := prog_28_method_1_code, exceptionTable := #[], attributes := #[] }
def k2m0 : Method := { name := "<init>", desc := "(I)V", sig := { parameters := [.int], returnType := none }, accessFlags := 0, code := some k2c0 }
def k2c1 : Code := { maxStack := 1, maxLocals := 1, code := prog_28_method_2_code, exceptionTable := #[], attributes := #[] }
def k2m1 : Method := { name := "length", desc := "()I", sig := { parameters := [], returnType := some .int }, accessFlags := 16, code := some k2c1 }
def k2c2 : Code := { maxStack := 1, maxLocals := 1, code := prog_28_method_4_code, exceptionTable := #[], attributes := #[] }
def k2m2 : Method := { name := "bytes", desc := "()[B", sig := { parameters := [], returnType := some (.array .byte) }, accessFlags := 16, code := some k2c2 }
def k2c3 : Code := { maxStack := 6, maxLocals := 3, code := prog_28_method_6_code, exceptionTable := #[], attributes := #[] }
def k2m3 : Method := { name := "writeZigZag", desc := "(J)V", sig := { parameters := [.long], returnType := none }, accessFlags := 16, code := some k2c3 }
def k2c4 : Code := { maxStack := 6, maxLocals := 5, code := prog_28_method_7_code, exceptionTable := #[], attributes := #[] }
def k2m4 : Method := { name := "writeVarint", desc := "(J)V", sig := { parameters := [.long], returnType := none }, accessFlags := 16, code := some k2c4 }
def k2c5 : Code := { maxStack := 6, maxLocals := 6, code := prog_28_method_21_code, exceptionTable := #[], attributes := #[] }
def k2m5 : Method := { name := "ensureRoom", desc := "(I)V", sig := { parameters := [.int], returnType := none }, accessFlags := 16, code := some k2c5 }
/-- io/mereline/ByteOutput -/
def k2 : Class := { plain "io/mereline/ByteOutput" (some 0) with
  accessFlags := 32
  interfaces := #[]
  cf := some (fileOf pool2 3 #[] #[{ accessFlags := 0, nameIndex := 9, descriptorIndex := 25, attributes := #[] }, { accessFlags := 16, nameIndex := 21, descriptorIndex := 68, attributes := #[] }, { accessFlags := 16, nameIndex := 17, descriptorIndex := 158, attributes := #[] }, { accessFlags := 16, nameIndex := 160, descriptorIndex := 31, attributes := #[] }, { accessFlags := 16, nameIndex := 30, descriptorIndex := 31, attributes := #[] }, { accessFlags := 16, nameIndex := 24, descriptorIndex := 25, attributes := #[] }] 32 6 #[] #[{ accessFlags := 26, nameIndex := 147, descriptorIndex := 14, attributes := #[] }, { accessFlags := 24, nameIndex := 149, descriptorIndex := 14, attributes := #[] }, { accessFlags := 26, nameIndex := 150, descriptorIndex := 14, attributes := #[] }, { accessFlags := 26, nameIndex := 152, descriptorIndex := 14, attributes := #[] }, { accessFlags := 26, nameIndex := 98, descriptorIndex := 18, attributes := #[] }, { accessFlags := 26, nameIndex := 40, descriptorIndex := 41, attributes := #[] }, { accessFlags := 26, nameIndex := 50, descriptorIndex := 41, attributes := #[] }, { accessFlags := 18, nameIndex := 13, descriptorIndex := 14, attributes := #[] }, { accessFlags := 2, nameIndex := 17, descriptorIndex := 18, attributes := #[] }, { accessFlags := 2, nameIndex := 21, descriptorIndex := 14, attributes := #[] }])
  fields := #[{ name := "MAX_ARRAY", type := .int, accessFlags := 26, slot := 0, constantValue := 0 }, { name := "MOST_MOVED_AT_ONCE", type := .int, accessFlags := 24, slot := 1, constantValue := 0 }, { name := "MOST_DIGITS", type := .int, accessFlags := 26, slot := 2, constantValue := 0 }, { name := "MOST_DECIMAL_BYTES", type := .int, accessFlags := 26, slot := 3, constantValue := 0 }, { name := "DIGIT_PAIRS", type := (.array .byte), accessFlags := 26, slot := 4, constantValue := 0 }, { name := "INT_LE", type := (.object "java/lang/invoke/VarHandle"), accessFlags := 26, slot := 5, constantValue := 0 }, { name := "LONG_LE", type := (.object "java/lang/invoke/VarHandle"), accessFlags := 26, slot := 6, constantValue := 0 }, { name := "initialCapacity", type := .int, accessFlags := 18, slot := 0, constantValue := 0 }, { name := "bytes", type := (.array .byte), accessFlags := 2, slot := 1, constantValue := 0 }, { name := "length", type := .int, accessFlags := 2, slot := 2, constantValue := 0 }]
  methods := #[k2m0, k2m1, k2m2, k2m3, k2m4, k2m5]
  instanceTypes := #[.int, (.array .byte), .int]
  staticTypes := #[.int, .int, .int, .int, (.array .byte), (.object "java/lang/invoke/VarHandle"), (.object "java/lang/invoke/VarHandle")]
  resolved := Array.replicate 180 none
  statics := none }

def pool3 : Array CpInfo := pool [(1, .methodref 2 3), (0, .class_ 4), (0, .nameAndType 5 6), (0, u "io/mereline/ByteOutput"), (0, u "<init>"), (0, u "(I)V"), (0, .methodref 8 9), (0, .class_ 10), (0, .nameAndType 11 12), (0, u "io/mereline/SpillEncoding$Output"), (0, u "writeZigZag"), (0, u "(J)V"), (18, u "writeNumber"), (12, .class_ 45), (0, u "io/mereline/SpillEncoding")] 2

def k3c0 : Code := { maxStack := 2, maxLocals := 2, code := prog_146_method_1_code, exceptionTable := #[], attributes := #[] }
def k3m0 : Method := { name := "<init>", desc := "(I)V", sig := { parameters := [.int], returnType := none }, accessFlags := 0, code := some k3c0 }
def k3c1 : Code := { maxStack := 3, maxLocals := 3, code := prog_146_method_2_code, exceptionTable := #[], attributes := #[] }
def k3m1 : Method := { name := "writeNumber", desc := "(J)V", sig := { parameters := [.long], returnType := none }, accessFlags := 0, code := some k3c1 }
/-- io/mereline/SpillEncoding$Output -/
def k3 : Class := { plain "io/mereline/SpillEncoding$Output" (some 2) with
  accessFlags := 48
  interfaces := #[]
  cf := some (fileOf pool3 8 #[.nestHost 44] #[{ accessFlags := 0, nameIndex := 5, descriptorIndex := 6, attributes := #[] }, { accessFlags := 0, nameIndex := 31, descriptorIndex := 12, attributes := #[] }] 48 2 #[] #[])
  fields := #[]
  methods := #[k3m0, k3m1]
  instanceTypes := #[.int, (.array .byte), .int]
  staticTypes := #[]
  resolved := Array.replicate 48 none
  statics := none }

def pool4 : Array CpInfo := pool [(1, .class_ 2), (0, u "java/lang/Math"), (1, .class_ 6), (1, u "java/lang/Object"), (0, u "<init>"), (0, u "()V"), (89, .class_ 100), (1, u "java/lang/Math$RandomNumberGeneratorHolder"), (20, u "(JJ)J"), (50, u "negativeZeroFloatBits"), (0, u "J"), (2, u "negativeZeroDoubleBits"), (21, u "max"), (2, u "min"), (43, u "$assertionsDisabled"), (0, u "Z"), (88, u "(II)I"), (2, u "twoToTheDoubleScaleDown"), (0, u "D"), (4, u "twoToTheDoubleScaleUp"), (9, u "E"), (3, u "PI"), (2, u "TAU"), (2, u "DEGREES_TO_RADIANS"), (0, u "RADIANS_TO_DEGREES")] 94

def k4m0 : Method := { name := "<init>", desc := "()V", sig := { parameters := [], returnType := none }, accessFlags := 2, code := none }
def k4c1 : Code := { maxStack := 4, maxLocals := 4, code := jdk_29_method_66_code, exceptionTable := #[], attributes := #[] }
def k4m1 : Method := { name := "max", desc := "(JJ)J", sig := { parameters := [.long, .long], returnType := some .long }, accessFlags := 9, code := some k4c1 }
def k4c2 : Code := { maxStack := 2, maxLocals := 2, code := jdk_29_method_69_code, exceptionTable := #[], attributes := #[] }
def k4m2 : Method := { name := "min", desc := "(II)I", sig := { parameters := [.int, .int], returnType := some .int }, accessFlags := 9, code := some k4c2 }
/-- java/lang/Math -/
def k4 : Class := { plain "java/lang/Math" (some 0) with
  accessFlags := 49
  interfaces := #[]
  cf := some (fileOf pool4 1 #[.nestMembers #[98]] #[{ accessFlags := 2, nameIndex := 7, descriptorIndex := 8, attributes := #[] }, { accessFlags := 9, nameIndex := 198, descriptorIndex := 121, attributes := #[] }, { accessFlags := 9, nameIndex := 201, descriptorIndex := 335, attributes := #[] }] 49 4 #[] #[{ accessFlags := 25, nameIndex := 354, descriptorIndex := 339, attributes := #[] }, { accessFlags := 25, nameIndex := 358, descriptorIndex := 339, attributes := #[] }, { accessFlags := 25, nameIndex := 361, descriptorIndex := 339, attributes := #[] }, { accessFlags := 26, nameIndex := 364, descriptorIndex := 339, attributes := #[] }, { accessFlags := 26, nameIndex := 365, descriptorIndex := 339, attributes := #[] }, { accessFlags := 26, nameIndex := 172, descriptorIndex := 173, attributes := #[] }, { accessFlags := 26, nameIndex := 176, descriptorIndex := 173, attributes := #[] }, { accessFlags := 8, nameIndex := 344, descriptorIndex := 339, attributes := #[] }, { accessFlags := 8, nameIndex := 338, descriptorIndex := 339, attributes := #[] }, { accessFlags := 4120, nameIndex := 245, descriptorIndex := 246, attributes := #[] }])
  fields := #[{ name := "E", type := .double, accessFlags := 25, slot := 0, constantValue := 0 }, { name := "PI", type := .double, accessFlags := 25, slot := 1, constantValue := 0 }, { name := "TAU", type := .double, accessFlags := 25, slot := 2, constantValue := 0 }, { name := "DEGREES_TO_RADIANS", type := .double, accessFlags := 26, slot := 3, constantValue := 0 }, { name := "RADIANS_TO_DEGREES", type := .double, accessFlags := 26, slot := 4, constantValue := 0 }, { name := "negativeZeroFloatBits", type := .long, accessFlags := 26, slot := 5, constantValue := 0 }, { name := "negativeZeroDoubleBits", type := .long, accessFlags := 26, slot := 6, constantValue := 0 }, { name := "twoToTheDoubleScaleUp", type := .double, accessFlags := 8, slot := 7, constantValue := 0 }, { name := "twoToTheDoubleScaleDown", type := .double, accessFlags := 8, slot := 8, constantValue := 0 }, { name := "$assertionsDisabled", type := .boolean, accessFlags := 4120, slot := 9, constantValue := 0 }]
  methods := #[k4m0, k4m1, k4m2]
  instanceTypes := #[]
  staticTypes := #[.double, .double, .double, .double, .double, .long, .long, .double, .double, .boolean]
  resolved := Array.replicate 460 none
  statics := none }

def pool5 : Array CpInfo := pool [(2, .class_ 4), (1, u "java/lang/Object"), (0, u "<init>"), (0, u "()V"), (7, .class_ 16), (1, u "java/util/Arrays"), (57, .class_ 76), (1, u "java/util/Arrays$NaturalOrder"), (36, .class_ 115), (1, u "java/util/Arrays$LegacyMergeSort"), (1, u "Z"), (32, .methodref 151 152), (0, .class_ 153), (0, .nameAndType 154 155), (0, u "java/lang/System"), (0, u "arraycopy"), (0, u "(Ljava/lang/Object;ILjava/lang/Object;II)V"), (146, u "copyOf"), (1, .methodref 305 306), (0, .class_ 307), (0, .nameAndType 308 309), (0, u "java/lang/Math"), (0, u "min"), (0, u "(II)I"), (65, .class_ 376), (0, u "java/util/Arrays$ArrayList"), (68, u "$assertionsDisabled"), (269, u "MIN_ARRAY_SORT_GRAN"), (0, u "I"), (2, u "INSERTIONSORT_THRESHOLD"), (149, u "([BI)[B"), (105, .class_ 976), (0, u "java/util/Arrays$ArrayItr")] 52

def k5m0 : Method := { name := "<init>", desc := "()V", sig := { parameters := [], returnType := none }, accessFlags := 2, code := none }
def k5c1 : Code := { maxStack := 6, maxLocals := 3, code := jdk_65_method_121_code, exceptionTable := #[], attributes := #[] }
def k5m1 : Method := { name := "copyOf", desc := "([BI)[B", sig := { parameters := [(.array .byte), .int], returnType := some (.array .byte) }, accessFlags := 9, code := some k5c1 }
/-- java/util/Arrays -/
def k5 : Class := { plain "java/util/Arrays" (some 0) with
  accessFlags := 49
  interfaces := #[]
  cf := some (fileOf pool5 14 #[.nestMembers #[975, 375, 113, 74]] #[{ accessFlags := 2, nameIndex := 5, descriptorIndex := 6, attributes := #[] }, { accessFlags := 9, nameIndex := 302, descriptorIndex := 869, attributes := #[] }] 49 2 #[] #[{ accessFlags := 26, nameIndex := 715, descriptorIndex := 716, attributes := #[] }, { accessFlags := 26, nameIndex := 719, descriptorIndex := 716, attributes := #[] }, { accessFlags := 4120, nameIndex := 445, descriptorIndex := 117, attributes := #[] }])
  fields := #[{ name := "MIN_ARRAY_SORT_GRAN", type := .int, accessFlags := 26, slot := 0, constantValue := 0 }, { name := "INSERTIONSORT_THRESHOLD", type := .int, accessFlags := 26, slot := 1, constantValue := 0 }, { name := "$assertionsDisabled", type := .boolean, accessFlags := 4120, slot := 2, constantValue := 0 }]
  methods := #[k5m0, k5m1]
  instanceTypes := #[]
  staticTypes := #[.int, .int, .boolean]
  resolved := Array.replicate 1029 none
  statics := none }

def pool6 : Array CpInfo := pool [(2, .class_ 4), (1, u "java/lang/Object"), (0, u "<init>"), (0, u "()V"), (1, .class_ 10), (1, u "java/lang/System"), (0, u "allowSecurityManager"), (0, u "I"), (16, u "cons"), (0, u "Ljava/io/Console;"), (77, .class_ 110), (1, u "java/lang/System$CallersHolder"), (43, u "initialErrStream"), (0, u "Ljava/io/PrintStream;"), (19, u "security"), (0, u "Ljava/lang/SecurityManager;"), (31, .class_ 209), (0, u "java/lang/System$1"), (7, u "props"), (0, u "Ljava/util/Properties;"), (2, u "lineSeparator"), (0, u "Ljava/lang/String;"), (96, .class_ 321), (1, u "java/lang/System$LoggerFinder"), (5, .class_ 328), (0, u "java/lang/System$Logger"), (67, u "err"), (2, u "out"), (91, u "notSupportedJnuEncoding"), (15, u "in"), (17, u "initialIn"), (0, u "Ljava/io/InputStream;"), (35, u "bootLayer"), (0, u "Ljava/lang/ModuleLayer;"), (99, .class_ 664), (0, u "java/lang/System$2"), (9, u "NEVER"), (2, u "MAYBE"), (49, u "arraycopy"), (0, u "(Ljava/lang/Object;ILjava/lang/Object;II)V"), (72, .class_ 802), (0, u "java/lang/System$Logger$Level")] 31

def k6m0 : Method := { name := "<init>", desc := "()V", sig := { parameters := [], returnType := none }, accessFlags := 2, code := none }
def k6m1 : Method := { name := "arraycopy", desc := "(Ljava/lang/Object;ILjava/lang/Object;II)V", sig := { parameters := [(.object "java/lang/Object"), .int, (.object "java/lang/Object"), .int, .int], returnType := none }, accessFlags := 265, code := none }
/-- java/lang/System -/
def k6 : Class := { plain "java/lang/System" (some 0) with
  accessFlags := 49
  interfaces := #[]
  cf := some (fileOf pool6 8 #[.nestMembers #[319, 327, 801, 108, 663, 208]] #[{ accessFlags := 2, nameIndex := 5, descriptorIndex := 6, attributes := #[] }, { accessFlags := 265, nameIndex := 727, descriptorIndex := 728, attributes := #[] }] 49 2 #[] #[{ accessFlags := 25, nameIndex := 507, descriptorIndex := 526, attributes := #[] }, { accessFlags := 25, nameIndex := 399, descriptorIndex := 155, attributes := #[] }, { accessFlags := 25, nameIndex := 396, descriptorIndex := 155, attributes := #[] }, { accessFlags := 10, nameIndex := 525, descriptorIndex := 526, attributes := #[] }, { accessFlags := 26, nameIndex := 674, descriptorIndex := 12, attributes := #[] }, { accessFlags := 26, nameIndex := 677, descriptorIndex := 12, attributes := #[] }, { accessFlags := 10, nameIndex := 11, descriptorIndex := 12, attributes := #[] }, { accessFlags := 74, nameIndex := 175, descriptorIndex := 176, attributes := #[] }, { accessFlags := 10, nameIndex := 491, descriptorIndex := 222, attributes := #[] }, { accessFlags := 74, nameIndex := 29, descriptorIndex := 30, attributes := #[] }, { accessFlags := 74, nameIndex := 154, descriptorIndex := 155, attributes := #[] }, { accessFlags := 10, nameIndex := 217, descriptorIndex := 218, attributes := #[] }, { accessFlags := 10, nameIndex := 221, descriptorIndex := 222, attributes := #[] }, { accessFlags := 8, nameIndex := 562, descriptorIndex := 563, attributes := #[] }])
  fields := #[{ name := "in", type := (.object "java/io/InputStream"), accessFlags := 25, slot := 0, constantValue := 0 }, { name := "out", type := (.object "java/io/PrintStream"), accessFlags := 25, slot := 1, constantValue := 0 }, { name := "err", type := (.object "java/io/PrintStream"), accessFlags := 25, slot := 2, constantValue := 0 }, { name := "initialIn", type := (.object "java/io/InputStream"), accessFlags := 10, slot := 3, constantValue := 0 }, { name := "NEVER", type := .int, accessFlags := 26, slot := 4, constantValue := 0 }, { name := "MAYBE", type := .int, accessFlags := 26, slot := 5, constantValue := 0 }, { name := "allowSecurityManager", type := .int, accessFlags := 10, slot := 6, constantValue := 0 }, { name := "security", type := (.object "java/lang/SecurityManager"), accessFlags := 74, slot := 7, constantValue := 0 }, { name := "notSupportedJnuEncoding", type := (.object "java/lang/String"), accessFlags := 10, slot := 8, constantValue := 0 }, { name := "cons", type := (.object "java/io/Console"), accessFlags := 74, slot := 9, constantValue := 0 }, { name := "initialErrStream", type := (.object "java/io/PrintStream"), accessFlags := 74, slot := 10, constantValue := 0 }, { name := "props", type := (.object "java/util/Properties"), accessFlags := 10, slot := 11, constantValue := 0 }, { name := "lineSeparator", type := (.object "java/lang/String"), accessFlags := 10, slot := 12, constantValue := 0 }, { name := "bootLayer", type := (.object "java/lang/ModuleLayer"), accessFlags := 8, slot := 13, constantValue := 0 }]
  methods := #[k6m0, k6m1]
  instanceTypes := #[]
  staticTypes := #[(.object "java/io/InputStream"), (.object "java/io/PrintStream"), (.object "java/io/PrintStream"), (.object "java/io/InputStream"), .int, .int, .int, (.object "java/lang/SecurityManager"), (.object "java/lang/String"), (.object "java/io/Console"), (.object "java/io/PrintStream"), (.object "java/util/Properties"), (.object "java/lang/String"), (.object "java/lang/ModuleLayer")]
  resolved := Array.replicate 834 none
  statics := none }

def pool7 : Array CpInfo := pool [(2, .class_ 4), (1, u "java/lang/Object"), (0, u "<init>"), (0, u "()V"), (12, .class_ 20), (0, u "io/mereline/SpillEncoding"), (0, u "BUFFER_SIZE"), (0, u "I"), (4, u "readNumber"), (0, u "([BI)J"), (5, .class_ 35), (0, u "io/mereline/SpillEncoding$Input"), (0, .class_ 37), (0, u "io/mereline/SpillEncoding$Output")] 3

def k7m0 : Method := { name := "<init>", desc := "()V", sig := { parameters := [], returnType := none }, accessFlags := 2, code := none }
def k7c1 : Code := { maxStack := 6, maxLocals := 7, code := prog_144_method_2_code, exceptionTable := #[], attributes := #[] }
def k7m1 : Method := { name := "readNumber", desc := "([BI)J", sig := { parameters := [(.array .byte), .int], returnType := some .long }, accessFlags := 8, code := some k7c1 }
/-- io/mereline/SpillEncoding -/
def k7 : Class := { plain "io/mereline/SpillEncoding" (some 0) with
  accessFlags := 48
  interfaces := #[]
  cf := some (fileOf pool7 19 #[.nestMembers #[34, 36]] #[{ accessFlags := 2, nameIndex := 5, descriptorIndex := 6, attributes := #[] }, { accessFlags := 8, nameIndex := 27, descriptorIndex := 28, attributes := #[] }] 48 2 #[] #[{ accessFlags := 24, nameIndex := 21, descriptorIndex := 22, attributes := #[] }])
  fields := #[{ name := "BUFFER_SIZE", type := .int, accessFlags := 24, slot := 0, constantValue := 0 }]
  methods := #[k7m0, k7m1]
  instanceTypes := #[]
  staticTypes := #[.int]
  resolved := Array.replicate 41 none
  statics := none }

def pool8 : Array CpInfo := pool [(1, u "java/lang/Cloneable"), (0, .class_ 1), (0, u "java/lang/Object"), (0, .class_ 3)] 3

/-- java/lang/Cloneable -/
def k8 : Class := { plain "java/lang/Cloneable" (some 0) with
  accessFlags := 1537
  interfaces := #[]
  cf := some (fileOf pool8 2 #[] #[] 1537 4 #[] #[])
  fields := #[]
  methods := #[]
  instanceTypes := #[]
  staticTypes := #[]
  resolved := Array.replicate 8 none
  statics := none }

def pool9 : Array CpInfo := pool [(1, u "java/io/Serializable"), (0, .class_ 1), (0, u "java/lang/Object"), (0, .class_ 3)] 3

/-- java/io/Serializable -/
def k9 : Class := { plain "java/io/Serializable" (some 0) with
  accessFlags := 1537
  interfaces := #[]
  cf := some (fileOf pool9 2 #[] #[] 1537 4 #[] #[])
  fields := #[]
  methods := #[]
  instanceTypes := #[]
  staticTypes := #[]
  resolved := Array.replicate 8 none
  statics := none }

/-- the primitive byte -/
def k10 : Class := { plain "byte" none with kind := .primitive 'B', accessFlags := 0x411 }
/-- [B -/
def k11 : Class := { plain "[B" (some 0) with kind := .array 10 .byte, interfaces := #[8, 9], accessFlags := 1041 }

/-- the primitive int -/
def k12 : Class := { plain "int" none with kind := .primitive 'I', accessFlags := 0x411 }
/-- [I -/
def k13 : Class := { plain "[I" (some 0) with kind := .array 12 .int, interfaces := #[8, 9], accessFlags := 1041 }

def heap : Heap := #[]
def classes : Array Class := #[k0, k1, k2, k3, k4, k5, k6, k7, k8, k9, k10, k11, k12, k13]
def interned : List (Array UInt16 × Addr) := []
def slotsUsed : Nat := 0
def theMethod : MethodId := ⟨1, 1⟩
def args0 : Array Value := #[.long 5, .long (-300), .long 77, .int 3]
def aboutOver (below : List Frame) : State where
  vm := { classes := classes, interned := interned.toArray }
  heap := heap
  slotsUsed := slotsUsed
  threads := #[{ frames := .invoking theMethod args0 :: below }]
def below0 : List Frame := [.native { method := ⟨0, 0⟩, args := #[] }]
def about1 : State := aboutOver below0
def p0 : Program := .bare "" "" ""
def e0 : Env := launch0.env 0 0 0
theorem w_frames : about1.frames = Frame.invoking theMethod args0 :: below0 := rfl
set_option maxRecDepth 65536 in
theorem w_args : argsFit about1.vm theMethod args0 = true := by decide +kernel
set_option maxRecDepth 65536 in
theorem w_heap : heapFits about1 = true := by decide +kernel
set_option maxRecDepth 65536 in
theorem w_runnable : about1.curStatus? = some .runnable := by decide +kernel
set_option maxRecDepth 65536 in
theorem w_alone : about1.alone = true := by decide +kernel
set_option maxRecDepth 65536 in
theorem w_named : about1.methodNamed? x = some theMethod := by decide +kernel
set_option maxRecDepth 65536 in
theorem w_hears : about1.hears theMethod below0 = true := by decide +kernel
set_option maxRecDepth 65536 in
theorem w_ripe : about1.ripe theMethod args0 below0 = true := by decide +kernel
theorem w_running : about1.status = .running := rfl
set_option maxRecDepth 65536 in
theorem w_room : about1.hasRoom e0.platform room_1 = true :=
  launch0.hasRoom_least _ room_1 (by decide +kernel) (by decide +kernel) (by decide +kernel) (by decide +kernel) (by decide +kernel) (by decide +kernel)
theorem allAtoms_all (ts : List Jvm.Cond) (a : Array Jvm.Value) (st : Jvm.State) : (allAtoms ts).before a st = ts.all (fun c => c.before a st) := by
  induction ts with
  | nil => rfl
  | cons c t ih =>
    show (Jvm.Cond.and c (allAtoms t)).before a st = _
    rw [Jvm.Cond.before_and, ih, List.all_cons]
def words1 : List Jvm.Cond := Jvm.Cond.code x code maxLocals ret :: tables_1
/-- a 'code' word, met by the world's own term for the bytes: nothing is compared byte by byte -/
theorem code_word {y : MethodName} {bytes : ByteArray} {mx : Nat} {rt : Option FieldType} {a : Array Value} {s : State} {m : MethodId} {meth : Method} {c : Code} (h1 : s.methodNamed? y = some m) (h2 : s.vm.method? m = some meth) (h3 : meth.code = some c) (h4 : c.code = bytes)
    (h5 : (c.maxLocals == mx && c.exceptionTable.isEmpty && decide (c.maxStack ≤ mostOperands) && decide (meth.sig.returnType = rt) && !meth.locks && decide (parseMethodDescriptor y.desc = some meth.sig)) = true) : (Jvm.Cond.code y bytes mx rt).before a s = true := by
  simp only [Bool.and_eq_true, beq_iff_eq, Bool.not_eq_true', decide_eq_true_eq] at h5
  obtain ⟨⟨⟨⟨⟨g1, g2⟩, g3⟩, g4⟩, g5⟩, g6⟩ := h5
  simp [Cond.before, Cond.holds, Cond.value, h1, h2, h3, h4, g1, g2, g3, g4, g5, g6]
def isCode : Jvm.Cond → Bool
  | .code _ _ _ _ => true
  | _ => false
theorem all_split {L : List Jvm.Cond} {P : Jvm.Cond → Bool} (h1 : L.all (fun c => isCode c || P c) = true) (h2 : ∀ c ∈ L.filter isCode, P c = true) : L.all P = true := by
  refine List.all_eq_true.mpr fun c hc => ?_
  have h := List.all_eq_true.mp h1 c hc
  rcases Bool.eq_false_or_eq_true (isCode c) with hi | hi
  · exact h2 c (List.mem_filter.mpr ⟨hc, hi⟩)
  · simpa [hi] using h
set_option maxRecDepth 65536 in
theorem w_c0 : (Jvm.Cond.code x code maxLocals ret).before args0 about1 = true := code_word (m := ⟨1, 1⟩) (meth := k1m1) (c := k1c1) (by decide +kernel) rfl rfl rfl (by decide +kernel)
set_option maxRecDepth 65536 in
theorem w_c1 : (Jvm.Cond.code ({ cls := "io/mereline/SpillEncoding$Output", name := "<init>", desc := "(I)V" } : Jvm.MethodName) prog_146_method_1_code (2 : Nat) (Option.none : Option Jvm.ClassFile.FieldType)).before args0 about1 = true := code_word (m := ⟨3, 0⟩) (meth := k3m0) (c := k3c0) (by decide +kernel) rfl rfl rfl (by decide +kernel)
set_option maxRecDepth 65536 in
theorem w_c2 : (Jvm.Cond.code ({ cls := "io/mereline/ByteOutput", name := "<init>", desc := "(I)V" } : Jvm.MethodName) prog_28_method_1_code (2 : Nat) (Option.none : Option Jvm.ClassFile.FieldType)).before args0 about1 = true := code_word (m := ⟨2, 0⟩) (meth := k2m0) (c := k2c0) (by decide +kernel) rfl rfl rfl (by decide +kernel)
set_option maxRecDepth 65536 in
theorem w_c3 : (Jvm.Cond.code ({ cls := "java/lang/Object", name := "<init>", desc := "()V" } : Jvm.MethodName) object_method_1_code (1 : Nat) (Option.none : Option Jvm.ClassFile.FieldType)).before args0 about1 = true := code_word (m := ⟨0, 0⟩) (meth := k0m0) (c := k0c0) (by decide +kernel) rfl rfl rfl (by decide +kernel)
set_option maxRecDepth 65536 in
theorem w_c4 : (Jvm.Cond.code ({ cls := "io/mereline/SpillEncoding$Output", name := "writeNumber", desc := "(J)V" } : Jvm.MethodName) prog_146_method_2_code (3 : Nat) (Option.none : Option Jvm.ClassFile.FieldType)).before args0 about1 = true := code_word (m := ⟨3, 1⟩) (meth := k3m1) (c := k3c1) (by decide +kernel) rfl rfl rfl (by decide +kernel)
set_option maxRecDepth 65536 in
theorem w_c5 : (Jvm.Cond.code ({ cls := "io/mereline/ByteOutput", name := "writeZigZag", desc := "(J)V" } : Jvm.MethodName) prog_28_method_6_code (3 : Nat) (Option.none : Option Jvm.ClassFile.FieldType)).before args0 about1 = true := code_word (m := ⟨2, 3⟩) (meth := k2m3) (c := k2c3) (by decide +kernel) rfl rfl rfl (by decide +kernel)
set_option maxRecDepth 65536 in
theorem w_c6 : (Jvm.Cond.code ({ cls := "io/mereline/ByteOutput", name := "writeVarint", desc := "(J)V" } : Jvm.MethodName) prog_28_method_7_code (5 : Nat) (Option.none : Option Jvm.ClassFile.FieldType)).before args0 about1 = true := code_word (m := ⟨2, 4⟩) (meth := k2m4) (c := k2c4) (by decide +kernel) rfl rfl rfl (by decide +kernel)
set_option maxRecDepth 65536 in
theorem w_c7 : (Jvm.Cond.code ({ cls := "io/mereline/ByteOutput", name := "ensureRoom", desc := "(I)V" } : Jvm.MethodName) prog_28_method_21_code (6 : Nat) (Option.none : Option Jvm.ClassFile.FieldType)).before args0 about1 = true := code_word (m := ⟨2, 5⟩) (meth := k2m5) (c := k2c5) (by decide +kernel) rfl rfl rfl (by decide +kernel)
set_option maxRecDepth 65536 in
theorem w_c8 : (Jvm.Cond.code ({ cls := "java/lang/Math", name := "min", desc := "(II)I" } : Jvm.MethodName) jdk_29_method_69_code (2 : Nat) (Option.some Jvm.ClassFile.FieldType.int)).before args0 about1 = true := code_word (m := ⟨4, 2⟩) (meth := k4m2) (c := k4c2) (by decide +kernel) rfl rfl rfl (by decide +kernel)
set_option maxRecDepth 65536 in
theorem w_c9 : (Jvm.Cond.code ({ cls := "java/lang/Math", name := "max", desc := "(JJ)J" } : Jvm.MethodName) jdk_29_method_66_code (4 : Nat) (Option.some Jvm.ClassFile.FieldType.long)).before args0 about1 = true := code_word (m := ⟨4, 1⟩) (meth := k4m1) (c := k4c1) (by decide +kernel) rfl rfl rfl (by decide +kernel)
set_option maxRecDepth 65536 in
theorem w_c10 : (Jvm.Cond.code ({ cls := "java/util/Arrays", name := "copyOf", desc := "([BI)[B" } : Jvm.MethodName) jdk_65_method_121_code (3 : Nat) (Option.some (Jvm.ClassFile.FieldType.array Jvm.ClassFile.FieldType.byte))).before args0 about1 = true := code_word (m := ⟨5, 1⟩) (meth := k5m1) (c := k5c1) (by decide +kernel) rfl rfl rfl (by decide +kernel)
set_option maxRecDepth 65536 in
theorem w_c11 : (Jvm.Cond.code ({ cls := "io/mereline/ByteOutput", name := "length", desc := "()I" } : Jvm.MethodName) prog_28_method_2_code (1 : Nat) (Option.some Jvm.ClassFile.FieldType.int)).before args0 about1 = true := code_word (m := ⟨2, 1⟩) (meth := k2m1) (c := k2c1) (by decide +kernel) rfl rfl rfl (by decide +kernel)
set_option maxRecDepth 65536 in
theorem w_c12 : (Jvm.Cond.code ({ cls := "io/mereline/ByteOutput", name := "bytes", desc := "()[B" } : Jvm.MethodName) prog_28_method_4_code (1 : Nat) (Option.some (Jvm.ClassFile.FieldType.array Jvm.ClassFile.FieldType.byte))).before args0 about1 = true := code_word (m := ⟨2, 2⟩) (meth := k2m2) (c := k2c2) (by decide +kernel) rfl rfl rfl (by decide +kernel)
set_option maxRecDepth 65536 in
theorem w_c13 : (Jvm.Cond.code ({ cls := "io/mereline/SpillEncoding", name := "readNumber", desc := "([BI)J" } : Jvm.MethodName) prog_144_method_2_code (7 : Nat) (Option.some Jvm.ClassFile.FieldType.long)).before args0 about1 = true := code_word (m := ⟨7, 1⟩) (meth := k7m1) (c := k7c1) (by decide +kernel) rfl rfl rfl (by decide +kernel)
def codes1 : List Jvm.Cond := [Jvm.Cond.code x code maxLocals ret, Jvm.Cond.code ({ cls := "io/mereline/SpillEncoding$Output", name := "<init>", desc := "(I)V" } : Jvm.MethodName) prog_146_method_1_code (2 : Nat) (Option.none : Option Jvm.ClassFile.FieldType), Jvm.Cond.code ({ cls := "io/mereline/ByteOutput", name := "<init>", desc := "(I)V" } : Jvm.MethodName) prog_28_method_1_code (2 : Nat) (Option.none : Option Jvm.ClassFile.FieldType), Jvm.Cond.code ({ cls := "java/lang/Object", name := "<init>", desc := "()V" } : Jvm.MethodName) object_method_1_code (1 : Nat) (Option.none : Option Jvm.ClassFile.FieldType), Jvm.Cond.code ({ cls := "io/mereline/SpillEncoding$Output", name := "writeNumber", desc := "(J)V" } : Jvm.MethodName) prog_146_method_2_code (3 : Nat) (Option.none : Option Jvm.ClassFile.FieldType), Jvm.Cond.code ({ cls := "io/mereline/ByteOutput", name := "writeZigZag", desc := "(J)V" } : Jvm.MethodName) prog_28_method_6_code (3 : Nat) (Option.none : Option Jvm.ClassFile.FieldType), Jvm.Cond.code ({ cls := "io/mereline/ByteOutput", name := "writeVarint", desc := "(J)V" } : Jvm.MethodName) prog_28_method_7_code (5 : Nat) (Option.none : Option Jvm.ClassFile.FieldType), Jvm.Cond.code ({ cls := "io/mereline/ByteOutput", name := "ensureRoom", desc := "(I)V" } : Jvm.MethodName) prog_28_method_21_code (6 : Nat) (Option.none : Option Jvm.ClassFile.FieldType), Jvm.Cond.code ({ cls := "java/lang/Math", name := "min", desc := "(II)I" } : Jvm.MethodName) jdk_29_method_69_code (2 : Nat) (Option.some Jvm.ClassFile.FieldType.int), Jvm.Cond.code ({ cls := "java/lang/Math", name := "max", desc := "(JJ)J" } : Jvm.MethodName) jdk_29_method_66_code (4 : Nat) (Option.some Jvm.ClassFile.FieldType.long), Jvm.Cond.code ({ cls := "java/util/Arrays", name := "copyOf", desc := "([BI)[B" } : Jvm.MethodName) jdk_65_method_121_code (3 : Nat) (Option.some (Jvm.ClassFile.FieldType.array Jvm.ClassFile.FieldType.byte)), Jvm.Cond.code ({ cls := "io/mereline/ByteOutput", name := "length", desc := "()I" } : Jvm.MethodName) prog_28_method_2_code (1 : Nat) (Option.some Jvm.ClassFile.FieldType.int), Jvm.Cond.code ({ cls := "io/mereline/ByteOutput", name := "bytes", desc := "()[B" } : Jvm.MethodName) prog_28_method_4_code (1 : Nat) (Option.some (Jvm.ClassFile.FieldType.array Jvm.ClassFile.FieldType.byte)), Jvm.Cond.code ({ cls := "io/mereline/SpillEncoding", name := "readNumber", desc := "([BI)J" } : Jvm.MethodName) prog_144_method_2_code (7 : Nat) (Option.some Jvm.ClassFile.FieldType.long)]
set_option maxRecDepth 65536 in
theorem codes_eq : words1.filter isCode = codes1 := rfl
theorem w_codes : ∀ c ∈ words1.filter isCode, c.before args0 about1 = true := by
  rw [codes_eq]
  intro c hc
  simp only [codes1, List.mem_cons, List.not_mem_nil, or_false] at hc
  rcases hc with rfl | rfl | rfl | rfl | rfl | rfl | rfl | rfl | rfl | rfl | rfl | rfl | rfl | rfl
  · exact w_c0
  · exact w_c1
  · exact w_c2
  · exact w_c3
  · exact w_c4
  · exact w_c5
  · exact w_c6
  · exact w_c7
  · exact w_c8
  · exact w_c9
  · exact w_c10
  · exact w_c11
  · exact w_c12
  · exact w_c13
set_option maxRecDepth 65536 in
theorem w_t1 : (words1.take 24).all (fun c => isCode c || c.before args0 about1) = true := by decide +kernel
set_option maxRecDepth 65536 in
theorem w_t2 : ((words1.drop 24).take 24).all (fun c => isCode c || c.before args0 about1) = true := by decide +kernel
set_option maxRecDepth 65536 in
theorem w_t3 : (((words1.drop 24).drop 24).take 24).all (fun c => isCode c || c.before args0 about1) = true := by decide +kernel
set_option maxRecDepth 65536 in
theorem w_t4 : (((words1.drop 24).drop 24).drop 24).all (fun c => isCode c || c.before args0 about1) = true := by decide +kernel
theorem w_tables : (allAtoms (Jvm.Cond.code x code maxLocals ret :: tables_1)).before args0 about1 = true := by
  rw [allAtoms_all]
  show words1.all (fun c => c.before args0 about1) = true
  refine all_split ?_ w_codes
  rw [← List.take_append_drop 24 words1, List.all_append, w_t1, ← List.take_append_drop 24 (words1.drop 24), List.all_append, w_t2, ← List.take_append_drop 24 ((words1.drop 24).drop 24), List.all_append, w_t3, w_t4]
  rfl
set_option maxRecDepth 65536 in
theorem w_case : (Jvm.Cond.and given_1 narrow_1).before args0 about1 = true := by decide +kernel
theorem w_applies : (headSpec (Jvm.Cond.code x code maxLocals ret :: tables_1) room_1).applies x e0.platform about1 = true :=
  (Spec.applies_iff w_frames).mpr ⟨w_running, w_runnable, w_alone, w_named, w_hears, w_ripe, w_room, w_tables⟩
theorem atStart : AtStart classFile x code maxLocals ret World_1 tables_1 room_1 Calls_1 rest_1 Pre_1 launch0 p0 e0 about1 theMethod args0 below0 :=
  ⟨lists_1, trivial, launch0.admits_env _ _ _, launch0.least_env, fairChoices_fair.cas, fairChoices_fair.clock, w_frames, w_args, w_heap, w_applies, trivial, trivial, w_case⟩
end start1
theorem witness_1 : WitnessClaimed_1 := ⟨start1.p0, start1.e0, start1.about1, start1.theMethod, start1.args0, start1.below0, start1.atStart⟩
end Jvm.Pilot.@@N@@
