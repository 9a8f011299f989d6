import JvmDerived
import JvmDerived.Pilot.@@N@@Statement
import JvmDerived.Pilot.@@N@@Code
set_option linter.unusedVariables false
set_option linter.unusedSimpArgs false

namespace Jvm.OwnGo
open Sem ClassFile Op Lib Jvm.Stand Jvm.Free Jvm.LawKit Jvm.RoadKit
/-- what is known of a body while it is walked -/
def Cx (Z : State) (y : MethodName) (code : ByteArray) (ml : Nat) (ret : Option FieldType) (p : Program) (s : State) (m : MethodId) (meth : Method) (c : Code) : Prop :=
  p.tables.exec = Jvm.exec ∧ c.code = code ∧ Z.Warmed39 s.vm ∧ s.vm.findClass y.cls = some m.cls ∧ c.maxLocals = ml ∧ meth.sig.returnType = ret ∧ meth.locks = false ∧ meth.name = y.name
/-- the start that the last Stand is over: the start itself, or (w) the start with tables that have interned -/
def OkW (w : Bool) (s s' T' : State) : Prop := s' = s ∨ (w = true ∧ ∃ (vm : Vm) (k1 : Nat), s' = s.setVm vm ∧ s.Since vm k1 ∧ k1 ≤ T'.heap.size)
/-- from the frame (pc, Ls, st) over the heap h, with at most k cells and n slots made so far, the body of y returns with Q -/
def GoB (w : Bool) (l : Launch) (Z : State) (y : MethodName) (code : ByteArray) (ml : Nat) (ret : Option FieldType) (R : Room) (Q : Option Value → Heap → Prop) (k n : Nat) (h : Heap) (pc : Nat) (Ls : Array Slot) (st : List Value) : Prop :=
  ∀ (p : Program) (e : Env) (s : State) (m : MethodId) (args : Array Value) (below : List Frame) (meth : Method) (c : Code), Cx Z y code ml ret p s m meth c →
  ∀ (T : State) (L : List Loc) (k' n' : Nat), Stand p l e R s m args below meth c T L k' n' → k' ≤ k → n' ≤ n → Fr Z.heap.size L → T.heap = h →
  ∃ (s' : State) (v : Option Value) (T' : State) (L' : List Loc) (k'' n'' : Nat), OkW w s s' T' ∧ Stand p l e R s' m args below meth c T' L' k'' n'' ∧ k'' ≤ R.cells ∧ n'' ≤ R.slots ∧ Fr Z.heap.size L' ∧ Q v T'.heap ∧ (ret = none → v = none) ∧
    ∀ fs, (∀ (f : JFrame) (acts : List Action), f.method = m → f.locked = none → f.entered = [] → (doReturn e (T'.setTop f) acts v).1 = T'.setFrames fs) → Steps p.tables e below (T.setTop (mkF m pc Ls st)) (T'.setFrames fs)
abbrev Go (l : Launch) (Z : State) (y : MethodName) (code : ByteArray) (ml : Nat) (ret : Option FieldType) (R : Room) (Q : Option Value → Heap → Prop) (k n : Nat) (h : Heap) (pc : Nat) (Ls : Array Slot) (st : List Value) : Prop := GoB false l Z y code ml ret R Q k n h pc Ls st
/-- the shapes of an answer -/
def QI (P : Int32 → Heap → Prop) (v : Option Value) (h : Heap) : Prop := ∃ z : Int32, v = some (.int z) ∧ P z h
def QJ (P : Int64 → Heap → Prop) (v : Option Value) (h : Heap) : Prop := ∃ z : Int64, v = some (.long z) ∧ P z h
def QR (P : Value → Heap → Prop) (v : Option Value) (h : Heap) : Prop := ∃ z : Value, v = some z ∧ P z h
def QV (P : Heap → Prop) (v : Option Value) (h : Heap) : Prop := v = none ∧ P h
section Laws
variable {wf : Bool} {l : Launch} {Z : State} {y : MethodName} {code : ByteArray} {ml : Nat} {ret : Option FieldType} {R : Room} {Q : Option Value → Heap → Prop} {k n : Nat} {h : Heap} {pc : Nat} {Ls : Array Slot} {st : List Value} {a0 : Array Value}
theorem GoB.pure {pc' : Nat} {Ls' : Array Slot} {st' : List Value} (g : GoB wf l Z y code ml ret R Q k n h pc' Ls' st')
    (f : ∀ (p : Program) (e : Env) (s : State) (m : MethodId) (args : Array Value) (below : List Frame) (meth : Method) (c : Code), Cx Z y code ml ret p s m meth c → ∀ (T : State) (L : List Loc) (k' n' : Nat), Stand p l e R s m args below meth c T L k' n' → T.heap = h → ∀ target, Steps p.tables e below (T.setTop (mkF m pc' Ls' st')) target → Steps p.tables e below (T.setTop (mkF m pc Ls st)) target) :
    GoB wf l Z y code ml ret R Q k n h pc Ls st := by
  intro p e s m args below meth c K T L k' n' X h1 h2 N hT
  obtain ⟨s', v, T', L', k'', n'', ok', X', b1, b2, N', q, hv, stp⟩ := g p e s m args below meth c K T L k' n' X h1 h2 N hT
  exact ⟨s', v, T', L', k'', n'', ok', X', b1, b2, N', q, hv, fun fs hl => f p e s m args below meth c K T L k' n' X hT _ (stp fs hl)⟩
/-- a step that moves the state: by a law that hands out the new Stand -/
theorem GoB.move {pc' : Nat} {Ls' : Array Slot} {st' : List Value} {kk nn : Nat} {P : Heap → Prop} (g : ∀ h', P h' → GoB wf l Z y code ml ret R Q kk nn h' pc' Ls' st')
    (f : ∀ (p : Program) (e : Env) (s : State) (m : MethodId) (args : Array Value) (below : List Frame) (meth : Method) (c : Code), Cx Z y code ml ret p s m meth c → ∀ (T : State) (L : List Loc) (k' n' : Nat), Stand p l e R s m args below meth c T L k' n' → k' ≤ k → n' ≤ n → Fr Z.heap.size L → T.heap = h →
      ∃ (T' : State) (L' : List Loc) (k'' n'' : Nat), Stand p l e R s m args below meth c T' L' k'' n'' ∧ k'' ≤ kk ∧ n'' ≤ nn ∧ Fr Z.heap.size L' ∧ P T'.heap ∧ ∀ target, Steps p.tables e below (T'.setTop (mkF m pc' Ls' st')) target → Steps p.tables e below (T.setTop (mkF m pc Ls st)) target) :
    GoB wf l Z y code ml ret R Q k n h pc Ls st := by
  intro p e s m args below meth c K T L k' n' X h1 h2 N hT
  obtain ⟨T1, L1, k1, n1, X1, c1, c2, N1, p1, s1⟩ := f p e s m args below meth c K T L k' n' X h1 h2 N hT
  obtain ⟨s', v, T', L', k'', n'', ok', X', b1, b2, N', q, hv, stp⟩ := g _ p1 p e s m args below meth c K T1 L1 k1 n1 X1 c1 c2 N1 rfl
  exact ⟨s', v, T', L', k'', n'', ok', X', b1, b2, N', q, hv, fun fs hl => s1 _ (stp fs hl)⟩
theorem GoB.le {k₀ n₀ : Nat} (g : GoB wf l Z y code ml ret R Q k n h pc Ls st) (hk : k₀ ≤ k) (hn : n₀ ≤ n) : GoB wf l Z y code ml ret R Q k₀ n₀ h pc Ls st :=
  fun p e s m args below meth c K T L k' n' X h1 h2 N hT => g p e s m args below meth c K T L k' n' X (Nat.le_trans h1 hk) (Nat.le_trans h2 hn) N hT
theorem GoB.mono {Q' : Option Value → Heap → Prop} (g : GoB wf l Z y code ml ret R Q k n h pc Ls st) (hq : ∀ v h', Q v h' → Q' v h') : GoB wf l Z y code ml ret R Q' k n h pc Ls st := by
  intro p e s m args below meth c K T L k' n' X h1 h2 N hT
  obtain ⟨s', v, T', L', k'', n'', ok', X', b1, b2, N', q, r⟩ := g p e s m args below meth c K T L k' n' X h1 h2 N hT
  exact ⟨s', v, T', L', k'', n'', ok', X', b1, b2, N', hq _ _ q, r⟩
theorem Go.nameI {x : Int32} (g : ∀ v : Int32, v = x → GoB wf l Z y code ml ret R Q k n h pc Ls (.int v :: st)) : GoB wf l Z y code ml ret R Q k n h pc Ls (.int x :: st) := g x rfl
theorem Go.nameJ {x : Int64} (g : ∀ v : Int64, v = x → GoB wf l Z y code ml ret R Q k n h pc Ls (.long v :: st)) : GoB wf l Z y code ml ret R Q k n h pc Ls (.long x :: st) := g x rfl

theorem Go.iadd {x z : Int32} (q : Nat) (hd : decode code pc = .ok (.iadd, 1))  (hq : pc + 1 = q) (g : GoB wf l Z y code ml ret R Q k n h q Ls (.int (x + z) :: st)) : GoB wf l Z y code ml ret R Q k n h pc Ls (.int z :: .int x :: st) := by
  subst hq; exact g.pure fun p e s m args below meth c K T L k' n' X hT t r => XS.iadd X.here K.1 rfl (hb K.2.1 hd) rfl  r
theorem Go.isub {x z : Int32} (q : Nat) (hd : decode code pc = .ok (.isub, 1))  (hq : pc + 1 = q) (g : GoB wf l Z y code ml ret R Q k n h q Ls (.int (x - z) :: st)) : GoB wf l Z y code ml ret R Q k n h pc Ls (.int z :: .int x :: st) := by
  subst hq; exact g.pure fun p e s m args below meth c K T L k' n' X hT t r => XS.isub X.here K.1 rfl (hb K.2.1 hd) rfl  r
theorem Go.iand {x z : Int32} (q : Nat) (hd : decode code pc = .ok (.iand, 1))  (hq : pc + 1 = q) (g : GoB wf l Z y code ml ret R Q k n h q Ls (.int (x &&& z) :: st)) : GoB wf l Z y code ml ret R Q k n h pc Ls (.int z :: .int x :: st) := by
  subst hq; exact g.pure fun p e s m args below meth c K T L k' n' X hT t r => XS.iand X.here K.1 rfl (hb K.2.1 hd) rfl  r
theorem Go.imul {x z : Int32} (q : Nat) (hd : decode code pc = .ok (.imul, 1))  (hq : pc + 1 = q) (g : GoB wf l Z y code ml ret R Q k n h q Ls (.int (x * z) :: st)) : GoB wf l Z y code ml ret R Q k n h pc Ls (.int z :: .int x :: st) := by
  subst hq; exact g.pure fun p e s m args below meth c K T L k' n' X hT t r => XS.imul X.here K.1 rfl (hb K.2.1 hd) rfl  r
theorem Go.ixor {x z : Int32} (q : Nat) (hd : decode code pc = .ok (.ixor, 1))  (hq : pc + 1 = q) (g : GoB wf l Z y code ml ret R Q k n h q Ls (.int (x ^^^ z) :: st)) : GoB wf l Z y code ml ret R Q k n h pc Ls (.int z :: .int x :: st) := by
  subst hq; exact g.pure fun p e s m args below meth c K T L k' n' X hT t r => XT.ixor X.here K.1 rfl (hb K.2.1 hd) rfl  r
theorem Go.ior {x z : Int32} (q : Nat) (hd : decode code pc = .ok (.ior, 1))  (hq : pc + 1 = q) (g : GoB wf l Z y code ml ret R Q k n h q Ls (.int (x ||| z) :: st)) : GoB wf l Z y code ml ret R Q k n h pc Ls (.int z :: .int x :: st) := by
  subst hq; exact g.pure fun p e s m args below meth c K T L k' n' X hT t r => XT.ior X.here K.1 rfl (hb K.2.1 hd) rfl  r
theorem Go.ishl {x z : Int32} (q : Nat) (hd : decode code pc = .ok (.ishl, 1))  (hq : pc + 1 = q) (g : GoB wf l Z y code ml ret R Q k n h q Ls (.int (x <<< (z &&& 31)) :: st)) : GoB wf l Z y code ml ret R Q k n h pc Ls (.int z :: .int x :: st) := by
  subst hq; exact g.pure fun p e s m args below meth c K T L k' n' X hT t r => XT.ishl X.here K.1 rfl (hb K.2.1 hd) rfl  r
theorem Go.ishr {x z : Int32} (q : Nat) (hd : decode code pc = .ok (.ishr, 1))  (hq : pc + 1 = q) (g : GoB wf l Z y code ml ret R Q k n h q Ls (.int (x >>> (z &&& 31)) :: st)) : GoB wf l Z y code ml ret R Q k n h pc Ls (.int z :: .int x :: st) := by
  subst hq; exact g.pure fun p e s m args below meth c K T L k' n' X hT t r => XT.ishr X.here K.1 rfl (hb K.2.1 hd) rfl  r
theorem Go.iushr {x z : Int32} (q : Nat) (hd : decode code pc = .ok (.iushr, 1))  (hq : pc + 1 = q) (g : GoB wf l Z y code ml ret R Q k n h q Ls (.int (XT.ushr x z) :: st)) : GoB wf l Z y code ml ret R Q k n h pc Ls (.int z :: .int x :: st) := by
  subst hq; exact g.pure fun p e s m args below meth c K T L k' n' X hT t r => XT.iushr X.here K.1 rfl (hb K.2.1 hd) rfl  r
theorem Go.idiv {x z : Int32} (q : Nat) (hd : decode code pc = .ok (.idiv, 1)) (hz : z ≠ 0) (hq : pc + 1 = q) (g : GoB wf l Z y code ml ret R Q k n h q Ls (.int (x / z) :: st)) : GoB wf l Z y code ml ret R Q k n h pc Ls (.int z :: .int x :: st) := by
  subst hq; exact g.pure fun p e s m args below meth c K T L k' n' X hT t r => XS.idiv X.here K.1 rfl (hb K.2.1 hd) rfl hz r
theorem Go.irem {x z : Int32} (q : Nat) (hd : decode code pc = .ok (.irem, 1)) (hz : z ≠ 0) (hq : pc + 1 = q) (g : GoB wf l Z y code ml ret R Q k n h q Ls (.int (x % z) :: st)) : GoB wf l Z y code ml ret R Q k n h pc Ls (.int z :: .int x :: st) := by
  subst hq; exact g.pure fun p e s m args below meth c K T L k' n' X hT t r => iremM X K.1 rfl (hb K.2.1 hd) rfl hz r
theorem Go.ineg {x : Int32} (q : Nat) (hd : decode code pc = .ok (.ineg, 1))  (hq : pc + 1 = q) (g : GoB wf l Z y code ml ret R Q k n h q Ls (.int (-x) :: st)) : GoB wf l Z y code ml ret R Q k n h pc Ls (.int x :: st) := by
  subst hq; exact g.pure fun p e s m args below meth c K T L k' n' X hT t r => XS.ineg X.here K.1 rfl (hb K.2.1 hd) rfl  r
theorem Go.ladd {x z : Int64} (q : Nat) (hd : decode code pc = .ok (.ladd, 1))  (hq : pc + 1 = q) (g : GoB wf l Z y code ml ret R Q k n h q Ls (.long (x + z) :: st)) : GoB wf l Z y code ml ret R Q k n h pc Ls (.long z :: .long x :: st) := by
  subst hq; exact g.pure fun p e s m args below meth c K T L k' n' X hT t r => XT.ladd X.here K.1 rfl (hb K.2.1 hd) rfl  r
theorem Go.lsub {x z : Int64} (q : Nat) (hd : decode code pc = .ok (.lsub, 1))  (hq : pc + 1 = q) (g : GoB wf l Z y code ml ret R Q k n h q Ls (.long (x - z) :: st)) : GoB wf l Z y code ml ret R Q k n h pc Ls (.long z :: .long x :: st) := by
  subst hq; exact g.pure fun p e s m args below meth c K T L k' n' X hT t r => XT.lsub X.here K.1 rfl (hb K.2.1 hd) rfl  r
theorem Go.lmul {x z : Int64} (q : Nat) (hd : decode code pc = .ok (.lmul, 1))  (hq : pc + 1 = q) (g : GoB wf l Z y code ml ret R Q k n h q Ls (.long (x * z) :: st)) : GoB wf l Z y code ml ret R Q k n h pc Ls (.long z :: .long x :: st) := by
  subst hq; exact g.pure fun p e s m args below meth c K T L k' n' X hT t r => XT.lmul X.here K.1 rfl (hb K.2.1 hd) rfl  r
theorem Go.land {x z : Int64} (q : Nat) (hd : decode code pc = .ok (.land, 1))  (hq : pc + 1 = q) (g : GoB wf l Z y code ml ret R Q k n h q Ls (.long (x &&& z) :: st)) : GoB wf l Z y code ml ret R Q k n h pc Ls (.long z :: .long x :: st) := by
  subst hq; exact g.pure fun p e s m args below meth c K T L k' n' X hT t r => XT.land X.here K.1 rfl (hb K.2.1 hd) rfl  r
theorem Go.lor {x z : Int64} (q : Nat) (hd : decode code pc = .ok (.lor, 1))  (hq : pc + 1 = q) (g : GoB wf l Z y code ml ret R Q k n h q Ls (.long (x ||| z) :: st)) : GoB wf l Z y code ml ret R Q k n h pc Ls (.long z :: .long x :: st) := by
  subst hq; exact g.pure fun p e s m args below meth c K T L k' n' X hT t r => XT.lor X.here K.1 rfl (hb K.2.1 hd) rfl  r
theorem Go.lxor {x z : Int64} (q : Nat) (hd : decode code pc = .ok (.lxor, 1))  (hq : pc + 1 = q) (g : GoB wf l Z y code ml ret R Q k n h q Ls (.long (x ^^^ z) :: st)) : GoB wf l Z y code ml ret R Q k n h pc Ls (.long z :: .long x :: st) := by
  subst hq; exact g.pure fun p e s m args below meth c K T L k' n' X hT t r => XT.lxor X.here K.1 rfl (hb K.2.1 hd) rfl  r
theorem Go.ldiv {x z : Int64} (q : Nat) (hd : decode code pc = .ok (.ldiv, 1)) (hz : z ≠ 0) (hq : pc + 1 = q) (g : GoB wf l Z y code ml ret R Q k n h q Ls (.long (x / z) :: st)) : GoB wf l Z y code ml ret R Q k n h pc Ls (.long z :: .long x :: st) := by
  subst hq; exact g.pure fun p e s m args below meth c K T L k' n' X hT t r => XT.ldiv X.here K.1 rfl (hb K.2.1 hd) rfl hz r
theorem Go.lrem {x z : Int64} (q : Nat) (hd : decode code pc = .ok (.lrem, 1)) (hz : z ≠ 0) (hq : pc + 1 = q) (g : GoB wf l Z y code ml ret R Q k n h q Ls (.long (x - (x / z) * z) :: st)) : GoB wf l Z y code ml ret R Q k n h pc Ls (.long z :: .long x :: st) := by
  subst hq; exact g.pure fun p e s m args below meth c K T L k' n' X hT t r => XT.lrem X.here K.1 rfl (hb K.2.1 hd) rfl hz r
theorem Go.lneg {x : Int64} (q : Nat) (hd : decode code pc = .ok (.lneg, 1))  (hq : pc + 1 = q) (g : GoB wf l Z y code ml ret R Q k n h q Ls (.long (-x) :: st)) : GoB wf l Z y code ml ret R Q k n h pc Ls (.long x :: st) := by
  subst hq; exact g.pure fun p e s m args below meth c K T L k' n' X hT t r => XT.lneg X.here K.1 rfl (hb K.2.1 hd) rfl  r
theorem Go.lshl {x : Int64} {z : Int32} (q : Nat) (hd : decode code pc = .ok (.lshl, 1))  (hq : pc + 1 = q) (g : GoB wf l Z y code ml ret R Q k n h q Ls (.long (x <<< (z.toInt64 &&& 63)) :: st)) : GoB wf l Z y code ml ret R Q k n h pc Ls (.int z :: .long x :: st) := by
  subst hq; exact g.pure fun p e s m args below meth c K T L k' n' X hT t r => XT.lshl X.here K.1 rfl (hb K.2.1 hd) rfl  r
theorem Go.lshr {x : Int64} {z : Int32} (q : Nat) (hd : decode code pc = .ok (.lshr, 1))  (hq : pc + 1 = q) (g : GoB wf l Z y code ml ret R Q k n h q Ls (.long (x >>> (z.toInt64 &&& 63)) :: st)) : GoB wf l Z y code ml ret R Q k n h pc Ls (.int z :: .long x :: st) := by
  subst hq; exact g.pure fun p e s m args below meth c K T L k' n' X hT t r => XT.lshr X.here K.1 rfl (hb K.2.1 hd) rfl  r
theorem Go.lushr {x : Int64} {z : Int32} (q : Nat) (hd : decode code pc = .ok (.lushr, 1))  (hq : pc + 1 = q) (g : GoB wf l Z y code ml ret R Q k n h q Ls (.long (XT.ushrL x z) :: st)) : GoB wf l Z y code ml ret R Q k n h pc Ls (.int z :: .long x :: st) := by
  subst hq; exact g.pure fun p e s m args below meth c K T L k' n' X hT t r => XT.lushr X.here K.1 rfl (hb K.2.1 hd) rfl  r
theorem Go.lcmp {x z : Int64} (q : Nat) (hd : decode code pc = .ok (.lcmp, 1))  (hq : pc + 1 = q) (g : GoB wf l Z y code ml ret R Q k n h q Ls (.int (XT.cmpL x z) :: st)) : GoB wf l Z y code ml ret R Q k n h pc Ls (.long z :: .long x :: st) := by
  subst hq; exact g.pure fun p e s m args below meth c K T L k' n' X hT t r => XT.lcmp X.here K.1 rfl (hb K.2.1 hd) rfl  r
theorem Go.i2l {x : Int32} (q : Nat) (hd : decode code pc = .ok (.i2l, 1))  (hq : pc + 1 = q) (g : GoB wf l Z y code ml ret R Q k n h q Ls (.long x.toInt64 :: st)) : GoB wf l Z y code ml ret R Q k n h pc Ls (.int x :: st) := by
  subst hq; exact g.pure fun p e s m args below meth c K T L k' n' X hT t r => XT.i2l X.here K.1 rfl (hb K.2.1 hd) rfl  r
theorem Go.l2i {x : Int64} (q : Nat) (hd : decode code pc = .ok (.l2i, 1))  (hq : pc + 1 = q) (g : GoB wf l Z y code ml ret R Q k n h q Ls (.int x.toInt32 :: st)) : GoB wf l Z y code ml ret R Q k n h pc Ls (.long x :: st) := by
  subst hq; exact g.pure fun p e s m args below meth c K T L k' n' X hT t r => XT.l2i X.here K.1 rfl (hb K.2.1 hd) rfl  r
theorem Go.i2b {x : Int32} (q : Nat) (hd : decode code pc = .ok (.i2b, 1))  (hq : pc + 1 = q) (g : GoB wf l Z y code ml ret R Q k n h q Ls (.int x.toInt8.toInt32 :: st)) : GoB wf l Z y code ml ret R Q k n h pc Ls (.int x :: st) := by
  subst hq; exact g.pure fun p e s m args below meth c K T L k' n' X hT t r => XT.i2b X.here K.1 rfl (hb K.2.1 hd) rfl  r
theorem Go.i2c {x : Int32} (q : Nat) (hd : decode code pc = .ok (.i2c, 1))  (hq : pc + 1 = q) (g : GoB wf l Z y code ml ret R Q k n h q Ls (.int x.toUInt32.toUInt16.toUInt32.toInt32 :: st)) : GoB wf l Z y code ml ret R Q k n h pc Ls (.int x :: st) := by
  subst hq; exact g.pure fun p e s m args below meth c K T L k' n' X hT t r => XT.i2c X.here K.1 rfl (hb K.2.1 hd) rfl  r
theorem Go.i2s {x : Int32} (q : Nat) (hd : decode code pc = .ok (.i2s, 1))  (hq : pc + 1 = q) (g : GoB wf l Z y code ml ret R Q k n h q Ls (.int x.toInt16.toInt32 :: st)) : GoB wf l Z y code ml ret R Q k n h pc Ls (.int x :: st) := by
  subst hq; exact g.pure fun p e s m args below meth c K T L k' n' X hT t r => XT.i2s X.here K.1 rfl (hb K.2.1 hd) rfl  r
theorem Go.pop {x : Value} (q : Nat) (hd : decode code pc = .ok (.pop, 1)) (hc : x.category = 1) (hq : pc + 1 = q) (g : GoB wf l Z y code ml ret R Q k n h q Ls (st)) : GoB wf l Z y code ml ret R Q k n h pc Ls (x :: st) := by
  subst hq; exact g.pure fun p e s m args below meth c K T L k' n' X hT t r => XT.pop X.here K.1 rfl (hb K.2.1 hd) rfl hc r
theorem Go.dup {x : Value} (q : Nat) (hd : decode code pc = .ok (.dup, 1)) (hc : x.category = 1) (hq : pc + 1 = q) (g : GoB wf l Z y code ml ret R Q k n h q Ls (x :: x :: st)) : GoB wf l Z y code ml ret R Q k n h pc Ls (x :: st) := by
  subst hq; exact g.pure fun p e s m args below meth c K T L k' n' X hT t r => XS.dup X.here K.1 rfl (hb K.2.1 hd) rfl hc r
theorem Go.dupX1 {x z : Value} (q : Nat) (hd : decode code pc = .ok (.dup_x1, 1)) (hc : x.category = 1) (hc' : z.category = 1) (hq : pc + 1 = q) (g : GoB wf l Z y code ml ret R Q k n h q Ls (x :: z :: x :: st)) : GoB wf l Z y code ml ret R Q k n h pc Ls (x :: z :: st) := by
  subst hq; exact g.pure fun p e s m args below meth c K T L k' n' X hT t r => XT.dupX1 X.here K.1 rfl (hb K.2.1 hd) rfl hc hc' r
theorem Go.dup2 {x z : Value} (q : Nat) (hd : decode code pc = .ok (.dup2, 1)) (hc : x.category = 1) (hc' : z.category = 1) (hq : pc + 1 = q) (g : GoB wf l Z y code ml ret R Q k n h q Ls (x :: z :: x :: z :: st)) : GoB wf l Z y code ml ret R Q k n h pc Ls (x :: z :: st) := by
  subst hq; exact g.pure fun p e s m args below meth c K T L k' n' X hT t r => XT.dup2 X.here K.1 rfl (hb K.2.1 hd) rfl hc hc' r
theorem Go.dup2L {x : Int64} (q : Nat) (hd : decode code pc = .ok (.dup2, 1))  (hq : pc + 1 = q) (g : GoB wf l Z y code ml ret R Q k n h q Ls (.long x :: .long x :: st)) : GoB wf l Z y code ml ret R Q k n h pc Ls (.long x :: st) := by
  subst hq; exact g.pure fun p e s m args below meth c K T L k' n' X hT t r => XT.dup2L X.here K.1 rfl (hb K.2.1 hd) rfl  r
theorem Go.iconst {i : Int} (q : Nat) (v : Int32) (hd : decode code pc = .ok (.iconst i, 1)) (hv : Int32.ofInt i = v) (hq : pc + 1 = q) (g : GoB wf l Z y code ml ret R Q k n h q Ls (.int v :: st)) : GoB wf l Z y code ml ret R Q k n h pc Ls st := by
  subst hq; exact g.pure fun p e s m args below meth c K T L k' n' X hT t r => XT.iconstV X.here K.1 rfl v (hb K.2.1 hd) hv r
theorem Go.bipush {i : Int} (q : Nat) (v : Int32) (hd : decode code pc = .ok (.bipush i, 2)) (hv : (Int8.ofInt i).toInt32 = v) (hq : pc + 2 = q) (g : GoB wf l Z y code ml ret R Q k n h q Ls (.int v :: st)) : GoB wf l Z y code ml ret R Q k n h pc Ls st := by
  subst hq; exact g.pure fun p e s m args below meth c K T L k' n' X hT t r => XT.bipushV X.here K.1 rfl v (hb K.2.1 hd) hv r
theorem Go.sipush {i : Int} (q : Nat) (v : Int32) (hd : decode code pc = .ok (.sipush i, 3)) (hv : (Int16.ofInt i).toInt32 = v) (hq : pc + 3 = q) (g : GoB wf l Z y code ml ret R Q k n h q Ls (.int v :: st)) : GoB wf l Z y code ml ret R Q k n h pc Ls st := by
  subst hq; exact g.pure fun p e s m args below meth c K T L k' n' X hT t r => XT.sipushV X.here K.1 rfl v (hb K.2.1 hd) hv r
theorem Go.lconst {i : Fin 2} (q : Nat) (v : Int64) (hd : decode code pc = .ok (.lconst i, 1)) (hv : Int64.ofNat i = v) (hq : pc + 1 = q) (g : GoB wf l Z y code ml ret R Q k n h q Ls (.long v :: st)) : GoB wf l Z y code ml ret R Q k n h pc Ls st := by
  subst hq; exact g.pure fun p e s m args below meth c K T L k' n' X hT t r => XT.lconstV X.here K.1 rfl v (hb K.2.1 hd) hv r
theorem Go.aconst_null (q : Nat) (hd : decode code pc = .ok (.aconst_null, 1)) (hq : pc + 1 = q) (g : GoB wf l Z y code ml ret R Q k n h q Ls (.null :: st)) : GoB wf l Z y code ml ret R Q k n h pc Ls st := by
  subst hq; exact g.pure fun p e s m args below meth c K T L k' n' X hT t r => XS.aconstNull X.here K.1 rfl (hb K.2.1 hd) r
theorem Go.ldc {i : Nat} {v : Int32} (q : Nat) (hd : decode code pc = .ok (.ldc i, 2)) (w : (Cond.constant y.cls i v).before a0 Z = true) (hq : pc + 2 = q) (g : GoB wf l Z y code ml ret R Q k n h q Ls (.int v :: st)) : GoB wf l Z y code ml ret R Q k n h pc Ls st := by
  subst hq; exact g.pure fun p e s m args below meth c K T L k' n' X hT t r => X.ldcI K.1 K.2.2.2.1 (mvT K.2.2.1 w) rfl (hb K.2.1 hd) r
theorem Go.ldc_w {i : Nat} {v : Int32} (q : Nat) (hd : decode code pc = .ok (.ldc_w i, 3)) (w : (Cond.constant y.cls i v).before a0 Z = true) (hq : pc + 3 = q) (g : GoB wf l Z y code ml ret R Q k n h q Ls (.int v :: st)) : GoB wf l Z y code ml ret R Q k n h pc Ls st := by
  subst hq; exact g.pure fun p e s m args below meth c K T L k' n' X hT t r => X.ldcWI K.1 K.2.2.2.1 (mvT K.2.2.1 w) rfl (hb K.2.1 hd) r
theorem Go.ldc2_w {i : Nat} {v : Int64} (q : Nat) (hd : decode code pc = .ok (.ldc2_w i, 3)) (w : (Cond.constantLong y.cls i v).before a0 Z = true) (hq : pc + 3 = q) (g : GoB wf l Z y code ml ret R Q k n h q Ls (.long v :: st)) : GoB wf l Z y code ml ret R Q k n h pc Ls st := by
  subst hq; exact g.pure fun p e s m args below meth c K T L k' n' X hT t r => X.ldc2J K.1 K.2.2.2.1 (mvT K.2.2.1 w) rfl (hb K.2.1 hd) r
theorem Go.iload {i : Nat} {v : Int32} (q : Nat) (hd : decode code pc = .ok (.iload i, 2)) (hl : Ls[i]? = some (.val (.int v))) (hq : pc + 2 = q) (g : GoB wf l Z y code ml ret R Q k n h q Ls (.int v :: st)) : GoB wf l Z y code ml ret R Q k n h pc Ls st := by
  subst hq; exact g.pure fun p e s m args below meth c K T L k' n' X hT t r => XS.iload X.here K.1 rfl (hb K.2.1 hd) hl r
theorem Go.iload_n {i : Fin 4} {v : Int32} (q : Nat) (hd : decode code pc = .ok (.iload_n i, 1)) (hl : Ls[i.val]? = some (.val (.int v))) (hq : pc + 1 = q) (g : GoB wf l Z y code ml ret R Q k n h q Ls (.int v :: st)) : GoB wf l Z y code ml ret R Q k n h pc Ls st := by
  subst hq; exact g.pure fun p e s m args below meth c K T L k' n' X hT t r => XS.iloadN X.here K.1 rfl (hb K.2.1 hd) hl r
theorem Go.lload {i : Nat} {v : Int64} (q : Nat) (hd : decode code pc = .ok (.lload i, 2)) (hl : Ls[i]? = some (.val (.long v))) (hq : pc + 2 = q) (g : GoB wf l Z y code ml ret R Q k n h q Ls (.long v :: st)) : GoB wf l Z y code ml ret R Q k n h pc Ls st := by
  subst hq; exact g.pure fun p e s m args below meth c K T L k' n' X hT t r => XT.lload X.here K.1 rfl (hb K.2.1 hd) hl r
theorem Go.lload_n {i : Fin 4} {v : Int64} (q : Nat) (hd : decode code pc = .ok (.lload_n i, 1)) (hl : Ls[i.val]? = some (.val (.long v))) (hq : pc + 1 = q) (g : GoB wf l Z y code ml ret R Q k n h q Ls (.long v :: st)) : GoB wf l Z y code ml ret R Q k n h pc Ls st := by
  subst hq; exact g.pure fun p e s m args below meth c K T L k' n' X hT t r => XT.lloadN X.here K.1 rfl (hb K.2.1 hd) hl r
theorem Go.aload {i : Nat} {v : Value} (q : Nat) (hd : decode code pc = .ok (.aload i, 2)) (hl : Ls[i]? = some (.val v)) (hv : v.isRef = true) (hq : pc + 2 = q) (g : GoB wf l Z y code ml ret R Q k n h q Ls (v :: st)) : GoB wf l Z y code ml ret R Q k n h pc Ls st := by
  subst hq; exact g.pure fun p e s m args below meth c K T L k' n' X hT t r => XS.aload X.here K.1 rfl (hb K.2.1 hd) hl hv r
theorem Go.aload_n {i : Fin 4} {v : Value} (q : Nat) (hd : decode code pc = .ok (.aload_n i, 1)) (hl : Ls[i.val]? = some (.val v)) (hv : v.isRef = true) (hq : pc + 1 = q) (g : GoB wf l Z y code ml ret R Q k n h q Ls (v :: st)) : GoB wf l Z y code ml ret R Q k n h pc Ls st := by
  subst hq; exact g.pure fun p e s m args below meth c K T L k' n' X hT t r => XS.aloadN X.here K.1 rfl (hb K.2.1 hd) hl hv r
theorem Go.istore {i : Nat} {v : Int32} (q : Nat) (Ls' : Array Slot) (hd : decode code pc = .ok (.istore i, 2)) (hl : storeLocals Ls i (.int v) = some Ls') (hq : pc + 2 = q) (g : GoB wf l Z y code ml ret R Q k n h q Ls' st) : GoB wf l Z y code ml ret R Q k n h pc Ls (.int v :: st) := by
  subst hq; exact g.pure fun p e s m args below meth c K T L k' n' X hT t r => XS.istore X.here K.1 rfl (hb K.2.1 hd) rfl hl r
theorem Go.istore_n {i : Fin 4} {v : Int32} (q : Nat) (Ls' : Array Slot) (hd : decode code pc = .ok (.istore_n i, 1)) (hl : storeLocals Ls i.val (.int v) = some Ls') (hq : pc + 1 = q) (g : GoB wf l Z y code ml ret R Q k n h q Ls' st) : GoB wf l Z y code ml ret R Q k n h pc Ls (.int v :: st) := by
  subst hq; exact g.pure fun p e s m args below meth c K T L k' n' X hT t r => XS.istoreN X.here K.1 rfl (hb K.2.1 hd) rfl hl r
theorem Go.lstore {i : Nat} {v : Int64} (q : Nat) (Ls' : Array Slot) (hd : decode code pc = .ok (.lstore i, 2)) (hl : storeLocals Ls i (.long v) = some Ls') (hq : pc + 2 = q) (g : GoB wf l Z y code ml ret R Q k n h q Ls' st) : GoB wf l Z y code ml ret R Q k n h pc Ls (.long v :: st) := by
  subst hq; exact g.pure fun p e s m args below meth c K T L k' n' X hT t r => XT.lstore X.here K.1 rfl (hb K.2.1 hd) rfl hl r
theorem Go.lstore_n {i : Fin 4} {v : Int64} (q : Nat) (Ls' : Array Slot) (hd : decode code pc = .ok (.lstore_n i, 1)) (hl : storeLocals Ls i.val (.long v) = some Ls') (hq : pc + 1 = q) (g : GoB wf l Z y code ml ret R Q k n h q Ls' st) : GoB wf l Z y code ml ret R Q k n h pc Ls (.long v :: st) := by
  subst hq; exact g.pure fun p e s m args below meth c K T L k' n' X hT t r => XT.lstoreN X.here K.1 rfl (hb K.2.1 hd) rfl hl r
theorem Go.astore {i : Nat} {v : Value} (q : Nat) (Ls' : Array Slot) (hd : decode code pc = .ok (.astore i, 2)) (hv : v.isRef = true) (hl : storeLocals Ls i v = some Ls') (hq : pc + 2 = q) (g : GoB wf l Z y code ml ret R Q k n h q Ls' st) : GoB wf l Z y code ml ret R Q k n h pc Ls (v :: st) := by
  subst hq; exact g.pure fun p e s m args below meth c K T L k' n' X hT t r => XS.astore X.here K.1 rfl (hb K.2.1 hd) rfl hv hl r
theorem Go.astore_n {i : Fin 4} {v : Value} (q : Nat) (Ls' : Array Slot) (hd : decode code pc = .ok (.astore_n i, 1)) (hv : v.isRef = true) (hl : storeLocals Ls i.val v = some Ls') (hq : pc + 1 = q) (g : GoB wf l Z y code ml ret R Q k n h q Ls' st) : GoB wf l Z y code ml ret R Q k n h pc Ls (v :: st) := by
  subst hq; exact g.pure fun p e s m args below meth c K T L k' n' X hT t r => XS.astoreN X.here K.1 rfl (hb K.2.1 hd) rfl hv hl r
theorem Go.iinc {i : Nat} {cst : Int} {x : Int32} (q : Nat) (v : Int32) (Ls' : Array Slot) (hd : decode code pc = .ok (.iinc i cst, 3)) (hv : Int32.ofInt cst = v) (hl : Ls[i]? = some (.val (.int x))) (hl' : storeLocals Ls i (.int (x + v)) = some Ls') (hq : pc + 3 = q) (g : GoB wf l Z y code ml ret R Q k n h q Ls' st) : GoB wf l Z y code ml ret R Q k n h pc Ls st := by
  subst hq; exact g.pure fun p e s m args below meth c K T L k' n' X hT t r => XT.iincV X.here K.1 rfl v (hb K.2.1 hd) hv hl hl' r
theorem Go.goto {o : Int} (q : Nat) (hd : decode code pc = .ok (.goto o, 3)) (ho : 0 ≤ (pc : Int) + o) (hq : ((pc : Int) + o).toNat = q) (g : GoB wf l Z y code ml ret R Q k n h q Ls st) : GoB wf l Z y code ml ret R Q k n h pc Ls st :=
  g.pure fun p e s m args below meth c K T L k' n' X hT t r => XS.goto X.here K.1 rfl rfl (hb K.2.1 hd) ho hq r
theorem Go.icmp_eq {o : Int} {x z : Int32} (q1 q2 : Nat) (hd : decode code pc = .ok (.if_icmp .eq o, 3)) (ho : 0 ≤ (pc : Int) + o) (h1 : ((pc : Int) + o).toNat = q1) (h2 : pc + 3 = q2) (g1 : x = z → GoB wf l Z y code ml ret R Q k n h q1 Ls st) (g2 : ¬ x = z → GoB wf l Z y code ml ret R Q k n h q2 Ls st) : GoB wf l Z y code ml ret R Q k n h pc Ls (.int z :: .int x :: st) := by
  subst h2
  by_cases hc : x = z
  · exact (g1 hc).pure fun p e s m args below meth c K T L k' n' X hT t r => XS.icmpYes X.here K.1 rfl rfl (hb K.2.1 hd) rfl (XT.ii_eq_t hc) ho h1 r
  · exact (g2 (by first | exact hc | exact Decidable.not_not.mp hc)).pure fun p e s m args below meth c K T L k' n' X hT t r => XS.icmpNo X.here K.1 rfl (hb K.2.1 hd) rfl (XT.ii_eq_f (by first | exact hc | exact Decidable.not_not.mp hc)) r
theorem Go.lcmp_eq {o : Int} {x z : Int64} (q1 q2 : Nat) (hd : decode code pc = .ok (.ifCond .eq o, 3)) (ho : 0 ≤ (pc : Int) + o) (h1 : ((pc : Int) + o).toNat = q1) (h2 : pc + 3 = q2) (g1 : x = z → GoB wf l Z y code ml ret R Q k n h q1 Ls st) (g2 : ¬ x = z → GoB wf l Z y code ml ret R Q k n h q2 Ls st) : GoB wf l Z y code ml ret R Q k n h pc Ls (.int (XT.cmpL x z) :: st) := by
  subst h2
  by_cases hc : x = z
  · exact (g1 hc).pure fun p e s m args below meth c K T L k' n' X hT t r => XS.ifYes X.here K.1 rfl rfl (hb K.2.1 hd) rfl (XT.ll_eq_t hc) ho h1 r
  · exact (g2 (by first | exact hc | exact Decidable.not_not.mp hc)).pure fun p e s m args below meth c K T L k' n' X hT t r => XS.ifNo X.here K.1 rfl (hb K.2.1 hd) rfl (XT.ll_eq_f (by first | exact hc | exact Decidable.not_not.mp hc)) r
theorem Go.icmp_ne {o : Int} {x z : Int32} (q1 q2 : Nat) (hd : decode code pc = .ok (.if_icmp .ne o, 3)) (ho : 0 ≤ (pc : Int) + o) (h1 : ((pc : Int) + o).toNat = q1) (h2 : pc + 3 = q2) (g1 : ¬ x = z → GoB wf l Z y code ml ret R Q k n h q1 Ls st) (g2 : x = z → GoB wf l Z y code ml ret R Q k n h q2 Ls st) : GoB wf l Z y code ml ret R Q k n h pc Ls (.int z :: .int x :: st) := by
  subst h2
  by_cases hc : ¬ x = z
  · exact (g1 hc).pure fun p e s m args below meth c K T L k' n' X hT t r => XS.icmpYes X.here K.1 rfl rfl (hb K.2.1 hd) rfl (XT.ii_ne_t hc) ho h1 r
  · exact (g2 (by first | exact hc | exact Decidable.not_not.mp hc)).pure fun p e s m args below meth c K T L k' n' X hT t r => XS.icmpNo X.here K.1 rfl (hb K.2.1 hd) rfl (XT.ii_ne_f (by first | exact hc | exact Decidable.not_not.mp hc)) r
theorem Go.lcmp_ne {o : Int} {x z : Int64} (q1 q2 : Nat) (hd : decode code pc = .ok (.ifCond .ne o, 3)) (ho : 0 ≤ (pc : Int) + o) (h1 : ((pc : Int) + o).toNat = q1) (h2 : pc + 3 = q2) (g1 : ¬ x = z → GoB wf l Z y code ml ret R Q k n h q1 Ls st) (g2 : x = z → GoB wf l Z y code ml ret R Q k n h q2 Ls st) : GoB wf l Z y code ml ret R Q k n h pc Ls (.int (XT.cmpL x z) :: st) := by
  subst h2
  by_cases hc : ¬ x = z
  · exact (g1 hc).pure fun p e s m args below meth c K T L k' n' X hT t r => XS.ifYes X.here K.1 rfl rfl (hb K.2.1 hd) rfl (XT.ll_ne_t hc) ho h1 r
  · exact (g2 (by first | exact hc | exact Decidable.not_not.mp hc)).pure fun p e s m args below meth c K T L k' n' X hT t r => XS.ifNo X.here K.1 rfl (hb K.2.1 hd) rfl (XT.ll_ne_f (by first | exact hc | exact Decidable.not_not.mp hc)) r
theorem Go.icmp_lt {o : Int} {x z : Int32} (q1 q2 : Nat) (hd : decode code pc = .ok (.if_icmp .lt o, 3)) (ho : 0 ≤ (pc : Int) + o) (h1 : ((pc : Int) + o).toNat = q1) (h2 : pc + 3 = q2) (g1 : x < z → GoB wf l Z y code ml ret R Q k n h q1 Ls st) (g2 : ¬ x < z → GoB wf l Z y code ml ret R Q k n h q2 Ls st) : GoB wf l Z y code ml ret R Q k n h pc Ls (.int z :: .int x :: st) := by
  subst h2
  by_cases hc : x < z
  · exact (g1 hc).pure fun p e s m args below meth c K T L k' n' X hT t r => XS.icmpYes X.here K.1 rfl rfl (hb K.2.1 hd) rfl (XT.ii_lt_t hc) ho h1 r
  · exact (g2 (by first | exact hc | exact Decidable.not_not.mp hc)).pure fun p e s m args below meth c K T L k' n' X hT t r => XS.icmpNo X.here K.1 rfl (hb K.2.1 hd) rfl (XT.ii_lt_f (by first | exact hc | exact Decidable.not_not.mp hc)) r
theorem Go.lcmp_lt {o : Int} {x z : Int64} (q1 q2 : Nat) (hd : decode code pc = .ok (.ifCond .lt o, 3)) (ho : 0 ≤ (pc : Int) + o) (h1 : ((pc : Int) + o).toNat = q1) (h2 : pc + 3 = q2) (g1 : x < z → GoB wf l Z y code ml ret R Q k n h q1 Ls st) (g2 : ¬ x < z → GoB wf l Z y code ml ret R Q k n h q2 Ls st) : GoB wf l Z y code ml ret R Q k n h pc Ls (.int (XT.cmpL x z) :: st) := by
  subst h2
  by_cases hc : x < z
  · exact (g1 hc).pure fun p e s m args below meth c K T L k' n' X hT t r => XS.ifYes X.here K.1 rfl rfl (hb K.2.1 hd) rfl (XT.ll_lt_t hc) ho h1 r
  · exact (g2 (by first | exact hc | exact Decidable.not_not.mp hc)).pure fun p e s m args below meth c K T L k' n' X hT t r => XS.ifNo X.here K.1 rfl (hb K.2.1 hd) rfl (XT.ll_lt_f (by first | exact hc | exact Decidable.not_not.mp hc)) r
theorem Go.icmp_ge {o : Int} {x z : Int32} (q1 q2 : Nat) (hd : decode code pc = .ok (.if_icmp .ge o, 3)) (ho : 0 ≤ (pc : Int) + o) (h1 : ((pc : Int) + o).toNat = q1) (h2 : pc + 3 = q2) (g1 : ¬ x < z → GoB wf l Z y code ml ret R Q k n h q1 Ls st) (g2 : x < z → GoB wf l Z y code ml ret R Q k n h q2 Ls st) : GoB wf l Z y code ml ret R Q k n h pc Ls (.int z :: .int x :: st) := by
  subst h2
  by_cases hc : ¬ x < z
  · exact (g1 hc).pure fun p e s m args below meth c K T L k' n' X hT t r => XS.icmpYes X.here K.1 rfl rfl (hb K.2.1 hd) rfl (XT.ii_ge_t hc) ho h1 r
  · exact (g2 (by first | exact hc | exact Decidable.not_not.mp hc)).pure fun p e s m args below meth c K T L k' n' X hT t r => XS.icmpNo X.here K.1 rfl (hb K.2.1 hd) rfl (XT.ii_ge_f (by first | exact hc | exact Decidable.not_not.mp hc)) r
theorem Go.lcmp_ge {o : Int} {x z : Int64} (q1 q2 : Nat) (hd : decode code pc = .ok (.ifCond .ge o, 3)) (ho : 0 ≤ (pc : Int) + o) (h1 : ((pc : Int) + o).toNat = q1) (h2 : pc + 3 = q2) (g1 : ¬ x < z → GoB wf l Z y code ml ret R Q k n h q1 Ls st) (g2 : x < z → GoB wf l Z y code ml ret R Q k n h q2 Ls st) : GoB wf l Z y code ml ret R Q k n h pc Ls (.int (XT.cmpL x z) :: st) := by
  subst h2
  by_cases hc : ¬ x < z
  · exact (g1 hc).pure fun p e s m args below meth c K T L k' n' X hT t r => XS.ifYes X.here K.1 rfl rfl (hb K.2.1 hd) rfl (XT.ll_ge_t hc) ho h1 r
  · exact (g2 (by first | exact hc | exact Decidable.not_not.mp hc)).pure fun p e s m args below meth c K T L k' n' X hT t r => XS.ifNo X.here K.1 rfl (hb K.2.1 hd) rfl (XT.ll_ge_f (by first | exact hc | exact Decidable.not_not.mp hc)) r
theorem Go.icmp_gt {o : Int} {x z : Int32} (q1 q2 : Nat) (hd : decode code pc = .ok (.if_icmp .gt o, 3)) (ho : 0 ≤ (pc : Int) + o) (h1 : ((pc : Int) + o).toNat = q1) (h2 : pc + 3 = q2) (g1 : z < x → GoB wf l Z y code ml ret R Q k n h q1 Ls st) (g2 : ¬ z < x → GoB wf l Z y code ml ret R Q k n h q2 Ls st) : GoB wf l Z y code ml ret R Q k n h pc Ls (.int z :: .int x :: st) := by
  subst h2
  by_cases hc : z < x
  · exact (g1 hc).pure fun p e s m args below meth c K T L k' n' X hT t r => XS.icmpYes X.here K.1 rfl rfl (hb K.2.1 hd) rfl (XT.ii_gt_t hc) ho h1 r
  · exact (g2 (by first | exact hc | exact Decidable.not_not.mp hc)).pure fun p e s m args below meth c K T L k' n' X hT t r => XS.icmpNo X.here K.1 rfl (hb K.2.1 hd) rfl (XT.ii_gt_f (by first | exact hc | exact Decidable.not_not.mp hc)) r
theorem Go.lcmp_gt {o : Int} {x z : Int64} (q1 q2 : Nat) (hd : decode code pc = .ok (.ifCond .gt o, 3)) (ho : 0 ≤ (pc : Int) + o) (h1 : ((pc : Int) + o).toNat = q1) (h2 : pc + 3 = q2) (g1 : z < x → GoB wf l Z y code ml ret R Q k n h q1 Ls st) (g2 : ¬ z < x → GoB wf l Z y code ml ret R Q k n h q2 Ls st) : GoB wf l Z y code ml ret R Q k n h pc Ls (.int (XT.cmpL x z) :: st) := by
  subst h2
  by_cases hc : z < x
  · exact (g1 hc).pure fun p e s m args below meth c K T L k' n' X hT t r => XS.ifYes X.here K.1 rfl rfl (hb K.2.1 hd) rfl (XT.ll_gt_t hc) ho h1 r
  · exact (g2 (by first | exact hc | exact Decidable.not_not.mp hc)).pure fun p e s m args below meth c K T L k' n' X hT t r => XS.ifNo X.here K.1 rfl (hb K.2.1 hd) rfl (XT.ll_gt_f (by first | exact hc | exact Decidable.not_not.mp hc)) r
theorem Go.icmp_le {o : Int} {x z : Int32} (q1 q2 : Nat) (hd : decode code pc = .ok (.if_icmp .le o, 3)) (ho : 0 ≤ (pc : Int) + o) (h1 : ((pc : Int) + o).toNat = q1) (h2 : pc + 3 = q2) (g1 : ¬ z < x → GoB wf l Z y code ml ret R Q k n h q1 Ls st) (g2 : z < x → GoB wf l Z y code ml ret R Q k n h q2 Ls st) : GoB wf l Z y code ml ret R Q k n h pc Ls (.int z :: .int x :: st) := by
  subst h2
  by_cases hc : ¬ z < x
  · exact (g1 hc).pure fun p e s m args below meth c K T L k' n' X hT t r => XS.icmpYes X.here K.1 rfl rfl (hb K.2.1 hd) rfl (XT.ii_le_t hc) ho h1 r
  · exact (g2 (by first | exact hc | exact Decidable.not_not.mp hc)).pure fun p e s m args below meth c K T L k' n' X hT t r => XS.icmpNo X.here K.1 rfl (hb K.2.1 hd) rfl (XT.ii_le_f (by first | exact hc | exact Decidable.not_not.mp hc)) r
theorem Go.lcmp_le {o : Int} {x z : Int64} (q1 q2 : Nat) (hd : decode code pc = .ok (.ifCond .le o, 3)) (ho : 0 ≤ (pc : Int) + o) (h1 : ((pc : Int) + o).toNat = q1) (h2 : pc + 3 = q2) (g1 : ¬ z < x → GoB wf l Z y code ml ret R Q k n h q1 Ls st) (g2 : z < x → GoB wf l Z y code ml ret R Q k n h q2 Ls st) : GoB wf l Z y code ml ret R Q k n h pc Ls (.int (XT.cmpL x z) :: st) := by
  subst h2
  by_cases hc : ¬ z < x
  · exact (g1 hc).pure fun p e s m args below meth c K T L k' n' X hT t r => XS.ifYes X.here K.1 rfl rfl (hb K.2.1 hd) rfl (XT.ll_le_t hc) ho h1 r
  · exact (g2 (by first | exact hc | exact Decidable.not_not.mp hc)).pure fun p e s m args below meth c K T L k' n' X hT t r => XS.ifNo X.here K.1 rfl (hb K.2.1 hd) rfl (XT.ll_le_f (by first | exact hc | exact Decidable.not_not.mp hc)) r
theorem if0_eq_t {x : Int32} (h : x = 0) : ifCond.holds .eq x = true := by
  have e : ifCond.holds .eq x = if_icmp.holds .eq x 0 := rfl
  rw [e]; exact XT.ii_eq_t h
theorem if0_eq_f {x : Int32} (h : ¬ x = 0) : ifCond.holds .eq x = false := by
  have e : ifCond.holds .eq x = if_icmp.holds .eq x 0 := rfl
  rw [e]; exact XT.ii_eq_f h
theorem Go.if_eq {o : Int} {x : Int32} (q1 q2 : Nat) (hd : decode code pc = .ok (.ifCond .eq o, 3)) (ho : 0 ≤ (pc : Int) + o) (h1 : ((pc : Int) + o).toNat = q1) (h2 : pc + 3 = q2) (g1 : x = 0 → GoB wf l Z y code ml ret R Q k n h q1 Ls st) (g2 : ¬ x = 0 → GoB wf l Z y code ml ret R Q k n h q2 Ls st) : GoB wf l Z y code ml ret R Q k n h pc Ls (.int x :: st) := by
  subst h2
  by_cases hc : x = 0
  · exact (g1 hc).pure fun p e s m args below meth c K T L k' n' X hT t r => XS.ifYes X.here K.1 rfl rfl (hb K.2.1 hd) rfl (if0_eq_t hc) ho h1 r
  · exact (g2 (by first | exact hc | exact Decidable.not_not.mp hc)).pure fun p e s m args below meth c K T L k' n' X hT t r => XS.ifNo X.here K.1 rfl (hb K.2.1 hd) rfl (if0_eq_f (by first | exact hc | exact Decidable.not_not.mp hc)) r
theorem if0_ne_t {x : Int32} (h : ¬ x = 0) : ifCond.holds .ne x = true := by
  have e : ifCond.holds .ne x = if_icmp.holds .ne x 0 := rfl
  rw [e]; exact XT.ii_ne_t h
theorem if0_ne_f {x : Int32} (h : x = 0) : ifCond.holds .ne x = false := by
  have e : ifCond.holds .ne x = if_icmp.holds .ne x 0 := rfl
  rw [e]; exact XT.ii_ne_f h
theorem Go.if_ne {o : Int} {x : Int32} (q1 q2 : Nat) (hd : decode code pc = .ok (.ifCond .ne o, 3)) (ho : 0 ≤ (pc : Int) + o) (h1 : ((pc : Int) + o).toNat = q1) (h2 : pc + 3 = q2) (g1 : ¬ x = 0 → GoB wf l Z y code ml ret R Q k n h q1 Ls st) (g2 : x = 0 → GoB wf l Z y code ml ret R Q k n h q2 Ls st) : GoB wf l Z y code ml ret R Q k n h pc Ls (.int x :: st) := by
  subst h2
  by_cases hc : ¬ x = 0
  · exact (g1 hc).pure fun p e s m args below meth c K T L k' n' X hT t r => XS.ifYes X.here K.1 rfl rfl (hb K.2.1 hd) rfl (if0_ne_t hc) ho h1 r
  · exact (g2 (by first | exact hc | exact Decidable.not_not.mp hc)).pure fun p e s m args below meth c K T L k' n' X hT t r => XS.ifNo X.here K.1 rfl (hb K.2.1 hd) rfl (if0_ne_f (by first | exact hc | exact Decidable.not_not.mp hc)) r
theorem if0_lt_t {x : Int32} (h : x < 0) : ifCond.holds .lt x = true := by
  have e : ifCond.holds .lt x = if_icmp.holds .lt x 0 := rfl
  rw [e]; exact XT.ii_lt_t h
theorem if0_lt_f {x : Int32} (h : ¬ x < 0) : ifCond.holds .lt x = false := by
  have e : ifCond.holds .lt x = if_icmp.holds .lt x 0 := rfl
  rw [e]; exact XT.ii_lt_f h
theorem Go.if_lt {o : Int} {x : Int32} (q1 q2 : Nat) (hd : decode code pc = .ok (.ifCond .lt o, 3)) (ho : 0 ≤ (pc : Int) + o) (h1 : ((pc : Int) + o).toNat = q1) (h2 : pc + 3 = q2) (g1 : x < 0 → GoB wf l Z y code ml ret R Q k n h q1 Ls st) (g2 : ¬ x < 0 → GoB wf l Z y code ml ret R Q k n h q2 Ls st) : GoB wf l Z y code ml ret R Q k n h pc Ls (.int x :: st) := by
  subst h2
  by_cases hc : x < 0
  · exact (g1 hc).pure fun p e s m args below meth c K T L k' n' X hT t r => XS.ifYes X.here K.1 rfl rfl (hb K.2.1 hd) rfl (if0_lt_t hc) ho h1 r
  · exact (g2 (by first | exact hc | exact Decidable.not_not.mp hc)).pure fun p e s m args below meth c K T L k' n' X hT t r => XS.ifNo X.here K.1 rfl (hb K.2.1 hd) rfl (if0_lt_f (by first | exact hc | exact Decidable.not_not.mp hc)) r
theorem if0_ge_t {x : Int32} (h : ¬ x < 0) : ifCond.holds .ge x = true := by
  have e : ifCond.holds .ge x = if_icmp.holds .ge x 0 := rfl
  rw [e]; exact XT.ii_ge_t h
theorem if0_ge_f {x : Int32} (h : x < 0) : ifCond.holds .ge x = false := by
  have e : ifCond.holds .ge x = if_icmp.holds .ge x 0 := rfl
  rw [e]; exact XT.ii_ge_f h
theorem Go.if_ge {o : Int} {x : Int32} (q1 q2 : Nat) (hd : decode code pc = .ok (.ifCond .ge o, 3)) (ho : 0 ≤ (pc : Int) + o) (h1 : ((pc : Int) + o).toNat = q1) (h2 : pc + 3 = q2) (g1 : ¬ x < 0 → GoB wf l Z y code ml ret R Q k n h q1 Ls st) (g2 : x < 0 → GoB wf l Z y code ml ret R Q k n h q2 Ls st) : GoB wf l Z y code ml ret R Q k n h pc Ls (.int x :: st) := by
  subst h2
  by_cases hc : ¬ x < 0
  · exact (g1 hc).pure fun p e s m args below meth c K T L k' n' X hT t r => XS.ifYes X.here K.1 rfl rfl (hb K.2.1 hd) rfl (if0_ge_t hc) ho h1 r
  · exact (g2 (by first | exact hc | exact Decidable.not_not.mp hc)).pure fun p e s m args below meth c K T L k' n' X hT t r => XS.ifNo X.here K.1 rfl (hb K.2.1 hd) rfl (if0_ge_f (by first | exact hc | exact Decidable.not_not.mp hc)) r
theorem if0_gt_t {x : Int32} (h : 0 < x) : ifCond.holds .gt x = true := by
  have e : ifCond.holds .gt x = if_icmp.holds .gt x 0 := rfl
  rw [e]; exact XT.ii_gt_t h
theorem if0_gt_f {x : Int32} (h : ¬ 0 < x) : ifCond.holds .gt x = false := by
  have e : ifCond.holds .gt x = if_icmp.holds .gt x 0 := rfl
  rw [e]; exact XT.ii_gt_f h
theorem Go.if_gt {o : Int} {x : Int32} (q1 q2 : Nat) (hd : decode code pc = .ok (.ifCond .gt o, 3)) (ho : 0 ≤ (pc : Int) + o) (h1 : ((pc : Int) + o).toNat = q1) (h2 : pc + 3 = q2) (g1 : 0 < x → GoB wf l Z y code ml ret R Q k n h q1 Ls st) (g2 : ¬ 0 < x → GoB wf l Z y code ml ret R Q k n h q2 Ls st) : GoB wf l Z y code ml ret R Q k n h pc Ls (.int x :: st) := by
  subst h2
  by_cases hc : 0 < x
  · exact (g1 hc).pure fun p e s m args below meth c K T L k' n' X hT t r => XS.ifYes X.here K.1 rfl rfl (hb K.2.1 hd) rfl (if0_gt_t hc) ho h1 r
  · exact (g2 (by first | exact hc | exact Decidable.not_not.mp hc)).pure fun p e s m args below meth c K T L k' n' X hT t r => XS.ifNo X.here K.1 rfl (hb K.2.1 hd) rfl (if0_gt_f (by first | exact hc | exact Decidable.not_not.mp hc)) r
theorem if0_le_t {x : Int32} (h : ¬ 0 < x) : ifCond.holds .le x = true := by
  have e : ifCond.holds .le x = if_icmp.holds .le x 0 := rfl
  rw [e]; exact XT.ii_le_t h
theorem if0_le_f {x : Int32} (h : 0 < x) : ifCond.holds .le x = false := by
  have e : ifCond.holds .le x = if_icmp.holds .le x 0 := rfl
  rw [e]; exact XT.ii_le_f h
theorem Go.if_le {o : Int} {x : Int32} (q1 q2 : Nat) (hd : decode code pc = .ok (.ifCond .le o, 3)) (ho : 0 ≤ (pc : Int) + o) (h1 : ((pc : Int) + o).toNat = q1) (h2 : pc + 3 = q2) (g1 : ¬ 0 < x → GoB wf l Z y code ml ret R Q k n h q1 Ls st) (g2 : 0 < x → GoB wf l Z y code ml ret R Q k n h q2 Ls st) : GoB wf l Z y code ml ret R Q k n h pc Ls (.int x :: st) := by
  subst h2
  by_cases hc : ¬ 0 < x
  · exact (g1 hc).pure fun p e s m args below meth c K T L k' n' X hT t r => XS.ifYes X.here K.1 rfl rfl (hb K.2.1 hd) rfl (if0_le_t hc) ho h1 r
  · exact (g2 (by first | exact hc | exact Decidable.not_not.mp hc)).pure fun p e s m args below meth c K T L k' n' X hT t r => XS.ifNo X.here K.1 rfl (hb K.2.1 hd) rfl (if0_le_f (by first | exact hc | exact Decidable.not_not.mp hc)) r
theorem Go.ifnull_no {o : Int} {b : Addr} (q : Nat) (hd : decode code pc = .ok (.ifnull o, 3)) (hq : pc + 3 = q) (g : GoB wf l Z y code ml ret R Q k n h q Ls st) : GoB wf l Z y code ml ret R Q k n h pc Ls (.ref b :: st) := by
  subst hq; exact g.pure fun p e s m args below meth c K T L k' n' X hT t r => XS.ifnullNo X.here K.1 rfl (hb K.2.1 hd) rfl r
theorem Go.ifnull_yes {o : Int} (q : Nat) (hd : decode code pc = .ok (.ifnull o, 3)) (ho : 0 ≤ (pc : Int) + o) (hq : ((pc : Int) + o).toNat = q) (g : GoB wf l Z y code ml ret R Q k n h q Ls st) : GoB wf l Z y code ml ret R Q k n h pc Ls (.null :: st) :=
  g.pure fun p e s m args below meth c K T L k' n' X hT t r => XS.ifnullYes X.here K.1 rfl rfl (hb K.2.1 hd) rfl ho hq r
theorem Go.ifnonnull_yes {o : Int} {b : Addr} (q : Nat) (hd : decode code pc = .ok (.ifnonnull o, 3)) (ho : 0 ≤ (pc : Int) + o) (hq : ((pc : Int) + o).toNat = q) (g : GoB wf l Z y code ml ret R Q k n h q Ls st) : GoB wf l Z y code ml ret R Q k n h pc Ls (.ref b :: st) :=
  g.pure fun p e s m args below meth c K T L k' n' X hT t r => XT.ifnonnullYes X.here K.1 rfl rfl (hb K.2.1 hd) rfl ho hq r
theorem Go.ifnonnull_no {o : Int} (q : Nat) (hd : decode code pc = .ok (.ifnonnull o, 3)) (hq : pc + 3 = q) (g : GoB wf l Z y code ml ret R Q k n h q Ls st) : GoB wf l Z y code ml ret R Q k n h pc Ls (.null :: st) := by
  subst hq; exact g.pure fun p e s m args below meth c K T L k' n' X hT t r => XT.ifnonnullNo X.here K.1 rfl (hb K.2.1 hd) rfl r
theorem Go.acmp {cd : ACond} {o : Int} {x z : Value} (q : Nat) (same : Bool) (hd : decode code pc = .ok (.if_acmp cd o, 3)) (h1 : x.isRef = true) (h2 : z.isRef = true) (hs : decide (x = z) = same) (ho : 0 ≤ (pc : Int) + o) (hq : q = if acV cd same = true then ((pc : Int) + o).toNat else pc + 3) (g : GoB wf l Z y code ml ret R Q k n h q Ls st) : GoB wf l Z y code ml ret R Q k n h pc Ls (z :: x :: st) :=
  g.pure fun p e s m args below meth c K T L k' n' X hT t r => Jvm.RoadKit.acmp X K.1 rfl h1 h2 rfl (hb K.2.1 hd) rfl hs ho hq r
theorem Go.acmp_eq {o : Int} {x z : Addr} (q1 q2 : Nat) (hd : decode code pc = .ok (.if_acmp .eq o, 3)) (ho : 0 ≤ (pc : Int) + o) (h1 : ((pc : Int) + o).toNat = q1) (h2 : pc + 3 = q2) (g1 : x = z → GoB wf l Z y code ml ret R Q k n h q1 Ls st) (g2 : ¬ x = z → GoB wf l Z y code ml ret R Q k n h q2 Ls st) : GoB wf l Z y code ml ret R Q k n h pc Ls (.ref z :: .ref x :: st) := by
  subst h1 h2
  by_cases hc : x = z
  · exact Go.acmp _ true hd rfl rfl (by simp [hc]) ho rfl (by simpa [acV] using g1 hc)
  · exact Go.acmp _ false hd rfl rfl (by simp [hc]) ho rfl (by simpa [acV] using g2 hc)
theorem Go.acmp_ne {o : Int} {x z : Addr} (q1 q2 : Nat) (hd : decode code pc = .ok (.if_acmp .ne o, 3)) (ho : 0 ≤ (pc : Int) + o) (h1 : ((pc : Int) + o).toNat = q1) (h2 : pc + 3 = q2) (g1 : ¬ x = z → GoB wf l Z y code ml ret R Q k n h q1 Ls st) (g2 : x = z → GoB wf l Z y code ml ret R Q k n h q2 Ls st) : GoB wf l Z y code ml ret R Q k n h pc Ls (.ref z :: .ref x :: st) := by
  subst h1 h2
  by_cases hc : x = z
  · exact Go.acmp _ true hd rfl rfl (by simp [hc]) ho rfl (by simpa [acV] using g2 hc)
  · exact Go.acmp _ false hd rfl rfl (by simp [hc]) ho rfl (by simpa [acV] using g1 hc)

theorem Go.retV {v : Value} {t : FieldType} {i : Instr} (hd : decode code pc = .ok (i, 1)) (hret : ret = some t) (hn : narrow t v = v)
    (hi : (i = .ireturn ∧ (t = .int ∨ t = .boolean ∨ t = .byte ∨ t = .char ∨ t = .short) ∧ ∃ z, v = .int z) ∨ (i = .lreturn ∧ t = .long ∧ ∃ z, v = .long z) ∨ (i = .dreturn ∧ t = .double ∧ ∃ z, v = .double z) ∨ (i = .freturn ∧ t = .float ∧ ∃ z, v = .float z) ∨ (i = .areturn ∧ t.isReference = true ∧ v.isRef = true))
    (hk : k ≤ R.cells) (hN : n ≤ R.slots) (hQ : Q (some v) h) : GoB wf l Z y code ml ret R Q k n h pc Ls (v :: st) := by
  intro p e s m args below meth c K T L k' n' X h1 h2 N hT
  refine ⟨s, some v, T, L, k', n', Or.inl rfl, X, Nat.le_trans h1 hk, Nat.le_trans h2 hN, N, hT ▸ hQ, fun e => ?_, fun fs hl => ?_⟩
  · rw [hret] at e; cases e
  · exact retOut X K.1 (K.2.2.2.2.2.1.trans hret) hn hi (hb K.2.1 hd) hl
theorem Go.ireturn {z : Int32} {P : Int32 → Heap → Prop} (hd : decode code pc = .ok (.ireturn, 1)) (hret : ret = some .int) (hk : k ≤ R.cells) (hN : n ≤ R.slots) (hP : P z h) : GoB wf l Z y code ml ret R (QI P) k n h pc Ls (.int z :: st) :=
  Go.retV hd hret rfl (Or.inl ⟨rfl, Or.inl rfl, z, rfl⟩) hk hN ⟨z, rfl, hP⟩
theorem Go.lreturn {z : Int64} {P : Int64 → Heap → Prop} (hd : decode code pc = .ok (.lreturn, 1)) (hret : ret = some .long) (hk : k ≤ R.cells) (hN : n ≤ R.slots) (hP : P z h) : GoB wf l Z y code ml ret R (QJ P) k n h pc Ls (.long z :: st) :=
  Go.retV hd hret rfl (Or.inr (Or.inl ⟨rfl, rfl, z, rfl⟩)) hk hN ⟨z, rfl, hP⟩
theorem Go.areturn {z : Value} {t : FieldType} {P : Value → Heap → Prop} (hd : decode code pc = .ok (.areturn, 1)) (hret : ret = some t) (ht : t.isReference = true) (hz : z.isRef = true) (hk : k ≤ R.cells) (hN : n ≤ R.slots) (hP : P z h) : GoB wf l Z y code ml ret R (QR P) k n h pc Ls (z :: st) := by
  refine Go.retV hd hret ?_ (Or.inr (Or.inr (Or.inr (Or.inr ⟨rfl, ht, hz⟩)))) hk hN ⟨z, rfl, hP⟩
  cases t <;> cases z <;> first | rfl | (simp [Value.isRef] at hz)
/-- a boolean, byte, char or short: narrowed -/
theorem Go.nreturn {z z' : Int32} {t : FieldType} {P : Int32 → Heap → Prop} (hd : decode code pc = .ok (.ireturn, 1)) (hret : ret = some t) (ht : t = .boolean ∨ t = .byte ∨ t = .char ∨ t = .short) (hz : nar t z = z') (hk : k ≤ R.cells) (hN : n ≤ R.slots) (hP : P z' h) : GoB wf l Z y code ml ret R (QI P) k n h pc Ls (.int z :: st) := by
  subst hz
  intro p e s m args below meth c K T L k' n' X h1 h2 N hT
  refine ⟨s, some (.int (nar t z)), T, L, k', n', Or.inl rfl, X, Nat.le_trans h1 hk, Nat.le_trans h2 hN, N, ⟨_, rfl, hT ▸ hP⟩, fun e => ?_, fun fs hl => ?_⟩
  · rw [hret] at e; cases e
  · exact retN X K.1 (K.2.2.2.2.2.1.trans hret) ht (hb K.2.1 hd) hl
theorem Go.vreturn {P : Heap → Prop} (hd : decode code pc = .ok (.return_, 1)) (hret : ret = none) (hk : k ≤ R.cells) (hN : n ≤ R.slots) (hP : P h) : GoB wf l Z y code ml ret R (QV P) k n h pc Ls [] := by
  intro p e s m args below meth c K T L k' n' X h1 h2 N hT
  exact ⟨s, none, T, L, k', n', Or.inl rfl, X, Nat.le_trans h1 hk, Nat.le_trans h2 hN, N, ⟨rfl, hT ▸ hP⟩, fun _ => rfl, fun fs hl => X.returnOut K.1 (K.2.2.2.2.2.1.trans hret) (hb K.2.1 hd) hl⟩
/-- the whole body, as a contract -/
theorem Go.met {as' : Array Value} (hx : plainFor y = true) (hent : ∀ m, entryFrame m as' ml = mkF m 0 Ls []) (G : Go l Z y code ml ret R Q 0 0 h 0 Ls []) (ws : List Jvm.Cond) :
    MetFree l y (head1 (Jvm.Cond.code y code ml ret :: ws) R) (fun a U => a = as' ∧ Z.Warmed39 U.vm ∧ U.heap = h) (fun _ _ _ _ _ => True) (fun _ U o U' => ∃ v L, o = .returned v ∧ (Q v U'.heap ∧ Fr Z.heap.size L) ∧ FrameEnd U o U' L R.cells R.slots) := by
  refine MetFree.of_bodySF hx hisR ?_
  intro p e s m args below meth c s₁ Bd hml hP hK
  obtain ⟨rfl, hZ, hh⟩ := hP
  have X0 : Stand p l e R s m args below meth c s₁ [] 0 0 := Stand.of_body Bd
  have e0 : s₁.heap = h := by rw [← hh, Bd.state]; rfl
  have hnm := (name_of_methodNamed Bd.named Bd.method).1
  obtain ⟨s', v, T', L', k'', n'', ok', X', b1, b2, N', q, hv, stp⟩ := G p e s m args below meth c ⟨Bd.exec, Bd.bytes, hZ, findClass_of_methodNamed Bd.named, hml, Bd.returns, Bd.notSynchronized, hnm⟩ s₁ [] 0 0 X0 (Nat.le_refl _) (Nat.le_refl _) (Fr.nil _) e0
  obtain rfl : s' = s := ok'.elim id (fun q => absurd q.1 (by decide))
  obtain ⟨fs, hr, hrun, hended, hW, hsame⟩ := X'.leave (v := v) (fun hh => hv (by rw [← Bd.returns]; exact hh))
  refine ⟨_, _, castTop (hent m) (stp fs hr), hrun, hended, v, L', rfl, ⟨q, N'⟩, ⟨_, rfl⟩, hW, hsame.mono b1 b2⟩


theorem Go.getfield {i : Nat} {O nm d : String} {a : Addr} {v : Value} (q : Nat) (hd : decode code pc = .ok (.getfield i, 3)) (w : (Cond.fieldLink y.cls i O nm d).before a0 Z = true) (F : Fld Z h a O nm d v) (hq : pc + 3 = q) (g : GoB wf l Z y code ml ret R Q k n h q Ls (v :: st)) : GoB wf l Z y code ml ret R Q k n h pc Ls (.ref a :: st) := by
  subst hq
  refine GoB.move (P := fun h' => h' = h) (kk := k) (nn := n) (fun h' e => e ▸ g) ?_
  intro p e s m args below meth c K T L k' n' X h1 h2 N hT
  obtain ⟨T', X', e', s'⟩ := getF X K.1 K.2.2.1 K.2.2.2.1 (host := "") (Or.inl w) Via.refl hT F (g := mkF m pc Ls (.ref a :: st)) rfl rfl (hb K.2.1 hd)
  exact ⟨T', L, k', n', X', h1, h2, N, e', s'⟩
theorem Go.getfieldN {i : Nat} {O nm d host : String} {a : Addr} {v : Value} (q : Nat) (hd : decode code pc = .ok (.getfield i, 3)) (w : (Cond.fieldLinkNest y.cls i O nm d host).before a0 Z = true) (F : Fld Z h a O nm d v) (hq : pc + 3 = q) (g : GoB wf l Z y code ml ret R Q k n h q Ls (v :: st)) : GoB wf l Z y code ml ret R Q k n h pc Ls (.ref a :: st) := by
  subst hq
  refine GoB.move (P := fun h' => h' = h) (kk := k) (nn := n) (fun h' e => e ▸ g) ?_
  intro p e s m args below meth c K T L k' n' X h1 h2 N hT
  obtain ⟨T', X', e', s'⟩ := getF X K.1 K.2.2.1 K.2.2.2.1 (host := host) (Or.inr w) Via.refl hT F (g := mkF m pc Ls (.ref a :: st)) rfl rfl (hb K.2.1 hd)
  exact ⟨T', L, k', n', X', h1, h2, N, e', s'⟩
theorem Go.getfieldU {i : Nat} {R0 O nm d : String} {a : Addr} {v : Value} (q : Nat) (hd : decode code pc = .ok (.getfield i, 3)) (w : (Cond.fieldLink y.cls i R0 nm d).before a0 Z = true) (via : Via Z R0 O nm d) (F : Fld Z h a O nm d v) (hq : pc + 3 = q) (g : GoB wf l Z y code ml ret R Q k n h q Ls (v :: st)) : GoB wf l Z y code ml ret R Q k n h pc Ls (.ref a :: st) := by
  subst hq
  refine GoB.move (P := fun h' => h' = h) (kk := k) (nn := n) (fun h' e => e ▸ g) ?_
  intro p e s m args below meth c K T L k' n' X h1 h2 N hT
  obtain ⟨T', X', e', s'⟩ := getF X K.1 K.2.2.1 K.2.2.2.1 (host := "") (Or.inl w) via hT F (g := mkF m pc Ls (.ref a :: st)) rfl rfl (hb K.2.1 hd)
  exact ⟨T', L, k', n', X', h1, h2, N, e', s'⟩
theorem Go.getstatic {i : Nat} {O nm d : String} {v : Value} (q : Nat) (hd : decode code pc = .ok (.getstatic i, 3)) (w : (Cond.fieldLink y.cls i O nm d).before a0 Z = true) (F : Sta Z h O nm d v) (hq : pc + 3 = q) (g : GoB wf l Z y code ml ret R Q k n h q Ls (v :: st)) : GoB wf l Z y code ml ret R Q k n h pc Ls st := by
  subst hq
  refine GoB.move (P := fun h' => h' = h) (kk := k) (nn := n) (fun h' e => e ▸ g) ?_
  intro p e s m args below meth c K T L k' n' X h1 h2 N hT
  obtain ⟨T', X', e', s'⟩ := getS X K.1 K.2.2.1 (host := "") K.2.2.2.1 w Via.refl hT F (g := mkF m pc Ls st) rfl (hb K.2.1 hd)
  exact ⟨T', L, k', n', X', h1, h2, N, e', s'⟩
theorem Go.putfield {i kk : Nat} {C O nm d : String} {ty : FieldType} {a : Addr} {v old : Value} (q : Nat) (hd : decode code pc = .ok (.putfield i, 3)) (w : (Cond.fieldLink y.cls i O nm d).before a0 Z = true) (F : Fld Z h a O nm d old) (E : Exa Z h a C) (hL : (Cond.lays C O nm d).before a0 Z = true ∨ ((Cond.laysFinal C O nm d).before a0 Z = true ∧ y.cls = O ∧ y.name = "<init>"))
    (wi : (Cond.instantiable C kk).before a0 Z = true) (hty : parseFieldDescriptor d = some ty) (hn : narrow ty v = v) (hf : fits ty v = true) (hge : Z.heap.size ≤ a) (hq : pc + 3 = q)
    (g : ∀ h', Wr h h' a (Jvm.RoadKit.slotOf Z O nm d) v → GoB wf l Z y code ml ret R Q k n h' q Ls st) : GoB wf l Z y code ml ret R Q k n h pc Ls (v :: .ref a :: st) := by
  subst hq
  refine GoB.move (P := fun h' => Wr h h' a (Jvm.RoadKit.slotOf Z O nm d) v) (kk := k) (nn := n) g ?_
  intro p e s m args below meth c K T L k' n' X h1 h2 N hT
  obtain ⟨T', h', X', e', W', s'⟩ := putF X K.1 K.2.2.1 K.2.2.2.1 (host := "") (Or.inl w) Via.refl hT F E (hL.imp id fun ⟨a1, a2, a3⟩ => ⟨a1, a2, K.2.2.2.2.2.2.2.trans a3⟩) wi hty hn hf (g := mkF m pc Ls (v :: .ref a :: st)) rfl rfl (hb K.2.1 hd)
  exact ⟨T', _, k', n', X', h1, h2, Fr.snoc X' N hge, e' ▸ W', s'⟩
theorem Go.putfieldU {i kk : Nat} {R0 C O nm d : String} {ty : FieldType} {a : Addr} {v old : Value} (q : Nat) (hd : decode code pc = .ok (.putfield i, 3)) (w : (Cond.fieldLink y.cls i R0 nm d).before a0 Z = true) (via : Via Z R0 O nm d) (F : Fld Z h a O nm d old) (E : Exa Z h a C) (hL : (Cond.lays C O nm d).before a0 Z = true ∨ ((Cond.laysFinal C O nm d).before a0 Z = true ∧ y.cls = O ∧ y.name = "<init>"))
    (wi : (Cond.instantiable C kk).before a0 Z = true) (hty : parseFieldDescriptor d = some ty) (hn : narrow ty v = v) (hf : fits ty v = true) (hge : Z.heap.size ≤ a) (hq : pc + 3 = q)
    (g : ∀ h', Wr h h' a (Jvm.RoadKit.slotOf Z O nm d) v → GoB wf l Z y code ml ret R Q k n h' q Ls st) : GoB wf l Z y code ml ret R Q k n h pc Ls (v :: .ref a :: st) := by
  subst hq
  refine GoB.move (P := fun h' => Wr h h' a (Jvm.RoadKit.slotOf Z O nm d) v) (kk := k) (nn := n) g ?_
  intro p e s m args below meth c K T L k' n' X h1 h2 N hT
  obtain ⟨T', h', X', e', W', s'⟩ := putF X K.1 K.2.2.1 K.2.2.2.1 (host := "") (Or.inl w) via hT F E (hL.imp id fun ⟨a1, a2, a3⟩ => ⟨a1, a2, K.2.2.2.2.2.2.2.trans a3⟩) wi hty hn hf (g := mkF m pc Ls (v :: .ref a :: st)) rfl rfl (hb K.2.1 hd)
  exact ⟨T', _, k', n', X', h1, h2, Fr.snoc X' N hge, e' ▸ W', s'⟩
/-- a field that narrows (boolean, byte, char, short) -/
theorem Go.putfieldN {i kk : Nat} {C O nm d : String} {ty : FieldType} {a : Addr} {v v' old : Value} (q : Nat) (hd : decode code pc = .ok (.putfield i, 3)) (w : (Cond.fieldLink y.cls i O nm d).before a0 Z = true) (F : Fld Z h a O nm d old) (E : Exa Z h a C) (hL : (Cond.lays C O nm d).before a0 Z = true ∨ ((Cond.laysFinal C O nm d).before a0 Z = true ∧ y.cls = O ∧ y.name = "<init>"))
    (wi : (Cond.instantiable C kk).before a0 Z = true) (hty : parseFieldDescriptor d = some ty) (hn : narrow ty v = v') (hf : fits ty v' = true) (hge : Z.heap.size ≤ a) (hq : pc + 3 = q)
    (g : ∀ h', Wr h h' a (Jvm.RoadKit.slotOf Z O nm d) v' → GoB wf l Z y code ml ret R Q k n h' q Ls st) : GoB wf l Z y code ml ret R Q k n h pc Ls (v :: .ref a :: st) := by
  subst hq
  refine GoB.move (P := fun h' => Wr h h' a (Jvm.RoadKit.slotOf Z O nm d) v') (kk := k) (nn := n) g ?_
  intro p e s m args below meth c K T L k' n' X h1 h2 N hT
  obtain ⟨T', h', X', e', W', s'⟩ := putFN X K.1 K.2.2.1 K.2.2.2.1 w Via.refl hT F E (hL.imp id fun ⟨a1, a2, a3⟩ => ⟨a1, a2, K.2.2.2.2.2.2.2.trans a3⟩) wi hty hn hf (g := mkF m pc Ls (v :: .ref a :: st)) rfl rfl (hb K.2.1 hd)
  exact ⟨T', _, k', n', X', h1, h2, Fr.snoc X' N hge, e' ▸ W', s'⟩
theorem Go.new {i sz : Nat} {C : String} (q : Nat) (hd : decode code pc = .ok (.new i, 3)) (w : (Cond.classLink y.cls i C).before a0 Z = true) (wi : (Cond.instantiable C sz).before a0 Z = true) (wz : (Cond.initialized C).before a0 Z = true) (hk : k + 1 ≤ R.cells) (hN : n + sz ≤ R.slots) (hq : pc + 3 = q)
    (g : ∀ (a : Addr) h', a = h.size → Ext h h' → Exa Z h' a C → (∀ {O nm d : String} {ty : FieldType}, Laid Z a0 C O nm d → parseFieldDescriptor d = some ty → Fld Z h' a O nm d (defaultValue ty)) → GoB wf l Z y code ml ret R Q (k + 1) (n + sz) h' q Ls (.ref a :: st)) : GoB wf l Z y code ml ret R Q k n h pc Ls st := by
  subst hq
  refine GoB.move (P := fun h' => Ext h h' ∧ Exa Z h' h.size C ∧ (∀ {O nm d : String} {ty : FieldType}, Laid Z a0 C O nm d → parseFieldDescriptor d = some ty → Fld Z h' h.size O nm d (defaultValue ty))) (kk := k + 1) (nn := n + sz) (fun h' p => g h.size h' rfl p.1 p.2.1 p.2.2) ?_
  intro p e s m args below meth c K T L k' n' X h1 h2 N hT
  obtain ⟨T', h', X', e', E', A', D', -, s'⟩ := newO X K.1 K.2.2.1 K.2.2.2.1 w wi wz hT (g := mkF m pc Ls st) rfl (hb K.2.1 hd) (Nat.le_trans (Nat.add_le_add_right h1 1) hk) (Nat.le_trans (Nat.add_le_add_right h2 sz) hN)
  subst e'
  exact ⟨T', L, k' + 1, n' + sz, X', Nat.add_le_add_right h1 1, Nat.add_le_add_right h2 sz, N, ⟨E', A', D'⟩, s'⟩
theorem Go.initO {i : Nat} {a : Addr} (W : Nat) (q : Nat) (hd : decode code pc = .ok (.invokespecial i, 3)) (w1 : (Cond.methodLink y.cls i Lib.objectInit).before a0 Z = true) (w2 : (Cond.instanceMethod Lib.objectInit).before a0 Z = true) (w3 : (Cond.code Lib.objectInit ⟨#[0xb1]⟩ 1 none).before a0 Z = true)
    (hsz : Ls.size = ml) (hf : 1 ≤ R.frames) (hW : (st.map fun v => v.category).sum ≤ W) (hl : W + 12 ≤ R.locals) (hq : pc + 3 = q) (g : GoB wf l Z y code ml ret R Q k n h q Ls st) : GoB wf l Z y code ml ret R Q k n h pc Ls (.ref a :: st) := by
  subst hq
  refine GoB.move (P := fun h' => h' = h) (kk := k) (nn := n) (fun h' e => e ▸ g) ?_
  intro p e s m args below meth c K T L k' n' X h1 h2 N hT
  obtain ⟨T', X', e', s'⟩ := Jvm.RoadKit.initO X K.1 K.2.2.1 K.2.2.2.1 w1 w2 w3 hT (g := mkF m pc Ls (.ref a :: st)) rfl (hsz.trans K.2.2.2.2.1.symm) rfl (hb K.2.1 hd) hf (W := W) (by show 2 * 0 + _ ≤ _; rw [Nat.mul_zero, Nat.zero_add]; exact hW) hl
  exact ⟨T', L, k', n', X', h1, h2, N, e', s'⟩


section Calls
variable {y' : MethodName} {code' : ByteArray} {ml' : Nat} {ret' : Option FieldType} {R' : Room} {Q' : Option Value → Heap → Prop} {Ls' : Array Slot} {i W : Nat}
theorem Go.callS (argsL : List Value) (rest : List Value) (q : Nat) (hd : decode code pc = .ok (.invokestatic i, 3)) (w1 : (Cond.methodLink y.cls i y').before a0 Z = true) (w2 : (Cond.static y').before a0 Z = true) (w3 : (Cond.initialized y'.cls).before a0 Z = true) (w4 : (Cond.code y' code' ml' ret').before a0 Z = true)
    (hpl : plainFor y' = true) (hy : y'.cls ≠ "java/lang/invoke/MethodHandle" ∧ y'.cls ≠ "java/lang/invoke/VarHandle") (hlen : ∀ sig, parseMethodDescriptor y'.desc = some sig → argsL.length = sig.parameters.length) (hst : st = argsL.reverse ++ rest) (hent : ∀ m, entryFrame m argsL.toArray ml' = mkF m 0 Ls' [])
    (G : Go l Z y' code' ml' ret' R' Q' 0 0 h 0 Ls' []) (W : Nat) (hsz : Ls.size = ml) (hW : (rest.map fun v => v.category).sum ≤ W) (hf : R'.frames + 1 ≤ R.frames) (hl : W + (ml' + 11) + R'.locals ≤ R.locals) (hk : k + R'.cells ≤ R.cells) (hN : n + R'.slots ≤ R.slots) (hq : pc + 3 = q)
    (g : ∀ v h', Q' v h' → GoB wf l Z y code ml ret R Q (k + R'.cells) (n + R'.slots) h' q Ls (v.toList ++ rest)) : GoB wf l Z y code ml ret R Q k n h pc Ls st := by
  subst hq
  intro p e s m args below meth c K T L k' n' X h1 h2 N hT
  obtain ⟨v, vm₁, ⟨T', L', k'', n''⟩, -, X', ⟨Lc, ⟨hQ, N'⟩, e1, e2, e3⟩, s'⟩ := Jvm.LawKit.callS X K.1 K.2.2.2.1 (mvT K.2.2.1 w1) (mvT K.2.2.1 w2) (mvT K.2.2.1 w3) (mvT K.2.2.1 w4) hy (backOf (W := W) (Q := fun v h L => Q' v h ∧ Fr Z.heap.size L) (Go.met hpl hent G []) K.2.2.1 w4 w3 hf hl) (g := mkF m pc Ls st) rfl (hsz.trans K.2.2.2.2.1.symm) (argsL := argsL) (rest := rest) hlen hst (by show 2 * 0 + _ ≤ _; rw [Nat.mul_zero, Nat.zero_add]; exact hW) (hb K.2.1 hd) (fun _ _ => ⟨rfl, hT, Nat.le_trans (Nat.add_le_add_right h1 _) hk, Nat.le_trans (Nat.add_le_add_right h2 _) hN⟩)
  dsimp only [Pt.U, Pt.locs, Pt.cells, Pt.slots] at X' e1 e2 e3 s' hQ
  subst e1 e2 e3
  obtain ⟨s2, v2, T2, L2, k2, n2, ok2, X2, b1, b2, N2, q2, hv, stp⟩ := g v _ hQ p e s m args below meth c K T' _ _ _ X' (Nat.add_le_add_right h1 _) (Nat.add_le_add_right h2 _) (Fr.app N N') rfl
  exact ⟨s2, v2, T2, L2, k2, n2, ok2, X2, b1, b2, N2, q2, hv, fun fs hl => s' _ (stp fs hl)⟩
theorem Go.callC {a : Addr} (argsL : List Value) (rest : List Value) (q : Nat) (hd : decode code pc = .ok (.invokespecial i, 3)) (hy1 : y'.name = "<init>") (w1 : (Cond.methodLink y.cls i y').before a0 Z = true) (w2 : (Cond.instanceMethod y').before a0 Z = true) (w3 : (Cond.initialized y'.cls).before a0 Z = true) (w4 : (Cond.code y' code' ml' none).before a0 Z = true)
    (hpl : plainFor y' = true) (hy : y'.cls ≠ "java/lang/invoke/MethodHandle" ∧ y'.cls ≠ "java/lang/invoke/VarHandle") (hlen : ∀ sig, parseMethodDescriptor y'.desc = some sig → argsL.length = sig.parameters.length) (hst : st = argsL.reverse ++ .ref a :: rest) (hent : ∀ m, entryFrame m (.ref a :: argsL).toArray ml' = mkF m 0 Ls' [])
    (P' : Heap → Prop) (G : Go l Z y' code' ml' none R' (QV P') 0 0 h 0 Ls' []) (W : Nat) (hsz : Ls.size = ml) (hW : (rest.map fun v => v.category).sum ≤ W) (hf : R'.frames + 1 ≤ R.frames) (hl : W + (ml' + 11) + R'.locals ≤ R.locals) (hk : k + R'.cells ≤ R.cells) (hN : n + R'.slots ≤ R.slots) (hq : pc + 3 = q)
    (g : ∀ h', P' h' → GoB wf l Z y code ml ret R Q (k + R'.cells) (n + R'.slots) h' q Ls rest) : GoB wf l Z y code ml ret R Q k n h pc Ls st := by
  subst hq
  intro p e s m args below meth c K T L k' n' X h1 h2 N hT
  obtain ⟨v, vm₁, ⟨T', L', k'', n''⟩, -, X', ⟨Lc, ⟨⟨rfl, hQ⟩, N'⟩, e1, e2, e3⟩, s'⟩ := X.specialBack K.1 hy1 K.2.2.2.1 (mvT K.2.2.1 w1) (mvT K.2.2.1 w2) (mvT K.2.2.1 w4) hy (backOf (W := W) (Q := fun v h L => QV P' v h ∧ Fr Z.heap.size L) (Go.met hpl hent G []) K.2.2.1 w4 w3 hf hl) (g := mkF m pc Ls st) rfl (hsz.trans K.2.2.2.2.1.symm) (Steps.refl _) (a := a) (argsL := argsL) (rest := rest) hlen hst (by show 2 * 0 + _ ≤ _; rw [Nat.mul_zero, Nat.zero_add]; exact hW) (hb K.2.1 hd) (fun _ _ => ⟨rfl, hT, Nat.le_trans (Nat.add_le_add_right h1 _) hk, Nat.le_trans (Nat.add_le_add_right h2 _) hN⟩)
  dsimp only [Pt.U, Pt.locs, Pt.cells, Pt.slots] at X' e1 e2 e3 s' hQ
  subst e1 e2 e3
  obtain ⟨s2, v2, T2, L2, k2, n2, ok2, X2, b1, b2, N2, q2, hv, stp⟩ := g _ hQ p e s m args below meth c K T' _ _ _ X' (Nat.add_le_add_right h1 _) (Nat.add_le_add_right h2 _) (Fr.app N N') rfl
  exact ⟨s2, v2, T2, L2, k2, n2, ok2, X2, b1, b2, N2, q2, hv, fun fs hl => s'.trans (stp fs hl)⟩
theorem Go.callV {a : Addr} {C : String} (argsL : List Value) (rest : List Value) (q : Nat) (hd : decode code pc = .ok (.invokevirtual i, 3)) (w1 : (Cond.methodLink y.cls i y').before a0 Z = true) (w1' : (Cond.declares y').before a0 Z = true) (w1s : (Cond.selects C y' y').before a0 Z = true) (w2 : (Cond.instanceMethod y').before a0 Z = true) (w3 : (Cond.initialized y'.cls).before a0 Z = true) (w4 : (Cond.code y' code' ml' ret').before a0 Z = true) (E : Exa Z h a C)
    (hpl : plainFor y' = true) (hy : y'.cls ≠ "java/lang/invoke/MethodHandle" ∧ y'.cls ≠ "java/lang/invoke/VarHandle") (hlen : ∀ sig, parseMethodDescriptor y'.desc = some sig → argsL.length = sig.parameters.length) (hst : st = argsL.reverse ++ .ref a :: rest) (hent : ∀ m, entryFrame m (.ref a :: argsL).toArray ml' = mkF m 0 Ls' [])
    (G : Go l Z y' code' ml' ret' R' Q' 0 0 h 0 Ls' []) (W : Nat) (hsz : Ls.size = ml) (hW : (rest.map fun v => v.category).sum ≤ W) (hf : R'.frames + 1 ≤ R.frames) (hl : W + (ml' + 11) + R'.locals ≤ R.locals) (hk : k + R'.cells ≤ R.cells) (hN : n + R'.slots ≤ R.slots) (hq : pc + 3 = q)
    (g : ∀ v h', Q' v h' → GoB wf l Z y code ml ret R Q (k + R'.cells) (n + R'.slots) h' q Ls (v.toList ++ rest)) : GoB wf l Z y code ml ret R Q k n h pc Ls st := by
  subst hq
  intro p e s m args below meth c K T L k' n' X h1 h2 N hT
  obtain ⟨cq, kq, qa, qb, qc⟩ := isOf K.2.2.1 hT E
  obtain ⟨v, vm₁, ⟨T', L', k'', n''⟩, -, X', ⟨Lc, ⟨hQ, N'⟩, e1, e2, e3⟩, s'⟩ := X.virtualBack K.1 K.2.2.2.1 (mvT K.2.2.1 w1) (mvT K.2.2.1 w1') (notFace_of_selects (args := #[]) (mvT K.2.2.1 w1s)) (mvT K.2.2.1 w1s) (mvT K.2.2.1 w2) hy (backOf (W := W) (Q := fun v h L => Q' v h ∧ Fr Z.heap.size L) (Go.met hpl hent G []) K.2.2.1 w4 w3 hf hl) qa qc (g := mkF m pc Ls st) rfl (hsz.trans K.2.2.2.2.1.symm) (Steps.refl _) (argsL := argsL) (rest := rest) hlen hst (by show 2 * 0 + _ ≤ _; rw [Nat.mul_zero, Nat.zero_add]; exact hW) (hb K.2.1 hd) (fun _ _ => ⟨rfl, hT, Nat.le_trans (Nat.add_le_add_right h1 _) hk, Nat.le_trans (Nat.add_le_add_right h2 _) hN⟩)
  dsimp only [Pt.U, Pt.locs, Pt.cells, Pt.slots] at X' e1 e2 e3 s' hQ
  subst e1 e2 e3
  obtain ⟨s2, v2, T2, L2, k2, n2, ok2, X2, b1, b2, N2, q2, hv, stp⟩ := g v _ hQ p e s m args below meth c K T' _ _ _ X' (Nat.add_le_add_right h1 _) (Nat.add_le_add_right h2 _) (Fr.app N N') rfl
  exact ⟨s2, v2, T2, L2, k2, n2, ok2, X2, b1, b2, N2, q2, hv, fun fs hl => s'.trans (stp fs hl)⟩
theorem Go.callU {a : Addr} {C owner : String} {yr : MethodName} (argsL : List Value) (rest : List Value) (q : Nat) (hd : decode code pc = .ok (.invokevirtual i, 3)) (w1 : (Cond.methodLink y.cls i yr).before a0 Z = true) (w1m : (Cond.sameMethod yr.cls owner yr.name yr.desc).before a0 Z = true) (w1' : (Cond.declares ⟨owner, yr.name, yr.desc⟩).before a0 Z = true) (w1s : (Cond.selects C yr y').before a0 Z = true) (w2 : (Cond.instanceMethod y').before a0 Z = true) (w3 : (Cond.initialized y'.cls).before a0 Z = true) (w4 : (Cond.code y' code' ml' ret').before a0 Z = true) (E : Exa Z h a C)
    (hpl : plainFor y' = true) (hy : owner ≠ "java/lang/invoke/MethodHandle" ∧ owner ≠ "java/lang/invoke/VarHandle") (hlen : ∀ sig, parseMethodDescriptor yr.desc = some sig → argsL.length = sig.parameters.length) (hst : st = argsL.reverse ++ .ref a :: rest) (hent : ∀ m, entryFrame m (.ref a :: argsL).toArray ml' = mkF m 0 Ls' [])
    (G : Go l Z y' code' ml' ret' R' Q' 0 0 h 0 Ls' []) (W : Nat) (hsz : Ls.size = ml) (hW : (rest.map fun v => v.category).sum ≤ W) (hf : R'.frames + 1 ≤ R.frames) (hl : W + (ml' + 11) + R'.locals ≤ R.locals) (hk : k + R'.cells ≤ R.cells) (hN : n + R'.slots ≤ R.slots) (hq : pc + 3 = q)
    (g : ∀ v h', Q' v h' → GoB wf l Z y code ml ret R Q (k + R'.cells) (n + R'.slots) h' q Ls (v.toList ++ rest)) : GoB wf l Z y code ml ret R Q k n h pc Ls st := by
  subst hq
  intro p e s m args below meth c K T L k' n' X h1 h2 N hT
  obtain ⟨cq, kq, qa, qb, qc⟩ := isOf K.2.2.1 hT E
  obtain ⟨v, vm₁, ⟨T', L', k'', n''⟩, -, X', ⟨Lc, ⟨hQ, N'⟩, e1, e2, e3⟩, s'⟩ := X.virtualBackUp K.1 K.2.2.2.1 (mvT K.2.2.1 w1) (mvT K.2.2.1 w1m) (mvT K.2.2.1 w1') hy (mvT K.2.2.1 w1s) (mvT K.2.2.1 w2) (backOf (W := W) (Q := fun v h L => Q' v h ∧ Fr Z.heap.size L) (Go.met hpl hent G []) K.2.2.1 w4 w3 hf hl) qa qc (g := mkF m pc Ls st) rfl (hsz.trans K.2.2.2.2.1.symm) (Steps.refl _) (argsL := argsL) (rest := rest) hlen hst (by show 2 * 0 + _ ≤ _; rw [Nat.mul_zero, Nat.zero_add]; exact hW) (hb K.2.1 hd) (fun _ _ => ⟨rfl, hT, Nat.le_trans (Nat.add_le_add_right h1 _) hk, Nat.le_trans (Nat.add_le_add_right h2 _) hN⟩)
  dsimp only [Pt.U, Pt.locs, Pt.cells, Pt.slots] at X' e1 e2 e3 s' hQ
  subst e1 e2 e3
  obtain ⟨s2, v2, T2, L2, k2, n2, ok2, X2, b1, b2, N2, q2, hv, stp⟩ := g v _ hQ p e s m args below meth c K T' _ _ _ X' (Nat.add_le_add_right h1 _) (Nat.add_le_add_right h2 _) (Fr.app N N') rfl
  exact ⟨s2, v2, T2, L2, k2, n2, ok2, X2, b1, b2, N2, q2, hv, fun fs hl => s'.trans (stp fs hl)⟩
theorem own_ni {C : String} {z z' : MethodName} (ws : (Cond.selects C z z').before a0 Z = true) : ∃ (c : ClassId) (kk : Class), Z.vm.findClass z'.cls = some c ∧ Z.vm.classes[c]? = some kk ∧ kk.isInterface = false := by
  obtain ⟨c2, r2, m2, -, -, q3, -, kP, hkP, hkPi⟩ := Cond.selects_spec ws
  exact ⟨_, kP, findClass_of_methodNamed q3, hkP, hkPi⟩
theorem own_same {C : String} {z z' y' : MethodName} (ws : (Cond.selects C z z').before a0 Z = true) (hz : z'.cls = y'.cls) (wi : (Cond.instanceMethod y').before a0 Z = true) (hy : y'.cls ≠ "java/lang/invoke/MethodHandle" ∧ y'.cls ≠ "java/lang/invoke/VarHandle") : (Cond.sameMethod y'.cls y'.cls y'.name y'.desc).before a0 Z = true := by
  obtain ⟨c, kk, h1, h2, h3⟩ := own_ni ws
  rw [hz] at h1
  obtain ⟨mk, methM, hnamed, -, -, -⟩ := Cond.instanceMethod_spec wi
  have hfound := State.methodFound?_of_named hnamed hy
  simp only [Cond.before, Cond.holds, Cond.value, h1, hfound, hnamed, h2]
  simp; exact h3
theorem own_selp {C : String} {z z' y' : MethodName} (ws : (Cond.selects C z z').before a0 Z = true) (hz : z'.cls = y'.cls) (wi : (Cond.instanceMethod y').before a0 Z = true) (wp : (Cond.privateMethod y').before a0 Z = true) (hy : y'.cls ≠ "java/lang/invoke/MethodHandle" ∧ y'.cls ≠ "java/lang/invoke/VarHandle") : (Cond.selects y'.cls y' y').before a0 Z = true := by
  obtain ⟨c, kk, h1, h2, h3⟩ := own_ni ws
  rw [hz] at h1
  exact selects_self_of_private h1 h2 h3 (Cond.privateMethod_at wp) wi hy
theorem Go.callP {a : Addr} {C : String} (argsL : List Value) (rest : List Value) (q : Nat) (hd : decode code pc = .ok (.invokespecial i, 3)) (hn : y'.name ≠ "<init>") (w1 : (Cond.methodLink y.cls i y').before a0 Z = true) (w1m : (Cond.sameMethod y'.cls y'.cls y'.name y'.desc).before a0 Z = true) (w1s : (Cond.superclass y.cls y'.cls).before a0 Z = true) (w2 : (Cond.instanceMethod y').before a0 Z = true) (w3 : (Cond.initialized y'.cls).before a0 Z = true) (w4 : (Cond.code y' code' ml' ret').before a0 Z = true) (E : Exa Z h a C)
    (hpl : plainFor y' = true) (hy : y'.cls ≠ "java/lang/invoke/MethodHandle" ∧ y'.cls ≠ "java/lang/invoke/VarHandle") (hlen : ∀ sig, parseMethodDescriptor y'.desc = some sig → argsL.length = sig.parameters.length) (hst : st = argsL.reverse ++ .ref a :: rest) (hent : ∀ m, entryFrame m (.ref a :: argsL).toArray ml' = mkF m 0 Ls' [])
    (G : Go l Z y' code' ml' ret' R' Q' 0 0 h 0 Ls' []) (W : Nat) (hsz : Ls.size = ml) (hW : (rest.map fun v => v.category).sum ≤ W) (hf : R'.frames + 1 ≤ R.frames) (hl : W + (ml' + 11) + R'.locals ≤ R.locals) (hk : k + R'.cells ≤ R.cells) (hN : n + R'.slots ≤ R.slots) (hq : pc + 3 = q)
    (g : ∀ v h', Q' v h' → GoB wf l Z y code ml ret R Q (k + R'.cells) (n + R'.slots) h' q Ls (v.toList ++ rest)) : GoB wf l Z y code ml ret R Q k n h pc Ls st := by
  subst hq
  intro p e s m args below meth c K T L k' n' X h1 h2 N hT
  obtain ⟨v, vm₁, ⟨T', L', k'', n''⟩, -, X', ⟨Lc, ⟨hQ, N'⟩, e1, e2, e3⟩, s'⟩ := superBack X K.1 K.2.2.1 K.2.2.2.1 w1 w1m w2 w1s hn (backOf (W := W) (Q := fun v h L => Q' v h ∧ Fr Z.heap.size L) (Go.met hpl hent G []) K.2.2.1 w4 w3 hf hl) hT (Ins.self E) (g := mkF m pc Ls st) rfl (hsz.trans K.2.2.2.2.1.symm) w4 (argsL := argsL) (rest := rest) hlen hst (by show 2 * 0 + _ ≤ _; rw [Nat.mul_zero, Nat.zero_add]; exact hW) (hb K.2.1 hd) (fun _ _ => ⟨rfl, hT, Nat.le_trans (Nat.add_le_add_right h1 _) hk, Nat.le_trans (Nat.add_le_add_right h2 _) hN⟩)
  dsimp only [Pt.U, Pt.locs, Pt.cells, Pt.slots] at X' e1 e2 e3 s' hQ
  subst e1 e2 e3
  obtain ⟨s2, v2, T2, L2, k2, n2, ok2, X2, b1, b2, N2, q2, hv, stp⟩ := g v _ hQ p e s m args below meth c K T' _ _ _ X' (Nat.add_le_add_right h1 _) (Nat.add_le_add_right h2 _) (Fr.app N N') rfl
  exact ⟨s2, v2, T2, L2, k2, n2, ok2, X2, b1, b2, N2, q2, hv, fun fs hl => s'.trans (stp fs hl)⟩
theorem Go.callQ {a : Addr} {C : String} (argsL : List Value) (rest : List Value) (q : Nat) (hd : decode code pc = .ok (.invokevirtual i, 3)) (w1 : (Cond.methodLink y.cls i y').before a0 Z = true) (w1p : (Cond.privateMethod y').before a0 Z = true) (w1s : (Cond.selects y'.cls y' y').before a0 Z = true) (w2 : (Cond.instanceMethod y').before a0 Z = true) (w3 : (Cond.initialized y'.cls).before a0 Z = true) (w4 : (Cond.code y' code' ml' ret').before a0 Z = true) (E : Exa Z h a C)
    (hpl : plainFor y' = true) (hy : y'.cls ≠ "java/lang/invoke/MethodHandle" ∧ y'.cls ≠ "java/lang/invoke/VarHandle") (hlen : ∀ sig, parseMethodDescriptor y'.desc = some sig → argsL.length = sig.parameters.length) (hst : st = argsL.reverse ++ .ref a :: rest) (hent : ∀ m, entryFrame m (.ref a :: argsL).toArray ml' = mkF m 0 Ls' [])
    (G : Go l Z y' code' ml' ret' R' Q' 0 0 h 0 Ls' []) (W : Nat) (hsz : Ls.size = ml) (hW : (rest.map fun v => v.category).sum ≤ W) (hf : R'.frames + 1 ≤ R.frames) (hl : W + (ml' + 11) + R'.locals ≤ R.locals) (hk : k + R'.cells ≤ R.cells) (hN : n + R'.slots ≤ R.slots) (hq : pc + 3 = q)
    (g : ∀ v h', Q' v h' → GoB wf l Z y code ml ret R Q (k + R'.cells) (n + R'.slots) h' q Ls (v.toList ++ rest)) : GoB wf l Z y code ml ret R Q k n h pc Ls st := by
  subst hq
  intro p e s m args below meth c K T L k' n' X h1 h2 N hT
  obtain ⟨cell, qa, qb⟩ := E.cell
  obtain ⟨v, vm₁, ⟨T', L', k'', n''⟩, -, X', ⟨Lc, ⟨hQ, N'⟩, e1, e2, e3⟩, s'⟩ := X.privateBack K.1 K.2.2.2.1 (mvT K.2.2.1 w1) (mvT K.2.2.1 w2) (mvT K.2.2.1 w1s) (Cond.privateMethod_at (args := #[]) (mvP K.2.2.1 w1p)) (mvT K.2.2.1 w4) hy (backOf (W := W) (Q := fun v h L => Q' v h ∧ Fr Z.heap.size L) (Go.met hpl hent G []) K.2.2.1 w4 w3 hf hl) (g := mkF m pc Ls st) rfl (hsz.trans K.2.2.2.2.1.symm) (Steps.refl _) (a := a) (cell := cell) (by rw [hT]; exact qa) qb (argsL := argsL) (rest := rest) hlen hst (by show 2 * 0 + _ ≤ _; rw [Nat.mul_zero, Nat.zero_add]; exact hW) (hb K.2.1 hd) (fun _ _ => ⟨rfl, hT, Nat.le_trans (Nat.add_le_add_right h1 _) hk, Nat.le_trans (Nat.add_le_add_right h2 _) hN⟩)
  dsimp only [Pt.U, Pt.locs, Pt.cells, Pt.slots] at X' e1 e2 e3 s' hQ
  subst e1 e2 e3
  obtain ⟨s2, v2, T2, L2, k2, n2, ok2, X2, b1, b2, N2, q2, hv, stp⟩ := g v _ hQ p e s m args below meth c K T' _ _ _ X' (Nat.add_le_add_right h1 _) (Nat.add_le_add_right h2 _) (Fr.app N N') rfl
  exact ⟨s2, v2, T2, L2, k2, n2, ok2, X2, b1, b2, N2, q2, hv, fun fs hl => s'.trans (stp fs hl)⟩
theorem own_nf {s : State} {args : Array Value} {C : String} {z z' yr : MethodName} (ws : (Cond.selects C z z').before args s = true) (hz : z'.cls = yr.cls) : NotFace s yr := fun r0 hn => by
  obtain ⟨c2, r2, m2, -, -, q3, -, kP, hkP, hkPi⟩ := Cond.selects_spec ws
  have e1 := findClass_of_methodNamed q3
  have e2 := findClass_of_methodNamed hn
  rw [hz] at e1
  have e3 := Option.some.inj (e1.symm.trans e2)
  rw [e3] at hkP
  exact ⟨kP, hkP, hkPi⟩
theorem Go.callO {a : Addr} {C : String} {yr z z' : MethodName} {C2 : String} (argsL : List Value) (rest : List Value) (q : Nat) (hd : decode code pc = .ok (.invokevirtual i, 3)) (w1 : (Cond.methodLink y.cls i yr).before a0 Z = true) (w1' : (Cond.declares yr).before a0 Z = true) (w1s : (Cond.selects C yr y').before a0 Z = true) (wnf : (Cond.selects C2 z z').before a0 Z = true) (hz : z'.cls = yr.cls) (w2 : (Cond.instanceMethod y').before a0 Z = true) (w3 : (Cond.initialized y'.cls).before a0 Z = true) (w4 : (Cond.code y' code' ml' ret').before a0 Z = true) (E : Exa Z h a C)
    (hpl : plainFor y' = true) (hy : yr.cls ≠ "java/lang/invoke/MethodHandle" ∧ yr.cls ≠ "java/lang/invoke/VarHandle") (hlen : ∀ sig, parseMethodDescriptor yr.desc = some sig → argsL.length = sig.parameters.length) (hst : st = argsL.reverse ++ .ref a :: rest) (hent : ∀ m, entryFrame m (.ref a :: argsL).toArray ml' = mkF m 0 Ls' [])
    (G : Go l Z y' code' ml' ret' R' Q' 0 0 h 0 Ls' []) (W : Nat) (hsz : Ls.size = ml) (hW : (rest.map fun v => v.category).sum ≤ W) (hf : R'.frames + 1 ≤ R.frames) (hl : W + (ml' + 11) + R'.locals ≤ R.locals) (hk : k + R'.cells ≤ R.cells) (hN : n + R'.slots ≤ R.slots) (hq : pc + 3 = q)
    (g : ∀ v h', Q' v h' → GoB wf l Z y code ml ret R Q (k + R'.cells) (n + R'.slots) h' q Ls (v.toList ++ rest)) : GoB wf l Z y code ml ret R Q k n h pc Ls st := by
  subst hq
  intro p e s m args below meth c K T L k' n' X h1 h2 N hT
  obtain ⟨cq, kq, qa, qb, qc⟩ := isOf K.2.2.1 hT E
  obtain ⟨v, vm₁, ⟨T', L', k'', n''⟩, -, X', ⟨Lc, ⟨hQ, N'⟩, e1, e2, e3⟩, s'⟩ := X.virtualBack K.1 K.2.2.2.1 (mvT K.2.2.1 w1) (mvT K.2.2.1 w1') (own_nf (args := #[]) (mvT K.2.2.1 wnf) hz) (mvT K.2.2.1 w1s) (mvT K.2.2.1 w2) hy (backOf (W := W) (Q := fun v h L => Q' v h ∧ Fr Z.heap.size L) (Go.met hpl hent G []) K.2.2.1 w4 w3 hf hl) qa qc (g := mkF m pc Ls st) rfl (hsz.trans K.2.2.2.2.1.symm) (Steps.refl _) (argsL := argsL) (rest := rest) hlen hst (by show 2 * 0 + _ ≤ _; rw [Nat.mul_zero, Nat.zero_add]; exact hW) (hb K.2.1 hd) (fun _ _ => ⟨rfl, hT, Nat.le_trans (Nat.add_le_add_right h1 _) hk, Nat.le_trans (Nat.add_le_add_right h2 _) hN⟩)
  dsimp only [Pt.U, Pt.locs, Pt.cells, Pt.slots] at X' e1 e2 e3 s' hQ
  subst e1 e2 e3
  obtain ⟨s2, v2, T2, L2, k2, n2, ok2, X2, b1, b2, N2, q2, hv, stp⟩ := g v _ hQ p e s m args below meth c K T' _ _ _ X' (Nat.add_le_add_right h1 _) (Nat.add_le_add_right h2 _) (Fr.app N N') rfl
  exact ⟨s2, v2, T2, L2, k2, n2, ok2, X2, b1, b2, N2, q2, hv, fun fs hl => s'.trans (stp fs hl)⟩
theorem Go.callCp {a : Addr} (argsL : List Value) (rest : List Value) (q : Nat) (hd : decode code pc = .ok (.invokespecial i, 3)) (hy1 : y'.name = "<init>") (w1 : (Cond.methodLink y.cls i y').before a0 Z = true) (w2 : (Cond.instanceMethod y').before a0 Z = true) (w3 : (Cond.initialized y'.cls).before a0 Z = true) (w4 : (Cond.code y' code' ml' none).before a0 Z = true)
    (hpl : plainFor y' = true) (hy : y'.cls ≠ "java/lang/invoke/MethodHandle" ∧ y'.cls ≠ "java/lang/invoke/VarHandle") (hlen : ∀ sig, parseMethodDescriptor y'.desc = some sig → argsL.length = sig.parameters.length) (hst : st = argsL.reverse ++ .ref a :: rest) (hent : ∀ m, entryFrame m (.ref a :: argsL).toArray ml' = mkF m 0 Ls' [])
    (G : Go l Z y' code' ml' none R' (QV fun h' => h' = h) 0 0 h 0 Ls' []) (W : Nat) (hsz : Ls.size = ml) (hW : (rest.map fun v => v.category).sum ≤ W) (hf : R'.frames + 1 ≤ R.frames) (hl : W + (ml' + 11) + R'.locals ≤ R.locals) (hk : k + R'.cells ≤ R.cells) (hN : n + R'.slots ≤ R.slots) (hq : pc + 3 = q)
    (g : GoB wf l Z y code ml ret R Q (k + R'.cells) (n + R'.slots) h q Ls rest) : GoB wf l Z y code ml ret R Q k n h pc Ls st :=
  Go.callC argsL rest q hd hy1 w1 w2 w3 w4 hpl hy hlen hst hent _ G W hsz hW hf hl hk hN hq (fun h' e => by subst e; exact g)
end Calls

section
variable {y' : MethodName} {code' : ByteArray} {ml' : Nat} {ret' : Option FieldType} {R' : Room} {Ls' : Array Slot} {i : Nat}
theorem Go.callSI (argsL : List Value) (rest : List Value) (q : Nat) (hd : decode code pc = .ok (.invokestatic i, 3)) (w1 : (Cond.methodLink y.cls i y').before a0 Z = true) (w2 : (Cond.static y').before a0 Z = true) (w3 : (Cond.initialized y'.cls).before a0 Z = true) (w4 : (Cond.code y' code' ml' ret').before a0 Z = true)
    (hpl : plainFor y' = true) (hy : y'.cls ≠ "java/lang/invoke/MethodHandle" ∧ y'.cls ≠ "java/lang/invoke/VarHandle") (hlen : ∀ sig, parseMethodDescriptor y'.desc = some sig → argsL.length = sig.parameters.length) (hst : st = argsL.reverse ++ rest) (hent : ∀ m, entryFrame m argsL.toArray ml' = mkF m 0 Ls' [])
    (P' : Int32 → Heap → Prop) (G : Go l Z y' code' ml' ret' R' (QI P') 0 0 h 0 Ls' []) (W : Nat) (hsz : Ls.size = ml) (hW : (rest.map fun v => v.category).sum ≤ W) (hf : R'.frames + 1 ≤ R.frames) (hl : W + (ml' + 11) + R'.locals ≤ R.locals) (hk : k + R'.cells ≤ R.cells) (hN : n + R'.slots ≤ R.slots) (hq : pc + 3 = q)
    (g : ∀ (z : Int32) h', P' z h' → GoB wf l Z y code ml ret R Q (k + R'.cells) (n + R'.slots) h' q Ls (.int z :: rest)) : GoB wf l Z y code ml ret R Q k n h pc Ls st := by
  exact Go.callS argsL rest q hd w1 w2 w3 w4 hpl hy hlen hst hent G W hsz hW hf hl hk hN hq (fun v h' hq' => by obtain ⟨z, e, hp⟩ := hq'; subst e; exact g z h' hp)
end
section
variable {y' : MethodName} {code' : ByteArray} {ml' : Nat} {ret' : Option FieldType} {R' : Room} {Ls' : Array Slot} {i : Nat}
theorem Go.callSIp (argsL : List Value) (rest : List Value) (q : Nat) (hd : decode code pc = .ok (.invokestatic i, 3)) (w1 : (Cond.methodLink y.cls i y').before a0 Z = true) (w2 : (Cond.static y').before a0 Z = true) (w3 : (Cond.initialized y'.cls).before a0 Z = true) (w4 : (Cond.code y' code' ml' ret').before a0 Z = true)
    (hpl : plainFor y' = true) (hy : y'.cls ≠ "java/lang/invoke/MethodHandle" ∧ y'.cls ≠ "java/lang/invoke/VarHandle") (hlen : ∀ sig, parseMethodDescriptor y'.desc = some sig → argsL.length = sig.parameters.length) (hst : st = argsL.reverse ++ rest) (hent : ∀ m, entryFrame m argsL.toArray ml' = mkF m 0 Ls' [])
    (F : Int32) (G : Go l Z y' code' ml' ret' R' (QI fun z h' => z = F ∧ h' = h) 0 0 h 0 Ls' []) (W : Nat) (hsz : Ls.size = ml) (hW : (rest.map fun v => v.category).sum ≤ W) (hf : R'.frames + 1 ≤ R.frames) (hl : W + (ml' + 11) + R'.locals ≤ R.locals) (hk : k + R'.cells ≤ R.cells) (hN : n + R'.slots ≤ R.slots) (hq : pc + 3 = q)
    (g : GoB wf l Z y code ml ret R Q (k + R'.cells) (n + R'.slots) h q Ls (.int F :: rest)) : GoB wf l Z y code ml ret R Q k n h pc Ls st := by
  exact Go.callS argsL rest q hd w1 w2 w3 w4 hpl hy hlen hst hent G W hsz hW hf hl hk hN hq (fun v h' hq' => by obtain ⟨z, e, hp, hh⟩ := hq'; subst e; subst hh; rw [hp]; exact g)
end




section
variable {y' : MethodName} {code' : ByteArray} {ml' : Nat} {ret' : Option FieldType} {R' : Room} {Ls' : Array Slot} {i : Nat}
theorem Go.callSR (argsL : List Value) (rest : List Value) (q : Nat) (hd : decode code pc = .ok (.invokestatic i, 3)) (w1 : (Cond.methodLink y.cls i y').before a0 Z = true) (w2 : (Cond.static y').before a0 Z = true) (w3 : (Cond.initialized y'.cls).before a0 Z = true) (w4 : (Cond.code y' code' ml' ret').before a0 Z = true)
    (hpl : plainFor y' = true) (hy : y'.cls ≠ "java/lang/invoke/MethodHandle" ∧ y'.cls ≠ "java/lang/invoke/VarHandle") (hlen : ∀ sig, parseMethodDescriptor y'.desc = some sig → argsL.length = sig.parameters.length) (hst : st = argsL.reverse ++ rest) (hent : ∀ m, entryFrame m argsL.toArray ml' = mkF m 0 Ls' [])
    (P' : Value → Heap → Prop) (G : Go l Z y' code' ml' ret' R' (QR P') 0 0 h 0 Ls' []) (W : Nat) (hsz : Ls.size = ml) (hW : (rest.map fun v => v.category).sum ≤ W) (hf : R'.frames + 1 ≤ R.frames) (hl : W + (ml' + 11) + R'.locals ≤ R.locals) (hk : k + R'.cells ≤ R.cells) (hN : n + R'.slots ≤ R.slots) (hq : pc + 3 = q)
    (g : ∀ (z : Value) h', P' z h' → GoB wf l Z y code ml ret R Q (k + R'.cells) (n + R'.slots) h' q Ls ( z :: rest)) : GoB wf l Z y code ml ret R Q k n h pc Ls st := by
  exact Go.callS argsL rest q hd w1 w2 w3 w4 hpl hy hlen hst hent G W hsz hW hf hl hk hN hq (fun v h' hq' => by obtain ⟨z, e, hp⟩ := hq'; subst e; exact g z h' hp)
end



section
variable {y' : MethodName} {code' : ByteArray} {ml' : Nat} {ret' : Option FieldType} {R' : Room} {Ls' : Array Slot} {i : Nat}
theorem Go.callSVp (argsL : List Value) (rest : List Value) (q : Nat) (hd : decode code pc = .ok (.invokestatic i, 3)) (w1 : (Cond.methodLink y.cls i y').before a0 Z = true) (w2 : (Cond.static y').before a0 Z = true) (w3 : (Cond.initialized y'.cls).before a0 Z = true) (w4 : (Cond.code y' code' ml' ret').before a0 Z = true)
    (hpl : plainFor y' = true) (hy : y'.cls ≠ "java/lang/invoke/MethodHandle" ∧ y'.cls ≠ "java/lang/invoke/VarHandle") (hlen : ∀ sig, parseMethodDescriptor y'.desc = some sig → argsL.length = sig.parameters.length) (hst : st = argsL.reverse ++ rest) (hent : ∀ m, entryFrame m argsL.toArray ml' = mkF m 0 Ls' [])
    (G : Go l Z y' code' ml' ret' R' (QV fun h' => h' = h) 0 0 h 0 Ls' []) (W : Nat) (hsz : Ls.size = ml) (hW : (rest.map fun v => v.category).sum ≤ W) (hf : R'.frames + 1 ≤ R.frames) (hl : W + (ml' + 11) + R'.locals ≤ R.locals) (hk : k + R'.cells ≤ R.cells) (hN : n + R'.slots ≤ R.slots) (hq : pc + 3 = q)
    (g : GoB wf l Z y code ml ret R Q (k + R'.cells) (n + R'.slots) h q Ls rest) : GoB wf l Z y code ml ret R Q k n h pc Ls st := by
  exact Go.callS argsL rest q hd w1 w2 w3 w4 hpl hy hlen hst hent G W hsz hW hf hl hk hN hq (fun v h' hq' => by obtain ⟨e, hp⟩ := hq'; subst e; subst hp; exact g)
end

section
variable {y' : MethodName} {code' : ByteArray} {ml' : Nat} {ret' : Option FieldType} {R' : Room} {Ls' : Array Slot} {i : Nat}
theorem Go.callVIp {a : Addr} {C : String} (argsL : List Value) (rest : List Value) (q : Nat) (hd : decode code pc = .ok (.invokevirtual i, 3)) (w1 : (Cond.methodLink y.cls i y').before a0 Z = true) (w1' : (Cond.declares y').before a0 Z = true) (w1s : (Cond.selects C y' y').before a0 Z = true) (w2 : (Cond.instanceMethod y').before a0 Z = true) (w3 : (Cond.initialized y'.cls).before a0 Z = true) (w4 : (Cond.code y' code' ml' ret').before a0 Z = true) (E : Exa Z h a C)
    (hpl : plainFor y' = true) (hy : y'.cls ≠ "java/lang/invoke/MethodHandle" ∧ y'.cls ≠ "java/lang/invoke/VarHandle") (hlen : ∀ sig, parseMethodDescriptor y'.desc = some sig → argsL.length = sig.parameters.length) (hst : st = argsL.reverse ++ .ref a :: rest) (hent : ∀ m, entryFrame m (.ref a :: argsL).toArray ml' = mkF m 0 Ls' [])
    (F : Int32) (G : Go l Z y' code' ml' ret' R' (QI fun z h' => z = F ∧ h' = h) 0 0 h 0 Ls' []) (W : Nat) (hsz : Ls.size = ml) (hW : (rest.map fun v => v.category).sum ≤ W) (hf : R'.frames + 1 ≤ R.frames) (hl : W + (ml' + 11) + R'.locals ≤ R.locals) (hk : k + R'.cells ≤ R.cells) (hN : n + R'.slots ≤ R.slots) (hq : pc + 3 = q)
    (g : GoB wf l Z y code ml ret R Q (k + R'.cells) (n + R'.slots) h q Ls (.int F :: rest)) : GoB wf l Z y code ml ret R Q k n h pc Ls st := by
  exact Go.callV argsL rest q hd w1 w1' w1s w2 w3 w4 E hpl hy hlen hst hent G W hsz hW hf hl hk hN hq (fun v h' hq' => by obtain ⟨z, e, hp, hh⟩ := hq'; subst e; subst hh; rw [hp]; exact g)
end




section
variable {y' : MethodName} {code' : ByteArray} {ml' : Nat} {ret' : Option FieldType} {R' : Room} {Ls' : Array Slot} {i : Nat}
theorem Go.callVR {a : Addr} {C : String} (argsL : List Value) (rest : List Value) (q : Nat) (hd : decode code pc = .ok (.invokevirtual i, 3)) (w1 : (Cond.methodLink y.cls i y').before a0 Z = true) (w1' : (Cond.declares y').before a0 Z = true) (w1s : (Cond.selects C y' y').before a0 Z = true) (w2 : (Cond.instanceMethod y').before a0 Z = true) (w3 : (Cond.initialized y'.cls).before a0 Z = true) (w4 : (Cond.code y' code' ml' ret').before a0 Z = true) (E : Exa Z h a C)
    (hpl : plainFor y' = true) (hy : y'.cls ≠ "java/lang/invoke/MethodHandle" ∧ y'.cls ≠ "java/lang/invoke/VarHandle") (hlen : ∀ sig, parseMethodDescriptor y'.desc = some sig → argsL.length = sig.parameters.length) (hst : st = argsL.reverse ++ .ref a :: rest) (hent : ∀ m, entryFrame m (.ref a :: argsL).toArray ml' = mkF m 0 Ls' [])
    (P' : Value → Heap → Prop) (G : Go l Z y' code' ml' ret' R' (QR P') 0 0 h 0 Ls' []) (W : Nat) (hsz : Ls.size = ml) (hW : (rest.map fun v => v.category).sum ≤ W) (hf : R'.frames + 1 ≤ R.frames) (hl : W + (ml' + 11) + R'.locals ≤ R.locals) (hk : k + R'.cells ≤ R.cells) (hN : n + R'.slots ≤ R.slots) (hq : pc + 3 = q)
    (g : ∀ (z : Value) h', P' z h' → GoB wf l Z y code ml ret R Q (k + R'.cells) (n + R'.slots) h' q Ls ( z :: rest)) : GoB wf l Z y code ml ret R Q k n h pc Ls st := by
  exact Go.callV argsL rest q hd w1 w1' w1s w2 w3 w4 E hpl hy hlen hst hent G W hsz hW hf hl hk hN hq (fun v h' hq' => by obtain ⟨z, e, hp⟩ := hq'; subst e; exact g z h' hp)
end
section
variable {y' : MethodName} {code' : ByteArray} {ml' : Nat} {ret' : Option FieldType} {R' : Room} {Ls' : Array Slot} {i : Nat}
theorem Go.callVRp {a : Addr} {C : String} (argsL : List Value) (rest : List Value) (q : Nat) (hd : decode code pc = .ok (.invokevirtual i, 3)) (w1 : (Cond.methodLink y.cls i y').before a0 Z = true) (w1' : (Cond.declares y').before a0 Z = true) (w1s : (Cond.selects C y' y').before a0 Z = true) (w2 : (Cond.instanceMethod y').before a0 Z = true) (w3 : (Cond.initialized y'.cls).before a0 Z = true) (w4 : (Cond.code y' code' ml' ret').before a0 Z = true) (E : Exa Z h a C)
    (hpl : plainFor y' = true) (hy : y'.cls ≠ "java/lang/invoke/MethodHandle" ∧ y'.cls ≠ "java/lang/invoke/VarHandle") (hlen : ∀ sig, parseMethodDescriptor y'.desc = some sig → argsL.length = sig.parameters.length) (hst : st = argsL.reverse ++ .ref a :: rest) (hent : ∀ m, entryFrame m (.ref a :: argsL).toArray ml' = mkF m 0 Ls' [])
    (F : Value) (G : Go l Z y' code' ml' ret' R' (QR fun z h' => z = F ∧ h' = h) 0 0 h 0 Ls' []) (W : Nat) (hsz : Ls.size = ml) (hW : (rest.map fun v => v.category).sum ≤ W) (hf : R'.frames + 1 ≤ R.frames) (hl : W + (ml' + 11) + R'.locals ≤ R.locals) (hk : k + R'.cells ≤ R.cells) (hN : n + R'.slots ≤ R.slots) (hq : pc + 3 = q)
    (g : GoB wf l Z y code ml ret R Q (k + R'.cells) (n + R'.slots) h q Ls ( F :: rest)) : GoB wf l Z y code ml ret R Q k n h pc Ls st := by
  exact Go.callV argsL rest q hd w1 w1' w1s w2 w3 w4 E hpl hy hlen hst hent G W hsz hW hf hl hk hN hq (fun v h' hq' => by obtain ⟨z, e, hp, hh⟩ := hq'; subst e; subst hh; rw [hp]; exact g)
end
section
variable {y' : MethodName} {code' : ByteArray} {ml' : Nat} {ret' : Option FieldType} {R' : Room} {Ls' : Array Slot} {i : Nat}
theorem Go.callVRe {a : Addr} {C : String} (argsL : List Value) (rest : List Value) (q : Nat) (hd : decode code pc = .ok (.invokevirtual i, 3)) (w1 : (Cond.methodLink y.cls i y').before a0 Z = true) (w1' : (Cond.declares y').before a0 Z = true) (w1s : (Cond.selects C y' y').before a0 Z = true) (w2 : (Cond.instanceMethod y').before a0 Z = true) (w3 : (Cond.initialized y'.cls).before a0 Z = true) (w4 : (Cond.code y' code' ml' ret').before a0 Z = true) (E : Exa Z h a C)
    (hpl : plainFor y' = true) (hy : y'.cls ≠ "java/lang/invoke/MethodHandle" ∧ y'.cls ≠ "java/lang/invoke/VarHandle") (hlen : ∀ sig, parseMethodDescriptor y'.desc = some sig → argsL.length = sig.parameters.length) (hst : st = argsL.reverse ++ .ref a :: rest) (hent : ∀ m, entryFrame m (.ref a :: argsL).toArray ml' = mkF m 0 Ls' [])
    (F : Value) (P' : Heap → Prop) (G : Go l Z y' code' ml' ret' R' (QR fun z h' => z = F ∧ P' h') 0 0 h 0 Ls' []) (W : Nat) (hsz : Ls.size = ml) (hW : (rest.map fun v => v.category).sum ≤ W) (hf : R'.frames + 1 ≤ R.frames) (hl : W + (ml' + 11) + R'.locals ≤ R.locals) (hk : k + R'.cells ≤ R.cells) (hN : n + R'.slots ≤ R.slots) (hq : pc + 3 = q)
    (g : ∀ h', P' h' → GoB wf l Z y code ml ret R Q (k + R'.cells) (n + R'.slots) h' q Ls ( F :: rest)) : GoB wf l Z y code ml ret R Q k n h pc Ls st := by
  exact Go.callV argsL rest q hd w1 w1' w1s w2 w3 w4 E hpl hy hlen hst hent G W hsz hW hf hl hk hN hq (fun v h' hq' => by obtain ⟨z, e, hp, hh⟩ := hq'; subst e; rw [hp]; exact g h' hh)
end














section
variable {y' : MethodName} {code' : ByteArray} {ml' : Nat} {ret' : Option FieldType} {R' : Room} {Ls' : Array Slot} {i : Nat}
theorem Go.callPIp {a : Addr} {C : String} (argsL : List Value) (rest : List Value) (q : Nat) (hd : decode code pc = .ok (.invokespecial i, 3)) (hn : y'.name ≠ "<init>") (w1 : (Cond.methodLink y.cls i y').before a0 Z = true) (w1m : (Cond.sameMethod y'.cls y'.cls y'.name y'.desc).before a0 Z = true) (w1s : (Cond.superclass y.cls y'.cls).before a0 Z = true) (w2 : (Cond.instanceMethod y').before a0 Z = true) (w3 : (Cond.initialized y'.cls).before a0 Z = true) (w4 : (Cond.code y' code' ml' ret').before a0 Z = true) (E : Exa Z h a C)
    (hpl : plainFor y' = true) (hy : y'.cls ≠ "java/lang/invoke/MethodHandle" ∧ y'.cls ≠ "java/lang/invoke/VarHandle") (hlen : ∀ sig, parseMethodDescriptor y'.desc = some sig → argsL.length = sig.parameters.length) (hst : st = argsL.reverse ++ .ref a :: rest) (hent : ∀ m, entryFrame m (.ref a :: argsL).toArray ml' = mkF m 0 Ls' [])
    (F : Int32) (G : Go l Z y' code' ml' ret' R' (QI fun z h' => z = F ∧ h' = h) 0 0 h 0 Ls' []) (W : Nat) (hsz : Ls.size = ml) (hW : (rest.map fun v => v.category).sum ≤ W) (hf : R'.frames + 1 ≤ R.frames) (hl : W + (ml' + 11) + R'.locals ≤ R.locals) (hk : k + R'.cells ≤ R.cells) (hN : n + R'.slots ≤ R.slots) (hq : pc + 3 = q)
    (g : GoB wf l Z y code ml ret R Q (k + R'.cells) (n + R'.slots) h q Ls (.int F :: rest)) : GoB wf l Z y code ml ret R Q k n h pc Ls st := by
  exact Go.callP argsL rest q hd hn w1 w1m w1s w2 w3 w4 E hpl hy hlen hst hent G W hsz hW hf hl hk hN hq (fun v h' hq' => by obtain ⟨z, e, hp, hh⟩ := hq'; subst e; subst hh; rw [hp]; exact g)
end






section
variable {y' : MethodName} {code' : ByteArray} {ml' : Nat} {ret' : Option FieldType} {R' : Room} {Ls' : Array Slot} {i : Nat}
theorem Go.callPRe {a : Addr} {C : String} (argsL : List Value) (rest : List Value) (q : Nat) (hd : decode code pc = .ok (.invokespecial i, 3)) (hn : y'.name ≠ "<init>") (w1 : (Cond.methodLink y.cls i y').before a0 Z = true) (w1m : (Cond.sameMethod y'.cls y'.cls y'.name y'.desc).before a0 Z = true) (w1s : (Cond.superclass y.cls y'.cls).before a0 Z = true) (w2 : (Cond.instanceMethod y').before a0 Z = true) (w3 : (Cond.initialized y'.cls).before a0 Z = true) (w4 : (Cond.code y' code' ml' ret').before a0 Z = true) (E : Exa Z h a C)
    (hpl : plainFor y' = true) (hy : y'.cls ≠ "java/lang/invoke/MethodHandle" ∧ y'.cls ≠ "java/lang/invoke/VarHandle") (hlen : ∀ sig, parseMethodDescriptor y'.desc = some sig → argsL.length = sig.parameters.length) (hst : st = argsL.reverse ++ .ref a :: rest) (hent : ∀ m, entryFrame m (.ref a :: argsL).toArray ml' = mkF m 0 Ls' [])
    (F : Value) (P' : Heap → Prop) (G : Go l Z y' code' ml' ret' R' (QR fun z h' => z = F ∧ P' h') 0 0 h 0 Ls' []) (W : Nat) (hsz : Ls.size = ml) (hW : (rest.map fun v => v.category).sum ≤ W) (hf : R'.frames + 1 ≤ R.frames) (hl : W + (ml' + 11) + R'.locals ≤ R.locals) (hk : k + R'.cells ≤ R.cells) (hN : n + R'.slots ≤ R.slots) (hq : pc + 3 = q)
    (g : ∀ h', P' h' → GoB wf l Z y code ml ret R Q (k + R'.cells) (n + R'.slots) h' q Ls ( F :: rest)) : GoB wf l Z y code ml ret R Q k n h pc Ls st := by
  exact Go.callP argsL rest q hd hn w1 w1m w1s w2 w3 w4 E hpl hy hlen hst hent G W hsz hW hf hl hk hN hq (fun v h' hq' => by obtain ⟨z, e, hp, hh⟩ := hq'; subst e; rw [hp]; exact g h' hh)
end



section
variable {y' : MethodName} {code' : ByteArray} {ml' : Nat} {ret' : Option FieldType} {R' : Room} {Ls' : Array Slot} {i : Nat}
theorem Go.callQIp {a : Addr} {C : String} (argsL : List Value) (rest : List Value) (q : Nat) (hd : decode code pc = .ok (.invokevirtual i, 3)) (w1 : (Cond.methodLink y.cls i y').before a0 Z = true) (w1p : (Cond.privateMethod y').before a0 Z = true) (w1s : (Cond.selects y'.cls y' y').before a0 Z = true) (w2 : (Cond.instanceMethod y').before a0 Z = true) (w3 : (Cond.initialized y'.cls).before a0 Z = true) (w4 : (Cond.code y' code' ml' ret').before a0 Z = true) (E : Exa Z h a C)
    (hpl : plainFor y' = true) (hy : y'.cls ≠ "java/lang/invoke/MethodHandle" ∧ y'.cls ≠ "java/lang/invoke/VarHandle") (hlen : ∀ sig, parseMethodDescriptor y'.desc = some sig → argsL.length = sig.parameters.length) (hst : st = argsL.reverse ++ .ref a :: rest) (hent : ∀ m, entryFrame m (.ref a :: argsL).toArray ml' = mkF m 0 Ls' [])
    (F : Int32) (G : Go l Z y' code' ml' ret' R' (QI fun z h' => z = F ∧ h' = h) 0 0 h 0 Ls' []) (W : Nat) (hsz : Ls.size = ml) (hW : (rest.map fun v => v.category).sum ≤ W) (hf : R'.frames + 1 ≤ R.frames) (hl : W + (ml' + 11) + R'.locals ≤ R.locals) (hk : k + R'.cells ≤ R.cells) (hN : n + R'.slots ≤ R.slots) (hq : pc + 3 = q)
    (g : GoB wf l Z y code ml ret R Q (k + R'.cells) (n + R'.slots) h q Ls (.int F :: rest)) : GoB wf l Z y code ml ret R Q k n h pc Ls st := by
  exact Go.callQ argsL rest q hd w1 w1p w1s w2 w3 w4 E hpl hy hlen hst hent G W hsz hW hf hl hk hN hq (fun v h' hq' => by obtain ⟨z, e, hp, hh⟩ := hq'; subst e; subst hh; rw [hp]; exact g)
end







section
variable {y' : MethodName} {code' : ByteArray} {ml' : Nat} {ret' : Option FieldType} {R' : Room} {Ls' : Array Slot} {i : Nat}
theorem Go.callQV {a : Addr} {C : String} (argsL : List Value) (rest : List Value) (q : Nat) (hd : decode code pc = .ok (.invokevirtual i, 3)) (w1 : (Cond.methodLink y.cls i y').before a0 Z = true) (w1p : (Cond.privateMethod y').before a0 Z = true) (w1s : (Cond.selects y'.cls y' y').before a0 Z = true) (w2 : (Cond.instanceMethod y').before a0 Z = true) (w3 : (Cond.initialized y'.cls).before a0 Z = true) (w4 : (Cond.code y' code' ml' ret').before a0 Z = true) (E : Exa Z h a C)
    (hpl : plainFor y' = true) (hy : y'.cls ≠ "java/lang/invoke/MethodHandle" ∧ y'.cls ≠ "java/lang/invoke/VarHandle") (hlen : ∀ sig, parseMethodDescriptor y'.desc = some sig → argsL.length = sig.parameters.length) (hst : st = argsL.reverse ++ .ref a :: rest) (hent : ∀ m, entryFrame m (.ref a :: argsL).toArray ml' = mkF m 0 Ls' [])
    (P' : Heap → Prop) (G : Go l Z y' code' ml' ret' R' (QV P') 0 0 h 0 Ls' []) (W : Nat) (hsz : Ls.size = ml) (hW : (rest.map fun v => v.category).sum ≤ W) (hf : R'.frames + 1 ≤ R.frames) (hl : W + (ml' + 11) + R'.locals ≤ R.locals) (hk : k + R'.cells ≤ R.cells) (hN : n + R'.slots ≤ R.slots) (hq : pc + 3 = q)
    (g : ∀ h', P' h' → GoB wf l Z y code ml ret R Q (k + R'.cells) (n + R'.slots) h' q Ls rest) : GoB wf l Z y code ml ret R Q k n h pc Ls st := by
  exact Go.callQ argsL rest q hd w1 w1p w1s w2 w3 w4 E hpl hy hlen hst hent G W hsz hW hf hl hk hN hq (fun v h' hq' => by obtain ⟨e, hp⟩ := hq'; subst e; exact g h' hp)
end


section
variable {y' : MethodName} {code' : ByteArray} {ml' : Nat} {ret' : Option FieldType} {R' : Room} {Ls' : Array Slot} {i : Nat}
theorem Go.callOIp {a : Addr} {C : String} {yr z z' : MethodName} {C2 : String} (argsL : List Value) (rest : List Value) (q : Nat) (hd : decode code pc = .ok (.invokevirtual i, 3)) (w1 : (Cond.methodLink y.cls i yr).before a0 Z = true) (w1' : (Cond.declares yr).before a0 Z = true) (w1s : (Cond.selects C yr y').before a0 Z = true) (wnf : (Cond.selects C2 z z').before a0 Z = true) (hz : z'.cls = yr.cls) (w2 : (Cond.instanceMethod y').before a0 Z = true) (w3 : (Cond.initialized y'.cls).before a0 Z = true) (w4 : (Cond.code y' code' ml' ret').before a0 Z = true) (E : Exa Z h a C)
    (hpl : plainFor y' = true) (hy : yr.cls ≠ "java/lang/invoke/MethodHandle" ∧ yr.cls ≠ "java/lang/invoke/VarHandle") (hlen : ∀ sig, parseMethodDescriptor yr.desc = some sig → argsL.length = sig.parameters.length) (hst : st = argsL.reverse ++ .ref a :: rest) (hent : ∀ m, entryFrame m (.ref a :: argsL).toArray ml' = mkF m 0 Ls' [])
    (F : Int32) (G : Go l Z y' code' ml' ret' R' (QI fun z h' => z = F ∧ h' = h) 0 0 h 0 Ls' []) (W : Nat) (hsz : Ls.size = ml) (hW : (rest.map fun v => v.category).sum ≤ W) (hf : R'.frames + 1 ≤ R.frames) (hl : W + (ml' + 11) + R'.locals ≤ R.locals) (hk : k + R'.cells ≤ R.cells) (hN : n + R'.slots ≤ R.slots) (hq : pc + 3 = q)
    (g : GoB wf l Z y code ml ret R Q (k + R'.cells) (n + R'.slots) h q Ls (.int F :: rest)) : GoB wf l Z y code ml ret R Q k n h pc Ls st := by
  exact Go.callO argsL rest q hd w1 w1' w1s wnf hz w2 w3 w4 E hpl hy hlen hst hent G W hsz hW hf hl hk hN hq (fun v h' hq' => by obtain ⟨z, e, hp, hh⟩ := hq'; subst e; subst hh; rw [hp]; exact g)
end












theorem own_eqf {args : Array Value} {s : State} {t : Term} {O n d : String} {v : Int32} {x : Addr} (ht : t.eval args s none [] s = some (.ref x)) (h : (Jvm.Cond.eq (Term.field t O n d) (Term.int v)).value args s none s [] = some true) : Fld s s.heap x O n d (.int v) := by
  apply Fld.start
  have e := fld_at (C := O) (n := n) (dd := d) ht
  have i : (Term.int v).eval args s none [] s = some (.int v) := Term.int_eval v
  simp only [Jvm.Cond.value, e, i] at h
  cases q : s.fieldOf? x O n d with
  | none => rw [q] at h; simp at h
  | some w =>
    rw [q] at h
    cases w <;> simp at h
    rw [h]
/-- an array of ints, shorts, chars, bytes or booleans, with its elements -/
def Ari (Z : State) (h : Heap) (a : Addr) (ty : FieldType) (xs : List Int32) : Prop := ∃ c : Cell, Arr Z h a c ty ∧ c.slots.toList = xs.map Value.int ∧ xs.length < 2147483648
def Arj (Z : State) (h : Heap) (a : Addr) (xs : List Int64) : Prop := ∃ c : Cell, Arr Z h a c .long ∧ c.slots.toList = xs.map Value.long ∧ xs.length < 2147483648
theorem Ari.lt {a : Addr} {ty : FieldType} {xs : List Int32} (F : Ari Z h a ty xs) : a < h.size := by obtain ⟨c, A, -⟩ := F; exact A.lt
theorem Arj.lt {a : Addr} {xs : List Int64} (F : Arj Z h a xs) : a < h.size := by obtain ⟨c, A, -⟩ := F; exact A.lt
theorem Ari.ext {h' : Heap} {a : Addr} {ty : FieldType} {xs : List Int32} (F : Ari Z h a ty xs) (E : Ext h h') : Ari Z h' a ty xs := by obtain ⟨c, A, r⟩ := F; exact ⟨c, A.ext E, r⟩
theorem Arj.ext {h' : Heap} {a : Addr} {xs : List Int64} (F : Arj Z h a xs) (E : Ext h h') : Arj Z h' a xs := by obtain ⟨c, A, r⟩ := F; exact ⟨c, A.ext E, r⟩
theorem Ari.other {h' : Heap} {a b : Addr} {sl : Nat} {v : Value} {ty : FieldType} {xs : List Int32} (F : Ari Z h b ty xs) (W : Wr h h' a sl v) (q : b ≠ a) : Ari Z h' b ty xs := by obtain ⟨c, A, r⟩ := F; exact ⟨c, A.other W q, r⟩
theorem Arj.other {h' : Heap} {a b : Addr} {sl : Nat} {v : Value} {xs : List Int64} (F : Arj Z h b xs) (W : Wr h h' a sl v) (q : b ≠ a) : Arj Z h' b xs := by obtain ⟨c, A, r⟩ := F; exact ⟨c, A.other W q, r⟩
theorem Ari.keep {h' : Heap} {a : Addr} {ws : List Addr} {ty : FieldType} {xs : List Int32} (F : Ari Z h a ty xs) (K : Keep h h' ws) (q : a ∉ ws) : Ari Z h' a ty xs := by obtain ⟨c, A, r⟩ := F; exact ⟨c, ⟨K.2.1 _ _ A.1 q, A.2⟩, r⟩
theorem Arj.keep {h' : Heap} {a : Addr} {ws : List Addr} {xs : List Int64} (F : Arj Z h a xs) (K : Keep h h' ws) (q : a ∉ ws) : Arj Z h' a xs := by obtain ⟨c, A, r⟩ := F; exact ⟨c, ⟨K.2.1 _ _ A.1 q, A.2⟩, r⟩
theorem own_size {c : Cell} {α : Type} {f : α → Value} {xs : List α} (e : c.slots.toList = xs.map f) : c.slots.size = xs.length := by
  have q := congrArg List.length e
  simpa using q
theorem own_at {c : Cell} {α : Type} {f : α → Value} {xs : List α} (e : c.slots.toList = xs.map f) {i : Nat} {x : α} (hx : xs[i]? = some x) : c.slots[i]? = some (f x) := by
  have q : c.slots.toList[i]? = some (f x) := by rw [e, List.getElem?_map, hx]; rfl
  simpa using q
theorem own_in {c : Cell} {α : Type} {f : α → Value} {xs : List α} (e : c.slots.toList = xs.map f) {i : Nat} {j : Int32} (hj : ¬ j < 0) (hi : j.toNatClampNeg = i) (hx : i < xs.length) : ¬ (j < 0 ∨ c.slots.size ≤ j.toNatClampNeg) := by
  rw [own_size e, hi]; intro q; rcases q with q | q
  · exact hj q
  · exact absurd hx (Nat.not_lt.mpr q)
theorem own_set {c : Cell} {α : Type} {f : α → Value} {xs : List α} (e : c.slots.toList = xs.map f) (i : Nat) (x : α) : (c.setSlot i (f x)).slots.toList = (xs.set i x).map f := by
  show (c.slots.setIfInBounds i (f x)).toList = _
  rw [Array.toList_setIfInBounds, e, List.map_set]
theorem Ari.set {h' : Heap} {a : Addr} {ty : FieldType} {xs xs' : List Int32} {i : Nat} {x : Int32} (F : Ari Z h a ty xs) (W : Wr h h' a i (.int x)) (e : xs.set i x = xs') : Ari Z h' a ty xs' := by
  subst e
  obtain ⟨c, A, r, r2⟩ := F
  exact ⟨_, A.same W, own_set r i x, by rw [List.length_set]; exact r2⟩
theorem Arj.set {h' : Heap} {a : Addr} {xs xs' : List Int64} {i : Nat} {x : Int64} (F : Arj Z h a xs) (W : Wr h h' a i (.long x)) (e : xs.set i x = xs') : Arj Z h' a xs' := by
  subst e
  obtain ⟨c, A, r, r2⟩ := F
  exact ⟨_, A.same W, own_set r i x, by rw [List.length_set]; exact r2⟩

theorem Go.iaload {a : Addr} {j x : Int32} {xs : List Int32} (i : Nat) (q : Nat) (hd : decode code pc = .ok (.iaload, 1)) (A : Ari Z h a .int xs) (hj : ¬ j < 0) (hi : j.toNatClampNeg = i) (hx : xs[i]? = some x) (hq : pc + 1 = q) (g : GoB wf l Z y code ml ret R Q k n h q Ls (.int x :: st)) : GoB wf l Z y code ml ret R Q k n h pc Ls (.int j :: .ref a :: st) := by
  subst hq hi
  obtain ⟨cl, A, r, r2⟩ := A
  have hv := own_at r hx
  have hin := own_in r hj rfl (List.getElem?_eq_some_iff.mp hx).1
  exact g.pure fun p e s m args below meth c K T L k' n' X hT t rr => X.iaload K.1 (cell := cl) (v := .int x) (by rw [hT]; exact A.1) (State.isArrayOf_alike K.2.2.1.alike A.2.1) A.2.2 hin hv (g := mkF m pc Ls (.int j :: .ref a :: st)) rfl rfl (hb K.2.1 hd) t rr
theorem Go.baload {a : Addr} {j x : Int32} {xs : List Int32} (i : Nat) (q : Nat) (hd : decode code pc = .ok (.baload, 1)) (A : Ari Z h a .byte xs) (hj : ¬ j < 0) (hi : j.toNatClampNeg = i) (hx : xs[i]? = some x) (hq : pc + 1 = q) (g : GoB wf l Z y code ml ret R Q k n h q Ls (.int x :: st)) : GoB wf l Z y code ml ret R Q k n h pc Ls (.int j :: .ref a :: st) := by
  subst hq hi
  obtain ⟨cl, A, r, r2⟩ := A
  have hv := own_at r hx
  have hin := own_in r hj rfl (List.getElem?_eq_some_iff.mp hx).1
  exact g.pure fun p e s m args below meth c K T L k' n' X hT t rr => X.baloadBytes K.1 (cell := cl) (v := .int x) (by rw [hT]; exact A.1) (State.isArrayOf_alike K.2.2.1.alike A.2.1) A.2.2 hin hv (g := mkF m pc Ls (.int j :: .ref a :: st)) rfl rfl (hb K.2.1 hd) t rr
theorem Go.zaload {a : Addr} {j x : Int32} {xs : List Int32} (i : Nat) (q : Nat) (hd : decode code pc = .ok (.baload, 1)) (A : Ari Z h a .boolean xs) (hj : ¬ j < 0) (hi : j.toNatClampNeg = i) (hx : xs[i]? = some x) (hq : pc + 1 = q) (g : GoB wf l Z y code ml ret R Q k n h q Ls (.int x :: st)) : GoB wf l Z y code ml ret R Q k n h pc Ls (.int j :: .ref a :: st) := by
  subst hq hi
  obtain ⟨cl, A, r, r2⟩ := A
  have hv := own_at r hx
  have hin := own_in r hj rfl (List.getElem?_eq_some_iff.mp hx).1
  exact g.pure fun p e s m args below meth c K T L k' n' X hT t rr => X.baloadBooleans K.1 (cell := cl) (v := .int x) (by rw [hT]; exact A.1) (State.isArrayOf_alike K.2.2.1.alike A.2.1) A.2.2 hin hv (g := mkF m pc Ls (.int j :: .ref a :: st)) rfl rfl (hb K.2.1 hd) t rr
theorem Go.caload {a : Addr} {j x : Int32} {xs : List Int32} (i : Nat) (q : Nat) (hd : decode code pc = .ok (.caload, 1)) (A : Ari Z h a .char xs) (hj : ¬ j < 0) (hi : j.toNatClampNeg = i) (hx : xs[i]? = some x) (hq : pc + 1 = q) (g : GoB wf l Z y code ml ret R Q k n h q Ls (.int x :: st)) : GoB wf l Z y code ml ret R Q k n h pc Ls (.int j :: .ref a :: st) := by
  subst hq hi
  obtain ⟨cl, A, r, r2⟩ := A
  have hv := own_at r hx
  have hin := own_in r hj rfl (List.getElem?_eq_some_iff.mp hx).1
  exact g.pure fun p e s m args below meth c K T L k' n' X hT t rr => X.caload K.1 (cell := cl) (v := .int x) (by rw [hT]; exact A.1) (State.isArrayOf_alike K.2.2.1.alike A.2.1) A.2.2 hin hv (g := mkF m pc Ls (.int j :: .ref a :: st)) rfl rfl (hb K.2.1 hd) t rr
theorem Go.laload {a : Addr} {j : Int32} {x : Int64} {xs : List Int64} (i : Nat) (q : Nat) (hd : decode code pc = .ok (.laload, 1)) (A : Arj Z h a xs) (hj : ¬ j < 0) (hi : j.toNatClampNeg = i) (hx : xs[i]? = some x) (hq : pc + 1 = q) (g : GoB wf l Z y code ml ret R Q k n h q Ls (.long x :: st)) : GoB wf l Z y code ml ret R Q k n h pc Ls (.int j :: .ref a :: st) := by
  subst hq hi
  obtain ⟨cl, A, r, r2⟩ := A
  have hv := own_at r hx
  have hin := own_in r hj rfl (List.getElem?_eq_some_iff.mp hx).1
  exact g.pure fun p e s m args below meth c K T L k' n' X hT t rr => X.laload K.1 (cell := cl) (v := .long x) (by rw [hT]; exact A.1) (State.isArrayOf_alike K.2.2.1.alike A.2.1) A.2.2 hin hv (g := mkF m pc Ls (.int j :: .ref a :: st)) rfl rfl (hb K.2.1 hd) t rr
theorem Go.arraylength {a : Addr} {ty : FieldType} {xs : List Int32} {z : Int32} (q : Nat) (hd : decode code pc = .ok (.arraylength, 1)) (A : Ari Z h a ty xs) (hz : xs.length.toInt32 = z) (hq : pc + 1 = q) (g : GoB wf l Z y code ml ret R Q k n h q Ls (.int z :: st)) : GoB wf l Z y code ml ret R Q k n h pc Ls (.ref a :: st) := by
  subst hq
  obtain ⟨cl, A, r, r2⟩ := A
  subst hz
  exact g.pure fun p e s m args below meth c K T L k' n' X hT t rr => X.arraylength K.1 (cell := cl) (by rw [hT]; exact A.1) (State.isArrayOf_alike K.2.2.1.alike A.2.1) (g := mkF m pc Ls (.ref a :: st)) rfl rfl (hb K.2.1 hd) t (by rw [own_size r]; exact rr)
theorem Go.arraylengthJ {a : Addr} {xs : List Int64} {z : Int32} (q : Nat) (hd : decode code pc = .ok (.arraylength, 1)) (A : Arj Z h a xs) (hz : xs.length.toInt32 = z) (hq : pc + 1 = q) (g : GoB wf l Z y code ml ret R Q k n h q Ls (.int z :: st)) : GoB wf l Z y code ml ret R Q k n h pc Ls (.ref a :: st) := by
  subst hq
  obtain ⟨cl, A, r, r2⟩ := A
  subst hz
  exact g.pure fun p e s m args below meth c K T L k' n' X hT t rr => X.arraylength K.1 (cell := cl) (by rw [hT]; exact A.1) (State.isArrayOf_alike K.2.2.1.alike A.2.1) (g := mkF m pc Ls (.ref a :: st)) rfl rfl (hb K.2.1 hd) t (by rw [own_size r]; exact rr)
theorem Go.iastore {a : Addr} {j x : Int32} {xs : List Int32} (i : Nat) (xs' : List Int32) (q : Nat) (hd : decode code pc = .ok (.iastore, 1)) (A : Ari Z h a .int xs) (hj : ¬ j < 0) (hi : j.toNatClampNeg = i) (hx : i < xs.length) (he : xs.set i (x) = xs') (hge : Z.heap.size ≤ a) (hq : pc + 1 = q)
    (g : ∀ h', Wr h h' a i (.int (x)) → Ari Z h' a .int xs' → GoB wf l Z y code ml ret R Q k n h' q Ls st) : GoB wf l Z y code ml ret R Q k n h pc Ls (.int x :: .int j :: .ref a :: st) := by
  subst hq hi
  refine GoB.move (P := fun h' => Wr h h' a j.toNatClampNeg (.int (x))) (kk := k) (nn := n) (fun h' W => g h' W (A.set W he)) ?_
  obtain ⟨cl, A, r, r2⟩ := A
  intro p e s m args below meth c K T L k' n' X h1 h2 N hT
  obtain ⟨T', h', X', e', W', s'⟩ := stI X K.1 K.2.2.1 hT A (own_in r hj rfl hx) (g := mkF m pc Ls (.int x :: .int j :: .ref a :: st)) rfl rfl (hb K.2.1 hd)
  exact ⟨T', _, k', n', X', h1, h2, Fr.snoc X' N hge, e' ▸ W', s'⟩
theorem Go.bastore {a : Addr} {j x : Int32} {xs : List Int32} (i : Nat) (xs' : List Int32) (q : Nat) (hd : decode code pc = .ok (.bastore, 1)) (A : Ari Z h a .byte xs) (hj : ¬ j < 0) (hi : j.toNatClampNeg = i) (hx : i < xs.length) (he : xs.set i (nar .byte x) = xs') (hge : Z.heap.size ≤ a) (hq : pc + 1 = q)
    (g : ∀ h', Wr h h' a i (.int (nar .byte x)) → Ari Z h' a .byte xs' → GoB wf l Z y code ml ret R Q k n h' q Ls st) : GoB wf l Z y code ml ret R Q k n h pc Ls (.int x :: .int j :: .ref a :: st) := by
  subst hq hi
  refine GoB.move (P := fun h' => Wr h h' a j.toNatClampNeg (.int (nar .byte x))) (kk := k) (nn := n) (fun h' W => g h' W (A.set W he)) ?_
  obtain ⟨cl, A, r, r2⟩ := A
  intro p e s m args below meth c K T L k' n' X h1 h2 N hT
  obtain ⟨T', h', X', e', W', s'⟩ := stB X K.1 K.2.2.1 hT A (own_in r hj rfl hx) (g := mkF m pc Ls (.int x :: .int j :: .ref a :: st)) rfl rfl (hb K.2.1 hd)
  exact ⟨T', _, k', n', X', h1, h2, Fr.snoc X' N hge, e' ▸ W', s'⟩
theorem Go.zastore {a : Addr} {j x : Int32} {xs : List Int32} (i : Nat) (xs' : List Int32) (q : Nat) (hd : decode code pc = .ok (.bastore, 1)) (A : Ari Z h a .boolean xs) (hj : ¬ j < 0) (hi : j.toNatClampNeg = i) (hx : i < xs.length) (he : xs.set i (nar .boolean x) = xs') (hge : Z.heap.size ≤ a) (hq : pc + 1 = q)
    (g : ∀ h', Wr h h' a i (.int (nar .boolean x)) → Ari Z h' a .boolean xs' → GoB wf l Z y code ml ret R Q k n h' q Ls st) : GoB wf l Z y code ml ret R Q k n h pc Ls (.int x :: .int j :: .ref a :: st) := by
  subst hq hi
  refine GoB.move (P := fun h' => Wr h h' a j.toNatClampNeg (.int (nar .boolean x))) (kk := k) (nn := n) (fun h' W => g h' W (A.set W he)) ?_
  obtain ⟨cl, A, r, r2⟩ := A
  intro p e s m args below meth c K T L k' n' X h1 h2 N hT
  obtain ⟨T', h', X', e', W', s'⟩ := stZ X K.1 K.2.2.1 hT A (own_in r hj rfl hx) (g := mkF m pc Ls (.int x :: .int j :: .ref a :: st)) rfl rfl (hb K.2.1 hd)
  exact ⟨T', _, k', n', X', h1, h2, Fr.snoc X' N hge, e' ▸ W', s'⟩
theorem Go.castore {a : Addr} {j x : Int32} {xs : List Int32} (i : Nat) (xs' : List Int32) (q : Nat) (hd : decode code pc = .ok (.castore, 1)) (A : Ari Z h a .char xs) (hj : ¬ j < 0) (hi : j.toNatClampNeg = i) (hx : i < xs.length) (he : xs.set i (nar .char x) = xs') (hge : Z.heap.size ≤ a) (hq : pc + 1 = q)
    (g : ∀ h', Wr h h' a i (.int (nar .char x)) → Ari Z h' a .char xs' → GoB wf l Z y code ml ret R Q k n h' q Ls st) : GoB wf l Z y code ml ret R Q k n h pc Ls (.int x :: .int j :: .ref a :: st) := by
  subst hq hi
  refine GoB.move (P := fun h' => Wr h h' a j.toNatClampNeg (.int (nar .char x))) (kk := k) (nn := n) (fun h' W => g h' W (A.set W he)) ?_
  obtain ⟨cl, A, r, r2⟩ := A
  intro p e s m args below meth c K T L k' n' X h1 h2 N hT
  obtain ⟨T', h', X', e', W', s'⟩ := stC X K.1 K.2.2.1 hT A (own_in r hj rfl hx) (g := mkF m pc Ls (.int x :: .int j :: .ref a :: st)) rfl rfl (hb K.2.1 hd)
  exact ⟨T', _, k', n', X', h1, h2, Fr.snoc X' N hge, e' ▸ W', s'⟩
theorem Go.lastore {a : Addr} {j : Int32} {x : Int64} {xs : List Int64} (i : Nat) (xs' : List Int64) (q : Nat) (hd : decode code pc = .ok (.lastore, 1)) (A : Arj Z h a xs) (hj : ¬ j < 0) (hi : j.toNatClampNeg = i) (hx : i < xs.length) (he : xs.set i x = xs') (hge : Z.heap.size ≤ a) (hq : pc + 1 = q)
    (g : ∀ h', Wr h h' a i (.long x) → Arj Z h' a xs' → GoB wf l Z y code ml ret R Q k n h' q Ls st) : GoB wf l Z y code ml ret R Q k n h pc Ls (.long x :: .int j :: .ref a :: st) := by
  subst hq hi
  refine GoB.move (P := fun h' => Wr h h' a j.toNatClampNeg (.long x)) (kk := k) (nn := n) (fun h' W => g h' W (A.set W he)) ?_
  obtain ⟨cl, A, r, r2⟩ := A
  intro p e s m args below meth c K T L k' n' X h1 h2 N hT
  obtain ⟨T', h', X', e', W', s'⟩ := stJ X K.1 K.2.2.1 hT A (own_in r hj rfl hx) (g := mkF m pc Ls (.long x :: .int j :: .ref a :: st)) rfl rfl (hb K.2.1 hd)
  exact ⟨T', _, k', n', X', h1, h2, Fr.snoc X' N hge, e' ▸ W', s'⟩
theorem Go.newI {aty : ArrayType} {z : Int32} (cap : Nat) (xs : List Int32) (q : Nat) (hd : decode code pc = .ok (.newarray aty, 2)) (w : (Cond.arrayClass (newarray.typeOf aty)).before a0 Z = true) (hdv : defaultValue (newarray.typeOf aty) = .int 0) (hz : ¬ z < 0) (hcap : z.toNatClampNeg ≤ cap) (hbig : cap * 8 ≤ 536870912) (hxs : List.replicate z.toNatClampNeg 0 = xs) (hk : k + 1 ≤ R.cells) (hN : n + cap ≤ R.slots) (hq : pc + 2 = q)
    (g : ∀ (a : Addr) h', a = h.size → Ext h h' → Ari Z h' a (newarray.typeOf aty) xs → GoB wf l Z y code ml ret R Q (k + 1) (n + cap) h' q Ls (.ref a :: st)) : GoB wf l Z y code ml ret R Q k n h pc Ls (.int z :: st) := by
  subst hq hxs
  refine GoB.move (P := fun h' => Ext h h' ∧ Ari Z h' h.size (newarray.typeOf aty) (List.replicate z.toNatClampNeg 0)) (kk := k + 1) (nn := n + cap) (fun h' p => g h.size h' rfl p.1 p.2) ?_
  intro p e s m args below meth c K T L k' n' X h1 h2 N hT
  obtain ⟨T', h', cA, X', e', E', A', s'⟩ := newP X K.1 K.2.2.1 w hT (g := mkF m pc Ls (.int z :: st)) rfl (hb K.2.1 hd) rfl hz hcap hbig (Nat.le_trans (Nat.add_le_add_right h1 1) hk) (Nat.le_trans (Nat.add_le_add_right h2 cap) hN)
  subst e'
  refine ⟨T', L, k' + 1, n' + cap, X', Nat.add_le_add_right h1 1, Nat.add_le_add_right h2 cap, N, ⟨E', _, A', ?_, ?_⟩, s'⟩
  · show (Array.replicate z.toNatClampNeg (defaultValue (newarray.typeOf aty))).toList = _
    rw [hdv]; simp [List.map_replicate]
  · rw [List.length_replicate]; omega
theorem Go.newJ {aty : ArrayType} {z : Int32} (cap : Nat) (xs : List Int64) (q : Nat) (hd : decode code pc = .ok (.newarray aty, 2)) (w : (Cond.arrayClass (newarray.typeOf aty)).before a0 Z = true) (hdv : newarray.typeOf aty = .long) (hz : ¬ z < 0) (hcap : z.toNatClampNeg ≤ cap) (hbig : cap * 8 ≤ 536870912) (hxs : List.replicate z.toNatClampNeg 0 = xs) (hk : k + 1 ≤ R.cells) (hN : n + cap ≤ R.slots) (hq : pc + 2 = q)
    (g : ∀ (a : Addr) h', a = h.size → Ext h h' → Arj Z h' a xs → GoB wf l Z y code ml ret R Q (k + 1) (n + cap) h' q Ls (.ref a :: st)) : GoB wf l Z y code ml ret R Q k n h pc Ls (.int z :: st) := by
  subst hq hxs
  refine GoB.move (P := fun h' => Ext h h' ∧ Arj Z h' h.size (List.replicate z.toNatClampNeg 0)) (kk := k + 1) (nn := n + cap) (fun h' p => g h.size h' rfl p.1 p.2) ?_
  intro p e s m args below meth c K T L k' n' X h1 h2 N hT
  obtain ⟨T', h', cA, X', e', E', A', s'⟩ := newP X K.1 K.2.2.1 w hT (g := mkF m pc Ls (.int z :: st)) rfl (hb K.2.1 hd) rfl hz hcap hbig (Nat.le_trans (Nat.add_le_add_right h1 1) hk) (Nat.le_trans (Nat.add_le_add_right h2 cap) hN)
  subst e'
  refine ⟨T', L, k' + 1, n' + cap, X', Nat.add_le_add_right h1 1, Nat.add_le_add_right h2 cap, N, ⟨E', _, hdv ▸ A', ?_, ?_⟩, s'⟩
  · show (Array.replicate z.toNatClampNeg (defaultValue .long)).toList = _
    simp [List.map_replicate, defaultValue]
  · rw [List.length_replicate]; omega

theorem own_arv {a : Addr} {ty : FieldType} {xs : List Int32} (F : Ari Z h a ty xs) (hf : ∀ x ∈ xs, fits ty (.int x) = true) : ∃ k : ClassId, Arv Z h a k ty xs.length.toInt32 (xs.map Value.int) (.int 0) := by
  obtain ⟨c, A, r, r2⟩ := F
  have sz := own_size r
  have hz : ¬ xs.length.toInt32 < 0 := by
    have e := len_toInt (n := xs.length) (by omega)
    rw [Int32.lt_iff_toInt_lt, e]
    show ¬ (xs.length : Int) < 0
    omega
  have hn : xs.length.toInt32.toNatClampNeg = xs.length := by
    have e := nat_of hz
    have e2 := len_toInt (n := xs.length) (by omega)
    omega
  have hat : ∀ i, i < c.slots.size → ∃ x, xs[i]? = some x := fun i hi => ⟨xs[i]'(by omega), List.getElem?_eq_getElem (by omega)⟩
  refine ⟨c.cls, c, A, rfl, by rw [sz, hn], hz, fun i hi => ?_, fun i hi => ?_⟩
  · obtain ⟨x, hx⟩ := hat i hi
    rw [own_at r hx, List.getD_eq_getElem?_getD, List.getElem?_map, hx]; rfl
  · obtain ⟨x, hx⟩ := hat i hi
    rw [List.getD_eq_getElem?_getD, List.getElem?_map, hx]
    exact hf x (List.mem_of_getElem? hx)
theorem own_ari {a : Addr} {ty : FieldType} {k : ClassId} {z : Int32} {ys : List Int32} (F : Arv Z h a k ty z (ys.map Value.int) (.int 0)) (hl : z.toNatClampNeg = ys.length) (hb : ys.length < 2147483648) : Ari Z h a ty ys := by
  obtain ⟨c, A, -, sz, -, H, -⟩ := F
  refine ⟨c, A, ?_, hb⟩
  apply List.ext_getElem?
  intro i
  rw [List.getElem?_map]
  by_cases hi : i < c.slots.size
  · have q := H i hi
    rw [Array.getElem?_toList, q, List.getD_eq_getElem?_getD, List.getElem?_map, List.getElem?_eq_getElem (show i < ys.length by omega)]
    rfl
  · rw [List.getElem?_eq_none (by simpa using hi), List.getElem?_eq_none (show ys.length ≤ i by omega)]
    rfl
theorem Go.arraycopy {a b : Addr} {ty : FieldType} {xs ys ys' : List Int32} {sp dp nn : Int32} {i W : Nat} (sN dN n' : Nat) (q : Nat) (hd : decode code pc = .ok (.invokestatic i, 3)) (w1 : (Cond.methodLink y.cls i Jvm.Stand.acN).before a0 Z = true) (w2 : (Cond.native Jvm.Stand.acN).before a0 Z = true) (w3 : (Cond.static Jvm.Stand.acN).before a0 Z = true) (w4 : (Cond.initialized "java/lang/System").before a0 Z = true)
    (A : Ari Z h a ty xs) (B : Ari Z h b ty ys) (hfa : ∀ x ∈ xs, fits ty (.int x) = true) (hfb : ∀ x ∈ ys, fits ty (.int x) = true) (hty : refKind ty = false) (h1 : ¬ sp < 0) (h2 : ¬ dp < 0) (h3 : ¬ nn < 0) (e1 : sp.toNatClampNeg = sN) (e2 : dp.toNatClampNeg = dN) (e3 : nn.toNatClampNeg = n') (l1 : sN + n' ≤ xs.length) (l2 : dN + n' ≤ ys.length) (he : ys.take dN ++ (xs.drop sN).take n' ++ ys.drop (dN + n') = ys')
    (hge : Z.heap.size ≤ b) (hsz : Ls.size = ml) (hfr : 1 ≤ R.frames) (hW : (st.map fun v => v.category).sum ≤ W) (hlo : W + (nativeFrameWords "java/lang/System" "arraycopy" 5 + 11) ≤ R.locals) (hq : pc + 3 = q)
    (g : ∀ h', Keep h h' [b] → Ari Z h' b ty ys' → GoB wf l Z y code ml ret R Q k n h' q Ls st) : GoB wf l Z y code ml ret R Q k n h pc Ls (.int nn :: .int dp :: .ref b :: .int sp :: .ref a :: st) := by
  subst hq e1 e2 e3 he
  refine GoB.move (P := fun h' => Keep h h' [b] ∧ Ari Z h' b ty (ys.take dp.toNatClampNeg ++ (xs.drop sp.toNatClampNeg).take nn.toNatClampNeg ++ ys.drop (dp.toNatClampNeg + nn.toNatClampNeg))) (kk := k) (nn := n) (fun h' p => g h' p.1 p.2) ?_
  obtain ⟨ka, A'⟩ := own_arv A hfa
  obtain ⟨kb, B'⟩ := own_arv B hfb
  obtain ⟨_, _, _, bb⟩ := B
  obtain ⟨_, _, _, ba⟩ := A
  have na : xs.length.toInt32.toNatClampNeg = xs.length := by
    have hz : ¬ xs.length.toInt32 < 0 := A'.choose_spec.2.2.2.1
    have e := nat_of hz
    have e2 := len_toInt (n := xs.length) (by omega)
    omega
  have nb : ys.length.toInt32.toNatClampNeg = ys.length := by
    have hz : ¬ ys.length.toInt32 < 0 := B'.choose_spec.2.2.2.1
    have e := nat_of hz
    have e2 := len_toInt (n := ys.length) (by omega)
    omega
  have hus : ((xs.drop sp.toNatClampNeg).take nn.toNatClampNeg).map Value.int = (List.range nn.toNatClampNeg).map fun i => (xs.map Value.int).getD (sp.toNatClampNeg + i) (.int 0) := by
    apply List.ext_getElem?
    intro i
    simp only [List.getElem?_map, List.getElem?_take, List.getElem?_drop, List.getElem?_range']
    by_cases hi : i < nn.toNatClampNeg
    · rw [if_pos hi, List.getElem?_range hi, Option.map_some, List.getD_eq_getElem?_getD, List.getElem?_map, List.getElem?_eq_getElem (show sp.toNatClampNeg + i < xs.length by omega)]
      rfl
    · rw [if_neg hi, List.getElem?_eq_none (by simpa using hi)]
      rfl
  intro p e s m args below meth c K T L k' n' X h1' h2' N hT
  obtain ⟨T', h', L', X', e', N', K', B2, s'⟩ := cpA X K.1 K.2.2.1 K.2.2.2.1 w1 w2 w3 w4 hT A' B' (Or.inl ⟨rfl, hty⟩) h1 h2 h3 (by rw [na]; exact l1) (by rw [nb]; exact l2) hus (by rw [List.length_map]; exact l2) N hge (g := mkF m pc Ls (.int nn :: .int dp :: .ref b :: .int sp :: .ref a :: st)) rfl (hsz.trans K.2.2.2.2.1.symm) rfl (hb K.2.1 hd) hfr (W := W) (by show 2 * 0 + _ ≤ _; rw [Nat.mul_zero, Nat.zero_add]; exact hW) hlo
  subst e'
  refine ⟨T', L', k', n', X', h1', h2', N', ⟨K', own_ari (z := ys.length.toInt32) (k := kb) ?_ ?_ ?_⟩, s'⟩
  · rw [List.map_append, List.map_append, List.map_take, List.map_drop]; exact B2
  · rw [nb]; simp only [List.length_append, List.length_take, List.length_drop]; omega
  · simp only [List.length_append, List.length_take, List.length_drop]; omega


/-- a String constant: it may intern; the walk goes on over the re-based start -/
theorem Go.ldcS {i : Nat} {text : String} {P : Int32 → Heap → Prop} (nn : Nat) (q : Nat) (hd : decode code pc = .ok (.ldc i, 2)) (w1 : (Cond.stringLink y.cls i text).before a0 Z = true) (wS : ∀ a ∈ Bundle.stringAtoms, a.before a0 Z = true) (hn : 4 * text.toList.length ≤ nn) (hbig : nn ≤ 536870912) (hk : k + 2 ≤ R.cells) (hN : n + (nn + 4) ≤ R.slots) (hq : pc + 2 = q)
    (g : ∀ (a : Addr) h', Ext h h' → Go l Z y code ml ret R (QI fun z hf => P z hf ∧ h'.size ≤ hf.size) (k + 2) (n + (nn + 4)) h' q Ls (.ref a :: st)) : GoB true l Z y code ml ret R (QI P) k n h pc Ls st := by
  subst hq
  intro p e s m args below meth c K T L k' n' X h1 h2 N hT
  have hs0 : s.Since s.vm T.heap.size := State.WarmedH.since (State.WarmedH.refl s) _
  obtain ⟨a, T1, h', k1, X1, e1, E1, S1, l1, Z1, o1, st1⟩ := Jvm.RoadKit.ldcS (s := s) (vm0 := s.vm) X K.1 K.2.2.1 K.2.2.2.1 w1 wS hT hs0 (by rw [hT]; exact Nat.le_refl _) (g := mkF m pc Ls st) rfl (hb K.2.1 hd) hn hbig (Nat.le_trans (Nat.add_le_add_right h1 2) hk) (Nat.le_trans (Nat.add_le_add_right h2 _) hN)
  obtain ⟨s', v, T', L', k'', n'', ok', X', b1, b2, N', ⟨z, ez, q1, q2⟩, hv, stp⟩ := g a h' E1 p e (s.setVm T1.vm) m args below meth c ⟨K.1, K.2.1, Z1, o1, K.2.2.2.2⟩ T1 L (k' + 2) (n' + (nn + 4)) X1 (Nat.add_le_add_right h1 2) (Nat.add_le_add_right h2 _) N e1
  obtain rfl : s' = s.setVm T1.vm := ok'.elim id (fun q => absurd q.1 (by decide))
  exact ⟨_, v, T', L', k'', n'', Or.inr ⟨rfl, T1.vm, k1, rfl, S1, Nat.le_trans l1 q2⟩, X', b1, b2, N', ⟨z, ez, q1⟩, hv, fun fs hl => st1 _ (stp fs hl)⟩
/-- the whole body of a method that may intern -/
theorem Go.metW {as' : Array Value} (hx : plainFor y = true) (hent : ∀ m, entryFrame m as' ml = mkF m 0 Ls []) (G : GoB true l Z y code ml ret R Q 0 0 h 0 Ls []) (ws : List Jvm.Cond) :
    MetFree l y (head1 (Jvm.Cond.code y code ml ret :: ws) R) (fun a U => a = as' ∧ Z.Warmed39 U.vm ∧ U.heap = h) (fun _ _ _ _ _ => True) (fun _ U o U' => ∃ v L, o = .returned v ∧ (Q v U'.heap ∧ Fr Z.heap.size L) ∧ ((∃ v : Option Value, o = Outcome.returned v) ∧ U.Warmed39 U'.vm ∧ U.Booked U'.vm U'.heap.size ∧ U.sameButNew ({ U' with vm := U.vm } : State) L R.cells R.slots)) := by
  refine MetFree.of_bodySF hx hisR ?_
  intro p e s m args below meth c s₁ Bd hml hP hK
  obtain ⟨rfl, hZ, hh⟩ := hP
  have X0 : Stand p l e R s m args below meth c s₁ [] 0 0 := Stand.of_body Bd
  have e0 : s₁.heap = h := by rw [← hh, Bd.state]; rfl
  have hnm := (name_of_methodNamed Bd.named Bd.method).1
  have hlk := Bd.notSynchronized
  obtain ⟨s', v, T', L', k'', n'', ok', X', b1, b2, N', q, hv, stp⟩ := G p e s m args below meth c ⟨Bd.exec, Bd.bytes, hZ, findClass_of_methodNamed Bd.named, hml, Bd.returns, hlk, hnm⟩ s₁ [] 0 0 X0 (Nat.le_refl _) (Nat.le_refl _) (Fr.nil _) e0
  have hv' : meth.sig.returnType = none → v = none := fun hh => hv (by rw [← Bd.returns]; exact hh)
  rcases ok' with rfl | ⟨-, vm, k1, rfl, S1, l1⟩
  · obtain ⟨fs, hr, hrun, hended, hW, hsame⟩ := X'.leave (v := v) hv'
    obtain ⟨a1, a2, a3, a4⟩ := Jvm.RoadKit.wide (s := s') (o := .returned v) (L := L') (k := k'') (n := n'') ⟨⟨v, rfl⟩, hW, hsame⟩
    exact ⟨_, _, castTop (hent m) (stp fs hr), hrun, hended, v, L', rfl, ⟨q, N'⟩, ⟨_, rfl⟩, a2, a3, a4.mono b1 b2⟩
  · obtain ⟨fs, hr, hrun, hended, hW, hsame⟩ := X'.leave (v := v) hv' hlk
    obtain ⟨a1, a2, a3⟩ := S1.ended (U := T'.setFrames fs) hW l1 hsame
    exact ⟨_, _, castTop (hent m) (stp fs hr), hrun, hended, v, L', rfl, ⟨q, N'⟩, ⟨_, rfl⟩, a1, a2, a3.mono b1 b2⟩

theorem Go.istoreS {i : Nat} {v : Int32} {o : Slot} (q : Nat) (Ls' : Array Slot) (hd : decode code pc = .ok (.istore i, 2)) (hold : Ls[i]? = some o) (ho : o = .unset ∨ ∃ w, o = .val w ∧ w.category = 1) (he : Ls.setIfInBounds i (.val (.int v)) = Ls') (hq : pc + 2 = q) (g : GoB wf l Z y code ml ret R Q k n h q Ls' st) : GoB wf l Z y code ml ret R Q k n h pc Ls (.int v :: st) := by
  subst hq he; exact g.pure fun p e s m args below meth c K T L k' n' X hT t r => XS.istoreS X.here K.1 rfl (hb K.2.1 hd) rfl hold ho r
theorem Go.istoreNS {i : Fin 4} {v : Int32} {o : Slot} (q : Nat) (Ls' : Array Slot) (hd : decode code pc = .ok (.istore_n i, 1)) (hold : Ls[i.val]? = some o) (ho : o = .unset ∨ ∃ w, o = .val w ∧ w.category = 1) (he : Ls.setIfInBounds i.val (.val (.int v)) = Ls') (hq : pc + 1 = q) (g : GoB wf l Z y code ml ret R Q k n h q Ls' st) : GoB wf l Z y code ml ret R Q k n h pc Ls (.int v :: st) := by
  subst hq he; exact g.pure fun p e s m args below meth c K T L k' n' X hT t r => XS.istoreNS X.here K.1 rfl (hb K.2.1 hd) rfl hold ho r

theorem own_staK {h' : Heap} {C nm d : String} {v : Value} {ws : List Addr} (F : Sta Z h C nm d v) (K : Keep h h' ws) (hn : ∀ x ∈ ws, ∀ cell : Cell, h[x]? = some cell → cell.vm.isStatics = false) : Sta Z h' C nm d v := by
  obtain ⟨cf, i, k, f, st, cell, h1, h2, h3, h4, h5, h6, h7⟩ := F
  exact ⟨cf, i, k, f, st, cell, h1, h2, h3, h4, K.2.1 _ _ h5 (fun hm => by rw [hn _ hm _ h5] at h6; cases h6), h6, h7⟩
theorem Ari.nostat {a : Addr} {ty : FieldType} {xs : List Int32} (F : Ari Z h a ty xs) : ∀ cell : Cell, h[a]? = some cell → cell.vm.isStatics = false := fun cell q => by
  obtain ⟨c, A, -⟩ := F
  cases A.1.symm.trans q
  exact A.plain
theorem own_nost {a : Addr} {C : String} (E : Exa Z h a C) : ∀ cell : Cell, h[a]? = some cell → cell.vm.isStatics = false := fun cell q => by
  obtain ⟨c, k, h1, -, -, h4, -⟩ := E
  cases h1.symm.trans q
  exact h4
theorem own_nea {a b : Addr} {ty ty' : FieldType} {xs ys : List Int32} (F : Ari Z h a ty xs) (G : Ari Z h b ty' ys) (hn : ty ≠ ty') : a ≠ b := fun e => by
  subst e
  obtain ⟨c1, A1, -⟩ := F
  obtain ⟨c2, A2, -⟩ := G
  cases A1.1.symm.trans A2.1
  obtain ⟨-, k1, hk1, comp1, e1⟩ := A1.2.1
  obtain ⟨-, k2, hk2, comp2, e2⟩ := A2.2.1
  cases hk1.symm.trans hk2
  rw [e1] at e2
  cases e2
  exact hn rfl
theorem own_nef {a b : Addr} {O nm d : String} {v w : Value} (F : Fld Z h a O nm d v) (G : Fld Z h b O nm d w) (hn : v ≠ w) : a ≠ b := fun e => by
  subst e
  obtain ⟨c1, cf1, k1, i1, f1, a1, a2, -, -, -, -, a7⟩ := F
  obtain ⟨c2, cf2, k2, i2, f2, b1, b2, -, -, -, -, b7⟩ := G
  cases a1.symm.trans b1
  cases a2.symm.trans b2
  exact hn (Option.some.inj (a7.symm.trans b7))
/-- an array of references to objects of a class -/
def Aro (Z : State) (h : Heap) (a : Addr) (C : String) (vs : List Value) : Prop := ∃ c : Cell, Arr Z h a c (.object C) ∧ c.slots.toList = vs.map id ∧ Ovr Z c.cls C
theorem Aro.lt {a : Addr} {C : String} {vs : List Value} (F : Aro Z h a C vs) : a < h.size := by obtain ⟨c, A, -⟩ := F; exact A.lt
theorem Aro.ext {h' : Heap} {a : Addr} {C : String} {vs : List Value} (F : Aro Z h a C vs) (E : Ext h h') : Aro Z h' a C vs := by obtain ⟨c, A, r⟩ := F; exact ⟨c, A.ext E, r⟩
theorem Aro.other {h' : Heap} {a b : Addr} {sl : Nat} {v : Value} {C : String} {vs : List Value} (F : Aro Z h b C vs) (W : Wr h h' a sl v) (q : b ≠ a) : Aro Z h' b C vs := by obtain ⟨c, A, r⟩ := F; exact ⟨c, A.other W q, r⟩
theorem Aro.keep {h' : Heap} {a : Addr} {ws : List Addr} {C : String} {vs : List Value} (F : Aro Z h a C vs) (K : Keep h h' ws) (q : a ∉ ws) : Aro Z h' a C vs := by obtain ⟨c, A, r⟩ := F; exact ⟨c, ⟨K.2.1 _ _ A.1 q, A.2⟩, r⟩
theorem Aro.set {h' : Heap} {a : Addr} {C : String} {vs vs' : List Value} {i : Nat} {x : Value} (F : Aro Z h a C vs) (W : Wr h h' a i x) (e : vs.set i x = vs') : Aro Z h' a C vs' := by
  subst e
  obtain ⟨c, A, r, r2⟩ := F
  exact ⟨_, A.same W, own_set r i x, r2⟩
theorem Go.newR {i : Nat} {C : String} {z : Int32} (cap : Nat) (vs : List Value) (q : Nat) (hd : decode code pc = .ok (.anewarray i, 3)) (w1 : (Cond.classLink y.cls i C).before a0 Z = true) (w2 : (Cond.arrayOver (.object C)).before a0 Z = true) (hz : ¬ z < 0) (hcap : z.toNatClampNeg ≤ cap) (hbig : cap * 8 ≤ 536870912) (hxs : List.replicate z.toNatClampNeg Value.null = vs) (hk : k + 1 ≤ R.cells) (hN : n + cap ≤ R.slots) (hq : pc + 3 = q)
    (g : ∀ (a : Addr) h', a = h.size → Ext h h' → Aro Z h' a C vs → GoB wf l Z y code ml ret R Q (k + 1) (n + cap) h' q Ls (.ref a :: st)) : GoB wf l Z y code ml ret R Q k n h pc Ls (.int z :: st) := by
  subst hq hxs
  refine GoB.move (P := fun h' => Ext h h' ∧ Aro Z h' h.size C (List.replicate z.toNatClampNeg Value.null)) (kk := k + 1) (nn := n + cap) (fun h' p => g h.size h' rfl p.1 p.2) ?_
  intro p e s m args below meth c K T L k' n' X h1 h2 N hT
  obtain ⟨T', h', cA, X', e', E', A', O', s'⟩ := Jvm.RoadKit.newR X K.1 K.2.2.1 K.2.2.2.1 w1 w2 hT (g := mkF m pc Ls (.int z :: st)) rfl (hb K.2.1 hd) rfl hz hcap hbig (Nat.le_trans (Nat.add_le_add_right h1 1) hk) (Nat.le_trans (Nat.add_le_add_right h2 cap) hN)
  subst e'
  refine ⟨T', L, k' + 1, n' + cap, X', Nat.add_le_add_right h1 1, Nat.add_le_add_right h2 cap, N, ⟨E', _, A', ?_, O'⟩, s'⟩
  show (Array.replicate z.toNatClampNeg (defaultValue (.object C))).toList = _
  simp [defaultValue]
theorem Go.aastore {a b : Addr} {C : String} {j : Int32} {vs : List Value} (i : Nat) (vs' : List Value) (q : Nat) (hd : decode code pc = .ok (.aastore, 1)) (A : Aro Z h a C vs) (I : Ins Z h b C true) (hj : ¬ j < 0) (hi : j.toNatClampNeg = i) (hx : i < vs.length) (he : vs.set i (.ref b) = vs') (hge : Z.heap.size ≤ a) (hq : pc + 1 = q)
    (g : ∀ h', Wr h h' a i (.ref b) → Aro Z h' a C vs' → GoB wf l Z y code ml ret R Q k n h' q Ls st) : GoB wf l Z y code ml ret R Q k n h pc Ls (.ref b :: .int j :: .ref a :: st) := by
  subst hq hi
  refine GoB.move (P := fun h' => Wr h h' a j.toNatClampNeg (.ref b)) (kk := k) (nn := n) (fun h' W => g h' W (A.set W he)) ?_
  obtain ⟨cl, A, r, r2⟩ := A
  intro p e s m args below meth c K T L k' n' X h1 h2 N hT
  obtain ⟨T', h', X', e', W', s'⟩ := stR X K.1 K.2.2.1 hT A (own_in r hj rfl hx) rfl (Sto.of A r2 I) (g := mkF m pc Ls (.ref b :: .int j :: .ref a :: st)) rfl rfl (hb K.2.1 hd)
  exact ⟨T', _, k', n', X', h1, h2, Fr.snoc X' N hge, e' ▸ W', s'⟩
theorem Go.aaload {a : Addr} {C : String} {j : Int32} {x : Value} {vs : List Value} (i : Nat) (q : Nat) (hd : decode code pc = .ok (.aaload, 1)) (A : Aro Z h a C vs) (hj : ¬ j < 0) (hi : j.toNatClampNeg = i) (hx : vs[i]? = some x) (hq : pc + 1 = q) (g : GoB wf l Z y code ml ret R Q k n h q Ls (x :: st)) : GoB wf l Z y code ml ret R Q k n h pc Ls (.int j :: .ref a :: st) := by
  subst hq hi
  obtain ⟨cl, A, r, r2⟩ := A
  have hv := own_at r hx
  have hin := own_in r hj rfl (List.getElem?_eq_some_iff.mp hx).1
  exact g.pure fun p e s m args below meth c K T L k' n' X hT t rr => X.aaload K.1 (cell := cl) (v := x) (ty := .object C) (by rw [hT]; exact A.1) (State.isArrayOf_alike K.2.2.1.alike A.2.1) rfl A.2.2 hin hv (g := mkF m pc Ls (.int j :: .ref a :: st)) rfl rfl (hb K.2.1 hd) t rr
theorem Go.tsw {dflt low high : Int} {offs : Array Int} {len : Nat} {i : Int32} (o : Int) (q : Nat) (hd : decode code pc = .ok (.tableswitch dflt low high offs, len)) (hin : ¬ (i.toInt < low ∨ i.toInt > high)) (hoff : offs[(i.toInt - low).toNat]? = some o) (ho : 0 ≤ (pc : Int) + o) (hp : ((pc : Int) + o).toNat = q) (g : GoB wf l Z y code ml ret R Q k n h q Ls st) : GoB wf l Z y code ml ret R Q k n h pc Ls (.int i :: st) := by
  exact g.pure fun p e s m args below meth c K T L k' n' X hT t r => XS.tswIn X.here K.1 rfl rfl (hb K.2.1 hd) rfl hin hoff ho hp r
theorem Go.cast {i : Nat} {a : Addr} {D : String} (q : Nat) (hd : decode code pc = .ok (.checkcast i, 3)) (w : (Cond.classLink y.cls i D).before a0 Z = true) (F : Ins Z h a D true) (hq : pc + 3 = q) (g : GoB wf l Z y code ml ret R Q k n h q Ls (.ref a :: st)) : GoB wf l Z y code ml ret R Q k n h pc Ls (.ref a :: st) := by
  subst hq
  refine GoB.move (P := fun h' => h' = h) (kk := k) (nn := n) (fun h' e => e ▸ g) ?_
  intro p e s m args below meth c K T L k' n' X h1 h2 N hT
  obtain ⟨T', X', e', s'⟩ := castY X K.1 K.2.2.1 K.2.2.2.1 w hT F (g := mkF m pc Ls (.ref a :: st)) rfl rfl (hb K.2.1 hd)
  exact ⟨T', L, k', n', X', h1, h2, N, e', s'⟩
theorem Go.newIE {aty : ArrayType} {z : Int32} (cap : Nat) (xs : List Int32) (ad : String) (q : Nat) (hd : decode code pc = .ok (.newarray aty, 2)) (w : (Cond.arrayClass (newarray.typeOf aty)).before a0 Z = true) (hdv : defaultValue (newarray.typeOf aty) = .int 0) (had : "[" ++ (newarray.typeOf aty).toString = ad) (hz : ¬ z < 0) (hcap : z.toNatClampNeg ≤ cap) (hbig : cap * 8 ≤ 536870912) (hxs : List.replicate z.toNatClampNeg 0 = xs) (hk : k + 1 ≤ R.cells) (hN : n + cap ≤ R.slots) (hq : pc + 2 = q)
    (g : ∀ (a : Addr) h', a = h.size → Ext h h' → Ari Z h' a (newarray.typeOf aty) xs → Exa Z h' a ad → GoB wf l Z y code ml ret R Q (k + 1) (n + cap) h' q Ls (.ref a :: st)) : GoB wf l Z y code ml ret R Q k n h pc Ls (.int z :: st) := by
  subst hq hxs
  refine GoB.move (P := fun h' => Ext h h' ∧ Ari Z h' h.size (newarray.typeOf aty) (List.replicate z.toNatClampNeg 0) ∧ Exa Z h' h.size ad) (kk := k + 1) (nn := n + cap) (fun h' p => g h.size h' rfl p.1 p.2.1 p.2.2) ?_
  intro p e s m args below meth c K T L k' n' X h1 h2 N hT
  obtain ⟨T', h', cA, X', e', E', A', Ex', s'⟩ := newPE X K.1 K.2.2.1 w hT (g := mkF m pc Ls (.int z :: st)) rfl (hb K.2.1 hd) rfl hz hcap hbig (Nat.le_trans (Nat.add_le_add_right h1 1) hk) (Nat.le_trans (Nat.add_le_add_right h2 cap) hN) had
  subst e'
  refine ⟨T', L, k' + 1, n' + cap, X', Nat.add_le_add_right h1 1, Nat.add_le_add_right h2 cap, N, ⟨E', ⟨_, A', ?_, ?_⟩, Ex'⟩, s'⟩
  · show (Array.replicate z.toNatClampNeg (defaultValue (newarray.typeOf aty))).toList = _
    rw [hdv]; simp [List.map_replicate]
  · rw [List.length_replicate]; omega
theorem Go.clone {i W : Nat} {ad : String} {a : Addr} {ty : FieldType} {xs : List Int32} (cap : Nat) (q : Nat) (hd : decode code pc = .ok (.invokevirtual i, 3)) (w1 : (Cond.methodLink y.cls i ⟨ad, "clone", "()Ljava/lang/Object;"⟩).before a0 Z = true) (w2 : (Cond.sameMethod ad "java/lang/Object" "clone" "()Ljava/lang/Object;").before a0 Z = true) (w3 : (Cond.native ⟨"java/lang/Object", "clone", "()Ljava/lang/Object;"⟩).before a0 Z = true)
    (w4 : (Cond.instanceMethod ⟨"java/lang/Object", "clone", "()Ljava/lang/Object;"⟩).before a0 Z = true) (w5 : (Cond.selects ad ⟨ad, "clone", "()Ljava/lang/Object;"⟩ ⟨"java/lang/Object", "clone", "()Ljava/lang/Object;"⟩).before a0 Z = true) (w6 : (Cond.castable ad "java/lang/Cloneable").before a0 Z = true)
    (A : Ari Z h a ty xs) (E : Exa Z h a ad) (hf : ∀ x ∈ xs, fits ty (.int x) = true) (hsz : Ls.size = ml) (hfr : 1 ≤ R.frames) (hW : (st.map fun v => v.category).sum ≤ W) (hlo : W + 14 ≤ R.locals) (hcap : xs.length ≤ cap) (hk : k + 1 ≤ R.cells) (hN : n + cap ≤ R.slots) (hq : pc + 3 = q)
    (g : ∀ (b : Addr) h', b = h.size → Ext h h' → Ari Z h' b ty xs → Exa Z h' b ad → GoB wf l Z y code ml ret R Q (k + 1) (n + cap) h' q Ls (.ref b :: st)) : GoB wf l Z y code ml ret R Q k n h pc Ls (.ref a :: st) := by
  subst hq
  obtain ⟨cl, A, r, r2⟩ := A
  have FC : FitC Z cl := fitC_of A fun i hi v hv => by
    have e : cl.slots.toList[i]? = some v := by simpa using hv
    rw [r, List.getElem?_map] at e
    obtain ⟨x, hx, rfl⟩ := Option.map_eq_some_iff.mp e
    exact hf x (List.mem_of_getElem? hx)
  refine GoB.move (P := fun h' => Ext h h' ∧ Ari Z h' h.size ty xs ∧ Exa Z h' h.size ad) (kk := k + 1) (nn := n + cap) (fun h' p => g h.size h' rfl p.1 p.2.1 p.2.2) ?_
  intro p e s m args below meth c K T L k' n' X h1 h2 N hT
  obtain ⟨T', h', X', e', E', A', Ex', s'⟩ := cloneA X K.1 K.2.2.1 K.2.2.2.1 w1 w2 w3 w4 w5 w6 hT A E FC (g := mkF m pc Ls (.ref a :: st)) rfl (hsz.trans K.2.2.2.2.1.symm) rfl (hb K.2.1 hd) hfr (W := W) (by show 2 * 0 + _ ≤ _; rw [Nat.mul_zero, Nat.zero_add]; exact hW) hlo (by rw [own_size r]; exact hcap) (Nat.le_trans (Nat.add_le_add_right h1 1) hk) (Nat.le_trans (Nat.add_le_add_right h2 cap) hN)
  subst e'
  exact ⟨T', L, k' + 1, n' + cap, X', Nat.add_le_add_right h1 1, Nat.add_le_add_right h2 cap, N, ⟨E', ⟨_, A', r, r2⟩, Ex'⟩, s'⟩


/-- a static of a reference type: null or an address -/
def Str (Z : State) (h : Heap) (C nm d : String) : Prop := Sta Z h C nm d .null ∨ ∃ r : Addr, Sta Z h C nm d (.ref r)
theorem Str.ext {h' : Heap} {C nm d : String} (F : Str Z h C nm d) (E : Ext h h') : Str Z h' C nm d := F.imp (fun q => q.ext E) fun ⟨r, q⟩ => ⟨r, q.ext E⟩
theorem Str.wr {h' : Heap} {C nm d : String} {a : Addr} {sl : Nat} {v : Value} (F : Str Z h C nm d) (W : Wr h h' a sl v) : Str Z h' C nm d := F.imp (fun q => q.wr W) fun ⟨r, q⟩ => ⟨r, q.wr W⟩
theorem Str.keepN {h' : Heap} {C nm d : String} {ws : List Addr} (F : Str Z h C nm d) (K : Keep h h' ws) (hn : ∀ x ∈ ws, ∀ cell : Cell, h[x]? = some cell → cell.vm.isStatics = false) : Str Z h' C nm d := F.imp (fun q => own_staK q K hn) fun ⟨r, q⟩ => ⟨r, own_staK q K hn⟩

end Laws
end Jvm.OwnGo

namespace Jvm.Pilot.@@N@@
open Jvm Jvm.ClassFile Sem Op Lib Jvm.Free Jvm.Stand Jvm.LawKit Jvm.RoadKit Bundle Jvm.OwnGo Jvm.Pilot.@@N@@.Jvm.D
theorem pnx : plainName x.cls = true := by first | (simp [x, plainName, overriddenIn]; done) | decide +kernel
theorem tw0 {a0 : Array Value} {Z : State} (hw : ∀ d ∈ tables_1, d.before a0 Z = true) : ((Jvm.Cond.methodLink "com/example/medianpoint/medianpoint/AnswerPrinterSiteNumbersPinLaw" (7 : Nat) ({ cls := "com/example/medianpoint/medianpoint/AnswerPrinterSiteNumbersPinLaw", name := "site", desc := "(I)I" } : Jvm.MethodName))).before a0 Z = true := hw _ (List.mem_of_getElem? (i := 0) rfl)
theorem tw1 {a0 : Array Value} {Z : State} (hw : ∀ d ∈ tables_1, d.before a0 Z = true) : ((Jvm.Cond.static ({ cls := "com/example/medianpoint/medianpoint/AnswerPrinterSiteNumbersPinLaw", name := "site", desc := "(I)I" } : Jvm.MethodName))).before a0 Z = true := hw _ (List.mem_of_getElem? (i := 1) rfl)
theorem tw2 {a0 : Array Value} {Z : State} (hw : ∀ d ∈ tables_1, d.before a0 Z = true) : ((Jvm.Cond.initialized "com/example/medianpoint/medianpoint/AnswerPrinterSiteNumbersPinLaw")).before a0 Z = true := hw _ (List.mem_of_getElem? (i := 2) rfl)
theorem tw3 {a0 : Array Value} {Z : State} (hw : ∀ d ∈ tables_1, d.before a0 Z = true) : ((Jvm.Cond.code ({ cls := "com/example/medianpoint/medianpoint/AnswerPrinterSiteNumbersPinLaw", name := "site", desc := "(I)I" } : Jvm.MethodName) method_3_code (1 : Nat) (Option.some Jvm.ClassFile.FieldType.int))).before a0 Z = true := hw _ (List.mem_of_getElem? (i := 3) rfl)
theorem tw4 {a0 : Array Value} {Z : State} (hw : ∀ d ∈ tables_1, d.before a0 Z = true) : ((Jvm.Cond.constant "com/example/medianpoint/medianpoint/AnswerPrinterSiteNumbersPinLaw" (40 : Nat) (2147483647 : Int32))).before a0 Z = true := hw _ (List.mem_of_getElem? (i := 4) rfl)
theorem tw5 {a0 : Array Value} {Z : State} (hw : ∀ d ∈ tables_1, d.before a0 Z = true) : ((Jvm.Cond.arrayClass Jvm.ClassFile.FieldType.int)).before a0 Z = true := hw _ (List.mem_of_getElem? (i := 5) rfl)
theorem tw6 {a0 : Array Value} {Z : State} (hw : ∀ d ∈ tables_1, d.before a0 Z = true) : ((Jvm.Cond.methodLink "com/example/medianpoint/medianpoint/AnswerPrinterSiteNumbersPinLaw" (13 : Nat) ({ cls := "com/example/medianpoint/medianpoint/AnswerPrinter", name := "siteNumbers", desc := "([I)Ljava/lang/String;" } : Jvm.MethodName))).before a0 Z = true := hw _ (List.mem_of_getElem? (i := 6) rfl)
theorem tw7 {a0 : Array Value} {Z : State} (hw : ∀ d ∈ tables_1, d.before a0 Z = true) : ((Jvm.Cond.static ({ cls := "com/example/medianpoint/medianpoint/AnswerPrinter", name := "siteNumbers", desc := "([I)Ljava/lang/String;" } : Jvm.MethodName))).before a0 Z = true := hw _ (List.mem_of_getElem? (i := 7) rfl)
theorem tw8 {a0 : Array Value} {Z : State} (hw : ∀ d ∈ tables_1, d.before a0 Z = true) : ((Jvm.Cond.initialized "com/example/medianpoint/medianpoint/AnswerPrinter")).before a0 Z = true := hw _ (List.mem_of_getElem? (i := 8) rfl)
theorem tw9 {a0 : Array Value} {Z : State} (hw : ∀ d ∈ tables_1, d.before a0 Z = true) : ((Jvm.Cond.code ({ cls := "com/example/medianpoint/medianpoint/AnswerPrinter", name := "siteNumbers", desc := "([I)Ljava/lang/String;" } : Jvm.MethodName) prog_2_method_3_code (6 : Nat) (Option.some (Jvm.ClassFile.FieldType.object "java/lang/String")))).before a0 Z = true := hw _ (List.mem_of_getElem? (i := 9) rfl)
theorem tw10 {a0 : Array Value} {Z : State} (hw : ∀ d ∈ tables_1, d.before a0 Z = true) : ((Jvm.Cond.classLink "com/example/medianpoint/medianpoint/AnswerPrinter" (40 : Nat) "java/lang/StringBuilder")).before a0 Z = true := hw _ (List.mem_of_getElem? (i := 10) rfl)
theorem tw11 {a0 : Array Value} {Z : State} (hw : ∀ d ∈ tables_1, d.before a0 Z = true) : ((Jvm.Cond.instantiable "java/lang/StringBuilder" (4 : Nat))).before a0 Z = true := hw _ (List.mem_of_getElem? (i := 11) rfl)
theorem tw12 {a0 : Array Value} {Z : State} (hw : ∀ d ∈ tables_1, d.before a0 Z = true) : ((Jvm.Cond.initialized "java/lang/StringBuilder")).before a0 Z = true := hw _ (List.mem_of_getElem? (i := 12) rfl)
theorem tw13 {a0 : Array Value} {Z : State} (hw : ∀ d ∈ tables_1, d.before a0 Z = true) : ((Jvm.Cond.methodLink "com/example/medianpoint/medianpoint/AnswerPrinter" (42 : Nat) ({ cls := "java/lang/StringBuilder", name := "<init>", desc := "()V" } : Jvm.MethodName))).before a0 Z = true := hw _ (List.mem_of_getElem? (i := 13) rfl)
theorem tw14 {a0 : Array Value} {Z : State} (hw : ∀ d ∈ tables_1, d.before a0 Z = true) : ((Jvm.Cond.instanceMethod ({ cls := "java/lang/StringBuilder", name := "<init>", desc := "()V" } : Jvm.MethodName))).before a0 Z = true := hw _ (List.mem_of_getElem? (i := 14) rfl)
theorem tw15 {a0 : Array Value} {Z : State} (hw : ∀ d ∈ tables_1, d.before a0 Z = true) : ((Jvm.Cond.code ({ cls := "java/lang/StringBuilder", name := "<init>", desc := "()V" } : Jvm.MethodName) jdk_67_method_1_code (1 : Nat) (Option.none : Option Jvm.ClassFile.FieldType))).before a0 Z = true := hw _ (List.mem_of_getElem? (i := 15) rfl)
theorem tw16 {a0 : Array Value} {Z : State} (hw : ∀ d ∈ tables_1, d.before a0 Z = true) : ((Jvm.Cond.methodLink "java/lang/StringBuilder" (1 : Nat) ({ cls := "java/lang/AbstractStringBuilder", name := "<init>", desc := "(I)V" } : Jvm.MethodName))).before a0 Z = true := hw _ (List.mem_of_getElem? (i := 16) rfl)
theorem tw17 {a0 : Array Value} {Z : State} (hw : ∀ d ∈ tables_1, d.before a0 Z = true) : ((Jvm.Cond.instanceMethod ({ cls := "java/lang/AbstractStringBuilder", name := "<init>", desc := "(I)V" } : Jvm.MethodName))).before a0 Z = true := hw _ (List.mem_of_getElem? (i := 17) rfl)
theorem tw20 {a0 : Array Value} {Z : State} (hw : ∀ d ∈ tables_1, d.before a0 Z = true) : ((Jvm.Cond.initialized "java/lang/AbstractStringBuilder")).before a0 Z = true := hw _ (List.mem_of_getElem? (i := 20) rfl)
theorem tw21 {a0 : Array Value} {Z : State} (hw : ∀ d ∈ tables_1, d.before a0 Z = true) : ((Jvm.Cond.code ({ cls := "java/lang/AbstractStringBuilder", name := "<init>", desc := "(I)V" } : Jvm.MethodName) jdk_68_method_2_code (2 : Nat) (Option.none : Option Jvm.ClassFile.FieldType))).before a0 Z = true := hw _ (List.mem_of_getElem? (i := 21) rfl)
theorem tw22 {a0 : Array Value} {Z : State} (hw : ∀ d ∈ tables_1, d.before a0 Z = true) : ((Jvm.Cond.methodLink "java/lang/AbstractStringBuilder" (3 : Nat) ({ cls := "java/lang/Object", name := "<init>", desc := "()V" } : Jvm.MethodName))).before a0 Z = true := hw _ (List.mem_of_getElem? (i := 22) rfl)
theorem tw23 {a0 : Array Value} {Z : State} (hw : ∀ d ∈ tables_1, d.before a0 Z = true) : ((Jvm.Cond.instanceMethod ({ cls := "java/lang/Object", name := "<init>", desc := "()V" } : Jvm.MethodName))).before a0 Z = true := hw _ (List.mem_of_getElem? (i := 23) rfl)
theorem tw24 {a0 : Array Value} {Z : State} (hw : ∀ d ∈ tables_1, d.before a0 Z = true) : ((Jvm.Cond.code ({ cls := "java/lang/Object", name := "<init>", desc := "()V" } : Jvm.MethodName) object_method_1_code (1 : Nat) (Option.none : Option Jvm.ClassFile.FieldType))).before a0 Z = true := hw _ (List.mem_of_getElem? (i := 24) rfl)
theorem tw25 {a0 : Array Value} {Z : State} (hw : ∀ d ∈ tables_1, d.before a0 Z = true) : ((Jvm.Cond.fieldLink "java/lang/AbstractStringBuilder" (18 : Nat) "java/lang/String" "COMPACT_STRINGS" "Z")).before a0 Z = true := hw _ (List.mem_of_getElem? (i := 25) rfl)
theorem tw26 {a0 : Array Value} {Z : State} (hw : ∀ d ∈ tables_1, d.before a0 Z = true) : ((Jvm.Cond.initialized "java/lang/String")).before a0 Z = true := hw _ (List.mem_of_getElem? (i := 26) rfl)
theorem tw27 {a0 : Array Value} {Z : State} (hw : ∀ d ∈ tables_1, d.before a0 Z = true) : ((Jvm.Cond.arrayClass Jvm.ClassFile.FieldType.byte)).before a0 Z = true := hw _ (List.mem_of_getElem? (i := 27) rfl)
theorem tw28 {a0 : Array Value} {Z : State} (hw : ∀ d ∈ tables_1, d.before a0 Z = true) : ((Jvm.Cond.fieldLink "java/lang/AbstractStringBuilder" (15 : Nat) "java/lang/AbstractStringBuilder" "value" "[B")).before a0 Z = true := hw _ (List.mem_of_getElem? (i := 28) rfl)
theorem tw29 {a0 : Array Value} {Z : State} (hw : ∀ d ∈ tables_1, d.before a0 Z = true) : ((Jvm.Cond.lays "java/lang/StringBuilder" "java/lang/AbstractStringBuilder" "value" "[B")).before a0 Z = true := hw _ (List.mem_of_getElem? (i := 29) rfl)
theorem tw30 {a0 : Array Value} {Z : State} (hw : ∀ d ∈ tables_1, d.before a0 Z = true) : ((Jvm.Cond.fieldLink "java/lang/AbstractStringBuilder" (22 : Nat) "java/lang/AbstractStringBuilder" "coder" "B")).before a0 Z = true := hw _ (List.mem_of_getElem? (i := 30) rfl)
theorem tw31 {a0 : Array Value} {Z : State} (hw : ∀ d ∈ tables_1, d.before a0 Z = true) : ((Jvm.Cond.lays "java/lang/StringBuilder" "java/lang/AbstractStringBuilder" "coder" "B")).before a0 Z = true := hw _ (List.mem_of_getElem? (i := 31) rfl)
theorem tw32 {a0 : Array Value} {Z : State} (hw : ∀ d ∈ tables_1, d.before a0 Z = true) : ((Jvm.Cond.methodLink "com/example/medianpoint/medianpoint/AnswerPrinter" (54 : Nat) ({ cls := "java/lang/StringBuilder", name := "toString", desc := "()Ljava/lang/String;" } : Jvm.MethodName))).before a0 Z = true := hw _ (List.mem_of_getElem? (i := 32) rfl)
theorem tw33 {a0 : Array Value} {Z : State} (hw : ∀ d ∈ tables_1, d.before a0 Z = true) : ((Jvm.Cond.declares ({ cls := "java/lang/StringBuilder", name := "toString", desc := "()Ljava/lang/String;" } : Jvm.MethodName))).before a0 Z = true := hw _ (List.mem_of_getElem? (i := 33) rfl)
theorem tw34 {a0 : Array Value} {Z : State} (hw : ∀ d ∈ tables_1, d.before a0 Z = true) : ((Jvm.Cond.instanceMethod ({ cls := "java/lang/StringBuilder", name := "toString", desc := "()Ljava/lang/String;" } : Jvm.MethodName))).before a0 Z = true := hw _ (List.mem_of_getElem? (i := 34) rfl)
theorem tw35 {a0 : Array Value} {Z : State} (hw : ∀ d ∈ tables_1, d.before a0 Z = true) : ((Jvm.Cond.selects "java/lang/StringBuilder" ({ cls := "java/lang/StringBuilder", name := "toString", desc := "()Ljava/lang/String;" } : Jvm.MethodName) ({ cls := "java/lang/StringBuilder", name := "toString", desc := "()Ljava/lang/String;" } : Jvm.MethodName))).before a0 Z = true := hw _ (List.mem_of_getElem? (i := 35) rfl)
theorem tw36 {a0 : Array Value} {Z : State} (hw : ∀ d ∈ tables_1, d.before a0 Z = true) : ((Jvm.Cond.code ({ cls := "java/lang/StringBuilder", name := "toString", desc := "()Ljava/lang/String;" } : Jvm.MethodName) jdk_67_method_42_code (1 : Nat) (Option.some (Jvm.ClassFile.FieldType.object "java/lang/String")))).before a0 Z = true := hw _ (List.mem_of_getElem? (i := 36) rfl)
theorem tw37 {a0 : Array Value} {Z : State} (hw : ∀ d ∈ tables_1, d.before a0 Z = true) : ((Jvm.Cond.classLink "java/lang/StringBuilder" (18 : Nat) "java/lang/String")).before a0 Z = true := hw _ (List.mem_of_getElem? (i := 37) rfl)
theorem tw38 {a0 : Array Value} {Z : State} (hw : ∀ d ∈ tables_1, d.before a0 Z = true) : ((Jvm.Cond.instantiable "java/lang/String" (4 : Nat))).before a0 Z = true := hw _ (List.mem_of_getElem? (i := 38) rfl)
theorem tw39 {a0 : Array Value} {Z : State} (hw : ∀ d ∈ tables_1, d.before a0 Z = true) : ((Jvm.Cond.methodLink "java/lang/StringBuilder" (137 : Nat) ({ cls := "java/lang/String", name := "<init>", desc := "(Ljava/lang/StringBuilder;)V" } : Jvm.MethodName))).before a0 Z = true := hw _ (List.mem_of_getElem? (i := 39) rfl)
theorem tw40 {a0 : Array Value} {Z : State} (hw : ∀ d ∈ tables_1, d.before a0 Z = true) : ((Jvm.Cond.instanceMethod ({ cls := "java/lang/String", name := "<init>", desc := "(Ljava/lang/StringBuilder;)V" } : Jvm.MethodName))).before a0 Z = true := hw _ (List.mem_of_getElem? (i := 40) rfl)
theorem tw42 {a0 : Array Value} {Z : State} (hw : ∀ d ∈ tables_1, d.before a0 Z = true) : ((Jvm.Cond.code ({ cls := "java/lang/String", name := "<init>", desc := "(Ljava/lang/StringBuilder;)V" } : Jvm.MethodName) jdk_42_method_53_code (2 : Nat) (Option.none : Option Jvm.ClassFile.FieldType))).before a0 Z = true := hw _ (List.mem_of_getElem? (i := 42) rfl)
theorem tw43 {a0 : Array Value} {Z : State} (hw : ∀ d ∈ tables_1, d.before a0 Z = true) : ((Jvm.Cond.methodLink "java/lang/String" (489 : Nat) ({ cls := "java/lang/String", name := "<init>", desc := "(Ljava/lang/AbstractStringBuilder;Ljava/lang/Void;)V" } : Jvm.MethodName))).before a0 Z = true := hw _ (List.mem_of_getElem? (i := 43) rfl)
theorem tw44 {a0 : Array Value} {Z : State} (hw : ∀ d ∈ tables_1, d.before a0 Z = true) : ((Jvm.Cond.instanceMethod ({ cls := "java/lang/String", name := "<init>", desc := "(Ljava/lang/AbstractStringBuilder;Ljava/lang/Void;)V" } : Jvm.MethodName))).before a0 Z = true := hw _ (List.mem_of_getElem? (i := 44) rfl)
theorem tw45 {a0 : Array Value} {Z : State} (hw : ∀ d ∈ tables_1, d.before a0 Z = true) : ((Jvm.Cond.code ({ cls := "java/lang/String", name := "<init>", desc := "(Ljava/lang/AbstractStringBuilder;Ljava/lang/Void;)V" } : Jvm.MethodName) jdk_42_method_150_code (5 : Nat) (Option.none : Option Jvm.ClassFile.FieldType))).before a0 Z = true := hw _ (List.mem_of_getElem? (i := 45) rfl)
theorem tw46 {a0 : Array Value} {Z : State} (hw : ∀ d ∈ tables_1, d.before a0 Z = true) : ((Jvm.Cond.methodLink "java/lang/String" (1 : Nat) ({ cls := "java/lang/Object", name := "<init>", desc := "()V" } : Jvm.MethodName))).before a0 Z = true := hw _ (List.mem_of_getElem? (i := 46) rfl)
theorem tw47 {a0 : Array Value} {Z : State} (hw : ∀ d ∈ tables_1, d.before a0 Z = true) : ((Jvm.Cond.methodLink "java/lang/String" (552 : Nat) ({ cls := "java/lang/AbstractStringBuilder", name := "getValue", desc := "()[B" } : Jvm.MethodName))).before a0 Z = true := hw _ (List.mem_of_getElem? (i := 47) rfl)
theorem tw48 {a0 : Array Value} {Z : State} (hw : ∀ d ∈ tables_1, d.before a0 Z = true) : ((Jvm.Cond.declares ({ cls := "java/lang/AbstractStringBuilder", name := "getValue", desc := "()[B" } : Jvm.MethodName))).before a0 Z = true := hw _ (List.mem_of_getElem? (i := 48) rfl)
theorem tw49 {a0 : Array Value} {Z : State} (hw : ∀ d ∈ tables_1, d.before a0 Z = true) : ((Jvm.Cond.instanceMethod ({ cls := "java/lang/AbstractStringBuilder", name := "getValue", desc := "()[B" } : Jvm.MethodName))).before a0 Z = true := hw _ (List.mem_of_getElem? (i := 49) rfl)
theorem tw50 {a0 : Array Value} {Z : State} (hw : ∀ d ∈ tables_1, d.before a0 Z = true) : ((Jvm.Cond.selects "java/lang/StringBuilder" ({ cls := "java/lang/AbstractStringBuilder", name := "getValue", desc := "()[B" } : Jvm.MethodName) ({ cls := "java/lang/AbstractStringBuilder", name := "getValue", desc := "()[B" } : Jvm.MethodName))).before a0 Z = true := hw _ (List.mem_of_getElem? (i := 50) rfl)
theorem tw51 {a0 : Array Value} {Z : State} (hw : ∀ d ∈ tables_1, d.before a0 Z = true) : ((Jvm.Cond.code ({ cls := "java/lang/AbstractStringBuilder", name := "getValue", desc := "()[B" } : Jvm.MethodName) jdk_68_method_64_code (1 : Nat) (Option.some (Jvm.ClassFile.FieldType.array Jvm.ClassFile.FieldType.byte)))).before a0 Z = true := hw _ (List.mem_of_getElem? (i := 51) rfl)
theorem tw52 {a0 : Array Value} {Z : State} (hw : ∀ d ∈ tables_1, d.before a0 Z = true) : ((Jvm.Cond.methodLink "java/lang/String" (549 : Nat) ({ cls := "java/lang/AbstractStringBuilder", name := "length", desc := "()I" } : Jvm.MethodName))).before a0 Z = true := hw _ (List.mem_of_getElem? (i := 52) rfl)
theorem tw53 {a0 : Array Value} {Z : State} (hw : ∀ d ∈ tables_1, d.before a0 Z = true) : ((Jvm.Cond.declares ({ cls := "java/lang/AbstractStringBuilder", name := "length", desc := "()I" } : Jvm.MethodName))).before a0 Z = true := hw _ (List.mem_of_getElem? (i := 53) rfl)
theorem tw54 {a0 : Array Value} {Z : State} (hw : ∀ d ∈ tables_1, d.before a0 Z = true) : ((Jvm.Cond.instanceMethod ({ cls := "java/lang/AbstractStringBuilder", name := "length", desc := "()I" } : Jvm.MethodName))).before a0 Z = true := hw _ (List.mem_of_getElem? (i := 54) rfl)
theorem tw55 {a0 : Array Value} {Z : State} (hw : ∀ d ∈ tables_1, d.before a0 Z = true) : ((Jvm.Cond.selects "java/lang/StringBuilder" ({ cls := "java/lang/AbstractStringBuilder", name := "length", desc := "()I" } : Jvm.MethodName) ({ cls := "java/lang/StringBuilder", name := "length", desc := "()I" } : Jvm.MethodName))).before a0 Z = true := hw _ (List.mem_of_getElem? (i := 55) rfl)
theorem tw56 {a0 : Array Value} {Z : State} (hw : ∀ d ∈ tables_1, d.before a0 Z = true) : ((Jvm.Cond.instanceMethod ({ cls := "java/lang/StringBuilder", name := "length", desc := "()I" } : Jvm.MethodName))).before a0 Z = true := hw _ (List.mem_of_getElem? (i := 56) rfl)
theorem tw57 {a0 : Array Value} {Z : State} (hw : ∀ d ∈ tables_1, d.before a0 Z = true) : ((Jvm.Cond.code ({ cls := "java/lang/StringBuilder", name := "length", desc := "()I" } : Jvm.MethodName) jdk_67_method_93_code (1 : Nat) (Option.some Jvm.ClassFile.FieldType.int))).before a0 Z = true := hw _ (List.mem_of_getElem? (i := 57) rfl)
theorem tw58 {a0 : Array Value} {Z : State} (hw : ∀ d ∈ tables_1, d.before a0 Z = true) : ((Jvm.Cond.methodLink "java/lang/StringBuilder" (343 : Nat) ({ cls := "java/lang/AbstractStringBuilder", name := "length", desc := "()I" } : Jvm.MethodName))).before a0 Z = true := hw _ (List.mem_of_getElem? (i := 58) rfl)
theorem tw59 {a0 : Array Value} {Z : State} (hw : ∀ d ∈ tables_1, d.before a0 Z = true) : ((Jvm.Cond.superclass "java/lang/StringBuilder" "java/lang/AbstractStringBuilder")).before a0 Z = true := hw _ (List.mem_of_getElem? (i := 59) rfl)
theorem tw60 {a0 : Array Value} {Z : State} (hw : ∀ d ∈ tables_1, d.before a0 Z = true) : ((Jvm.Cond.code ({ cls := "java/lang/AbstractStringBuilder", name := "length", desc := "()I" } : Jvm.MethodName) jdk_68_method_6_code (1 : Nat) (Option.some Jvm.ClassFile.FieldType.int))).before a0 Z = true := hw _ (List.mem_of_getElem? (i := 60) rfl)
theorem tw61 {a0 : Array Value} {Z : State} (hw : ∀ d ∈ tables_1, d.before a0 Z = true) : ((Jvm.Cond.fieldLink "java/lang/AbstractStringBuilder" (79 : Nat) "java/lang/AbstractStringBuilder" "count" "I")).before a0 Z = true := hw _ (List.mem_of_getElem? (i := 61) rfl)
theorem tw62 {a0 : Array Value} {Z : State} (hw : ∀ d ∈ tables_1, d.before a0 Z = true) : ((Jvm.Cond.lays "java/lang/StringBuilder" "java/lang/AbstractStringBuilder" "count" "I")).before a0 Z = true := hw _ (List.mem_of_getElem? (i := 62) rfl)
theorem tw63 {a0 : Array Value} {Z : State} (hw : ∀ d ∈ tables_1, d.before a0 Z = true) : ((Jvm.Cond.methodLink "java/lang/String" (1047 : Nat) ({ cls := "java/lang/AbstractStringBuilder", name := "isLatin1", desc := "()Z" } : Jvm.MethodName))).before a0 Z = true := hw _ (List.mem_of_getElem? (i := 63) rfl)
theorem tw64 {a0 : Array Value} {Z : State} (hw : ∀ d ∈ tables_1, d.before a0 Z = true) : ((Jvm.Cond.declares ({ cls := "java/lang/AbstractStringBuilder", name := "isLatin1", desc := "()Z" } : Jvm.MethodName))).before a0 Z = true := hw _ (List.mem_of_getElem? (i := 64) rfl)
theorem tw65 {a0 : Array Value} {Z : State} (hw : ∀ d ∈ tables_1, d.before a0 Z = true) : ((Jvm.Cond.instanceMethod ({ cls := "java/lang/AbstractStringBuilder", name := "isLatin1", desc := "()Z" } : Jvm.MethodName))).before a0 Z = true := hw _ (List.mem_of_getElem? (i := 65) rfl)
theorem tw66 {a0 : Array Value} {Z : State} (hw : ∀ d ∈ tables_1, d.before a0 Z = true) : ((Jvm.Cond.selects "java/lang/StringBuilder" ({ cls := "java/lang/AbstractStringBuilder", name := "isLatin1", desc := "()Z" } : Jvm.MethodName) ({ cls := "java/lang/AbstractStringBuilder", name := "isLatin1", desc := "()Z" } : Jvm.MethodName))).before a0 Z = true := hw _ (List.mem_of_getElem? (i := 66) rfl)
theorem tw67 {a0 : Array Value} {Z : State} (hw : ∀ d ∈ tables_1, d.before a0 Z = true) : ((Jvm.Cond.code ({ cls := "java/lang/AbstractStringBuilder", name := "isLatin1", desc := "()Z" } : Jvm.MethodName) jdk_68_method_68_code (1 : Nat) (Option.some Jvm.ClassFile.FieldType.boolean))).before a0 Z = true := hw _ (List.mem_of_getElem? (i := 67) rfl)
theorem tw68 {a0 : Array Value} {Z : State} (hw : ∀ d ∈ tables_1, d.before a0 Z = true) : ((Jvm.Cond.fieldLink "java/lang/String" (15 : Nat) "java/lang/String" "coder" "B")).before a0 Z = true := hw _ (List.mem_of_getElem? (i := 68) rfl)
theorem tw69 {a0 : Array Value} {Z : State} (hw : ∀ d ∈ tables_1, d.before a0 Z = true) : ((Jvm.Cond.laysFinal "java/lang/String" "java/lang/String" "coder" "B")).before a0 Z = true := hw _ (List.mem_of_getElem? (i := 69) rfl)
theorem tw70 {a0 : Array Value} {Z : State} (hw : ∀ d ∈ tables_1, d.before a0 Z = true) : ((Jvm.Cond.methodLink "java/lang/String" (54 : Nat) ({ cls := "java/util/Arrays", name := "copyOfRange", desc := "([BII)[B" } : Jvm.MethodName))).before a0 Z = true := hw _ (List.mem_of_getElem? (i := 70) rfl)
theorem tw71 {a0 : Array Value} {Z : State} (hw : ∀ d ∈ tables_1, d.before a0 Z = true) : ((Jvm.Cond.static ({ cls := "java/util/Arrays", name := "copyOfRange", desc := "([BII)[B" } : Jvm.MethodName))).before a0 Z = true := hw _ (List.mem_of_getElem? (i := 71) rfl)
theorem tw72 {a0 : Array Value} {Z : State} (hw : ∀ d ∈ tables_1, d.before a0 Z = true) : ((Jvm.Cond.initialized "java/util/Arrays")).before a0 Z = true := hw _ (List.mem_of_getElem? (i := 72) rfl)
theorem tw73 {a0 : Array Value} {Z : State} (hw : ∀ d ∈ tables_1, d.before a0 Z = true) : ((Jvm.Cond.code ({ cls := "java/util/Arrays", name := "copyOfRange", desc := "([BII)[B" } : Jvm.MethodName) jdk_65_method_132_code (3 : Nat) (Option.some (Jvm.ClassFile.FieldType.array Jvm.ClassFile.FieldType.byte)))).before a0 Z = true := hw _ (List.mem_of_getElem? (i := 73) rfl)
theorem tw74 {a0 : Array Value} {Z : State} (hw : ∀ d ∈ tables_1, d.before a0 Z = true) : ((Jvm.Cond.methodLink "java/util/Arrays" (339 : Nat) ({ cls := "java/util/Arrays", name := "copyOfRangeByte", desc := "([BII)[B" } : Jvm.MethodName))).before a0 Z = true := hw _ (List.mem_of_getElem? (i := 74) rfl)
theorem tw75 {a0 : Array Value} {Z : State} (hw : ∀ d ∈ tables_1, d.before a0 Z = true) : ((Jvm.Cond.static ({ cls := "java/util/Arrays", name := "copyOfRangeByte", desc := "([BII)[B" } : Jvm.MethodName))).before a0 Z = true := hw _ (List.mem_of_getElem? (i := 75) rfl)
theorem tw76 {a0 : Array Value} {Z : State} (hw : ∀ d ∈ tables_1, d.before a0 Z = true) : ((Jvm.Cond.code ({ cls := "java/util/Arrays", name := "copyOfRangeByte", desc := "([BII)[B" } : Jvm.MethodName) jdk_65_method_133_code (5 : Nat) (Option.some (Jvm.ClassFile.FieldType.array Jvm.ClassFile.FieldType.byte)))).before a0 Z = true := hw _ (List.mem_of_getElem? (i := 76) rfl)
theorem tw77 {a0 : Array Value} {Z : State} (hw : ∀ d ∈ tables_1, d.before a0 Z = true) : ((Jvm.Cond.methodLink "java/util/Arrays" (343 : Nat) ({ cls := "java/util/Arrays", name := "checkLength", desc := "(II)V" } : Jvm.MethodName))).before a0 Z = true := hw _ (List.mem_of_getElem? (i := 77) rfl)
theorem tw78 {a0 : Array Value} {Z : State} (hw : ∀ d ∈ tables_1, d.before a0 Z = true) : ((Jvm.Cond.static ({ cls := "java/util/Arrays", name := "checkLength", desc := "(II)V" } : Jvm.MethodName))).before a0 Z = true := hw _ (List.mem_of_getElem? (i := 78) rfl)
theorem tw79 {a0 : Array Value} {Z : State} (hw : ∀ d ∈ tables_1, d.before a0 Z = true) : ((Jvm.Cond.code ({ cls := "java/util/Arrays", name := "checkLength", desc := "(II)V" } : Jvm.MethodName) jdk_65_method_131_code (2 : Nat) (Option.none : Option Jvm.ClassFile.FieldType))).before a0 Z = true := hw _ (List.mem_of_getElem? (i := 79) rfl)
theorem tw80 {a0 : Array Value} {Z : State} (hw : ∀ d ∈ tables_1, d.before a0 Z = true) : ((Jvm.Cond.methodLink "java/util/Arrays" (304 : Nat) ({ cls := "java/lang/Math", name := "min", desc := "(II)I" } : Jvm.MethodName))).before a0 Z = true := hw _ (List.mem_of_getElem? (i := 80) rfl)
theorem tw81 {a0 : Array Value} {Z : State} (hw : ∀ d ∈ tables_1, d.before a0 Z = true) : ((Jvm.Cond.static ({ cls := "java/lang/Math", name := "min", desc := "(II)I" } : Jvm.MethodName))).before a0 Z = true := hw _ (List.mem_of_getElem? (i := 81) rfl)
theorem tw82 {a0 : Array Value} {Z : State} (hw : ∀ d ∈ tables_1, d.before a0 Z = true) : ((Jvm.Cond.initialized "java/lang/Math")).before a0 Z = true := hw _ (List.mem_of_getElem? (i := 82) rfl)
theorem tw83 {a0 : Array Value} {Z : State} (hw : ∀ d ∈ tables_1, d.before a0 Z = true) : ((Jvm.Cond.code ({ cls := "java/lang/Math", name := "min", desc := "(II)I" } : Jvm.MethodName) jdk_29_method_69_code (2 : Nat) (Option.some Jvm.ClassFile.FieldType.int))).before a0 Z = true := hw _ (List.mem_of_getElem? (i := 83) rfl)
theorem tw84 {a0 : Array Value} {Z : State} (hw : ∀ d ∈ tables_1, d.before a0 Z = true) : ((Jvm.Cond.methodLink "java/util/Arrays" (150 : Nat) ({ cls := "java/lang/System", name := "arraycopy", desc := "(Ljava/lang/Object;ILjava/lang/Object;II)V" } : Jvm.MethodName))).before a0 Z = true := hw _ (List.mem_of_getElem? (i := 84) rfl)
theorem tw85 {a0 : Array Value} {Z : State} (hw : ∀ d ∈ tables_1, d.before a0 Z = true) : ((Jvm.Cond.static ({ cls := "java/lang/System", name := "arraycopy", desc := "(Ljava/lang/Object;ILjava/lang/Object;II)V" } : Jvm.MethodName))).before a0 Z = true := hw _ (List.mem_of_getElem? (i := 85) rfl)
theorem tw86 {a0 : Array Value} {Z : State} (hw : ∀ d ∈ tables_1, d.before a0 Z = true) : ((Jvm.Cond.initialized "java/lang/System")).before a0 Z = true := hw _ (List.mem_of_getElem? (i := 86) rfl)
theorem tw87 {a0 : Array Value} {Z : State} (hw : ∀ d ∈ tables_1, d.before a0 Z = true) : ((Jvm.Cond.native ({ cls := "java/lang/System", name := "arraycopy", desc := "(Ljava/lang/Object;ILjava/lang/Object;II)V" } : Jvm.MethodName))).before a0 Z = true := hw _ (List.mem_of_getElem? (i := 87) rfl)
theorem tw88 {a0 : Array Value} {Z : State} (hw : ∀ d ∈ tables_1, d.before a0 Z = true) : ((Jvm.Cond.fieldLink "java/lang/String" (9 : Nat) "java/lang/String" "value" "[B")).before a0 Z = true := hw _ (List.mem_of_getElem? (i := 88) rfl)
theorem tw89 {a0 : Array Value} {Z : State} (hw : ∀ d ∈ tables_1, d.before a0 Z = true) : ((Jvm.Cond.laysFinal "java/lang/String" "java/lang/String" "value" "[B")).before a0 Z = true := hw _ (List.mem_of_getElem? (i := 89) rfl)
theorem tw90 {a0 : Array Value} {Z : State} (hw : ∀ d ∈ tables_1, d.before a0 Z = true) : ((Jvm.Cond.methodLink "com/example/medianpoint/medianpoint/AnswerPrinterSiteNumbersPinLaw" (19 : Nat) ({ cls := "java/lang/String", name := "isEmpty", desc := "()Z" } : Jvm.MethodName))).before a0 Z = true := hw _ (List.mem_of_getElem? (i := 90) rfl)
theorem tw91 {a0 : Array Value} {Z : State} (hw : ∀ d ∈ tables_1, d.before a0 Z = true) : ((Jvm.Cond.declares ({ cls := "java/lang/String", name := "isEmpty", desc := "()Z" } : Jvm.MethodName))).before a0 Z = true := hw _ (List.mem_of_getElem? (i := 91) rfl)
theorem tw92 {a0 : Array Value} {Z : State} (hw : ∀ d ∈ tables_1, d.before a0 Z = true) : ((Jvm.Cond.instanceMethod ({ cls := "java/lang/String", name := "isEmpty", desc := "()Z" } : Jvm.MethodName))).before a0 Z = true := hw _ (List.mem_of_getElem? (i := 92) rfl)
theorem tw93 {a0 : Array Value} {Z : State} (hw : ∀ d ∈ tables_1, d.before a0 Z = true) : ((Jvm.Cond.selects "java/lang/String" ({ cls := "java/lang/String", name := "isEmpty", desc := "()Z" } : Jvm.MethodName) ({ cls := "java/lang/String", name := "isEmpty", desc := "()Z" } : Jvm.MethodName))).before a0 Z = true := hw _ (List.mem_of_getElem? (i := 93) rfl)
theorem tw94 {a0 : Array Value} {Z : State} (hw : ∀ d ∈ tables_1, d.before a0 Z = true) : ((Jvm.Cond.code ({ cls := "java/lang/String", name := "isEmpty", desc := "()Z" } : Jvm.MethodName) jdk_42_method_55_code (1 : Nat) (Option.some Jvm.ClassFile.FieldType.boolean))).before a0 Z = true := hw _ (List.mem_of_getElem? (i := 94) rfl)
theorem tw95 {a0 : Array Value} {Z : State} (hw : ∀ d ∈ tables_1, d.before a0 Z = true) : ((Jvm.Cond.methodLink "com/example/medianpoint/medianpoint/AnswerPrinter" (43 : Nat) ({ cls := "java/lang/StringBuilder", name := "length", desc := "()I" } : Jvm.MethodName))).before a0 Z = true := hw _ (List.mem_of_getElem? (i := 95) rfl)
theorem tw96 {a0 : Array Value} {Z : State} (hw : ∀ d ∈ tables_1, d.before a0 Z = true) : ((Jvm.Cond.declares ({ cls := "java/lang/StringBuilder", name := "length", desc := "()I" } : Jvm.MethodName))).before a0 Z = true := hw _ (List.mem_of_getElem? (i := 96) rfl)
theorem tw97 {a0 : Array Value} {Z : State} (hw : ∀ d ∈ tables_1, d.before a0 Z = true) : ((Jvm.Cond.selects "java/lang/StringBuilder" ({ cls := "java/lang/StringBuilder", name := "length", desc := "()I" } : Jvm.MethodName) ({ cls := "java/lang/StringBuilder", name := "length", desc := "()I" } : Jvm.MethodName))).before a0 Z = true := hw _ (List.mem_of_getElem? (i := 97) rfl)
theorem tw98 {a0 : Array Value} {Z : State} (hw : ∀ d ∈ tables_1, d.before a0 Z = true) : ((Jvm.Cond.methodLink "com/example/medianpoint/medianpoint/AnswerPrinter" (51 : Nat) ({ cls := "java/lang/StringBuilder", name := "append", desc := "(I)Ljava/lang/StringBuilder;" } : Jvm.MethodName))).before a0 Z = true := hw _ (List.mem_of_getElem? (i := 98) rfl)
theorem tw99 {a0 : Array Value} {Z : State} (hw : ∀ d ∈ tables_1, d.before a0 Z = true) : ((Jvm.Cond.declares ({ cls := "java/lang/StringBuilder", name := "append", desc := "(I)Ljava/lang/StringBuilder;" } : Jvm.MethodName))).before a0 Z = true := hw _ (List.mem_of_getElem? (i := 99) rfl)
theorem tw100 {a0 : Array Value} {Z : State} (hw : ∀ d ∈ tables_1, d.before a0 Z = true) : ((Jvm.Cond.instanceMethod ({ cls := "java/lang/StringBuilder", name := "append", desc := "(I)Ljava/lang/StringBuilder;" } : Jvm.MethodName))).before a0 Z = true := hw _ (List.mem_of_getElem? (i := 100) rfl)
theorem tw101 {a0 : Array Value} {Z : State} (hw : ∀ d ∈ tables_1, d.before a0 Z = true) : ((Jvm.Cond.selects "java/lang/StringBuilder" ({ cls := "java/lang/StringBuilder", name := "append", desc := "(I)Ljava/lang/StringBuilder;" } : Jvm.MethodName) ({ cls := "java/lang/StringBuilder", name := "append", desc := "(I)Ljava/lang/StringBuilder;" } : Jvm.MethodName))).before a0 Z = true := hw _ (List.mem_of_getElem? (i := 101) rfl)
theorem tw102 {a0 : Array Value} {Z : State} (hw : ∀ d ∈ tables_1, d.before a0 Z = true) : ((Jvm.Cond.code ({ cls := "java/lang/StringBuilder", name := "append", desc := "(I)Ljava/lang/StringBuilder;" } : Jvm.MethodName) jdk_67_method_15_code (2 : Nat) (Option.some (Jvm.ClassFile.FieldType.object "java/lang/StringBuilder")))).before a0 Z = true := hw _ (List.mem_of_getElem? (i := 102) rfl)
theorem tw103 {a0 : Array Value} {Z : State} (hw : ∀ d ∈ tables_1, d.before a0 Z = true) : ((Jvm.Cond.methodLink "java/lang/StringBuilder" (53 : Nat) ({ cls := "java/lang/AbstractStringBuilder", name := "append", desc := "(I)Ljava/lang/AbstractStringBuilder;" } : Jvm.MethodName))).before a0 Z = true := hw _ (List.mem_of_getElem? (i := 103) rfl)
theorem tw104 {a0 : Array Value} {Z : State} (hw : ∀ d ∈ tables_1, d.before a0 Z = true) : ((Jvm.Cond.instanceMethod ({ cls := "java/lang/AbstractStringBuilder", name := "append", desc := "(I)Ljava/lang/AbstractStringBuilder;" } : Jvm.MethodName))).before a0 Z = true := hw _ (List.mem_of_getElem? (i := 104) rfl)
theorem tw106 {a0 : Array Value} {Z : State} (hw : ∀ d ∈ tables_1, d.before a0 Z = true) : ((Jvm.Cond.code ({ cls := "java/lang/AbstractStringBuilder", name := "append", desc := "(I)Ljava/lang/AbstractStringBuilder;" } : Jvm.MethodName) jdk_68_method_32_code (4 : Nat) (Option.some (Jvm.ClassFile.FieldType.object "java/lang/AbstractStringBuilder")))).before a0 Z = true := hw _ (List.mem_of_getElem? (i := 106) rfl)
theorem tw107 {a0 : Array Value} {Z : State} (hw : ∀ d ∈ tables_1, d.before a0 Z = true) : ((Jvm.Cond.methodLink "java/lang/AbstractStringBuilder" (245 : Nat) ({ cls := "java/lang/Integer", name := "stringSize", desc := "(I)I" } : Jvm.MethodName))).before a0 Z = true := hw _ (List.mem_of_getElem? (i := 107) rfl)
theorem tw108 {a0 : Array Value} {Z : State} (hw : ∀ d ∈ tables_1, d.before a0 Z = true) : ((Jvm.Cond.static ({ cls := "java/lang/Integer", name := "stringSize", desc := "(I)I" } : Jvm.MethodName))).before a0 Z = true := hw _ (List.mem_of_getElem? (i := 108) rfl)
theorem tw109 {a0 : Array Value} {Z : State} (hw : ∀ d ∈ tables_1, d.before a0 Z = true) : ((Jvm.Cond.initialized "java/lang/Integer")).before a0 Z = true := hw _ (List.mem_of_getElem? (i := 109) rfl)
theorem tw110 {a0 : Array Value} {Z : State} (hw : ∀ d ∈ tables_1, d.before a0 Z = true) : ((Jvm.Cond.code ({ cls := "java/lang/Integer", name := "stringSize", desc := "(I)I" } : Jvm.MethodName) jdk_33_method_13_code (4 : Nat) (Option.some Jvm.ClassFile.FieldType.int))).before a0 Z = true := hw _ (List.mem_of_getElem? (i := 110) rfl)
theorem tw111 {a0 : Array Value} {Z : State} (hw : ∀ d ∈ tables_1, d.before a0 Z = true) : ((Jvm.Cond.methodLink "java/lang/AbstractStringBuilder" (100 : Nat) ({ cls := "java/lang/AbstractStringBuilder", name := "ensureCapacityInternal", desc := "(I)V" } : Jvm.MethodName))).before a0 Z = true := hw _ (List.mem_of_getElem? (i := 111) rfl)
theorem tw112 {a0 : Array Value} {Z : State} (hw : ∀ d ∈ tables_1, d.before a0 Z = true) : ((Jvm.Cond.instanceMethod ({ cls := "java/lang/AbstractStringBuilder", name := "ensureCapacityInternal", desc := "(I)V" } : Jvm.MethodName))).before a0 Z = true := hw _ (List.mem_of_getElem? (i := 112) rfl)
theorem tw113 {a0 : Array Value} {Z : State} (hw : ∀ d ∈ tables_1, d.before a0 Z = true) : ((Jvm.Cond.privateMethod ({ cls := "java/lang/AbstractStringBuilder", name := "ensureCapacityInternal", desc := "(I)V" } : Jvm.MethodName))).before a0 Z = true := hw _ (List.mem_of_getElem? (i := 113) rfl)
theorem tw114 {a0 : Array Value} {Z : State} (hw : ∀ d ∈ tables_1, d.before a0 Z = true) : ((Jvm.Cond.selects "java/lang/StringBuilder" ({ cls := "java/lang/AbstractStringBuilder", name := "ensureCapacityInternal", desc := "(I)V" } : Jvm.MethodName) ({ cls := "java/lang/AbstractStringBuilder", name := "ensureCapacityInternal", desc := "(I)V" } : Jvm.MethodName))).before a0 Z = true := hw _ (List.mem_of_getElem? (i := 114) rfl)
theorem tw115 {a0 : Array Value} {Z : State} (hw : ∀ d ∈ tables_1, d.before a0 Z = true) : ((Jvm.Cond.code ({ cls := "java/lang/AbstractStringBuilder", name := "ensureCapacityInternal", desc := "(I)V" } : Jvm.MethodName) jdk_68_method_9_code (3 : Nat) (Option.none : Option Jvm.ClassFile.FieldType))).before a0 Z = true := hw _ (List.mem_of_getElem? (i := 115) rfl)
theorem tw116 {a0 : Array Value} {Z : State} (hw : ∀ d ∈ tables_1, d.before a0 Z = true) : ((Jvm.Cond.methodLink "java/lang/AbstractStringBuilder" (83 : Nat) ({ cls := "java/lang/AbstractStringBuilder", name := "isLatin1", desc := "()Z" } : Jvm.MethodName))).before a0 Z = true := hw _ (List.mem_of_getElem? (i := 116) rfl)
theorem tw117 {a0 : Array Value} {Z : State} (hw : ∀ d ∈ tables_1, d.before a0 Z = true) : ((Jvm.Cond.methodLink "java/lang/AbstractStringBuilder" (248 : Nat) ({ cls := "java/lang/Integer", name := "getChars", desc := "(II[B)I" } : Jvm.MethodName))).before a0 Z = true := hw _ (List.mem_of_getElem? (i := 117) rfl)
theorem tw118 {a0 : Array Value} {Z : State} (hw : ∀ d ∈ tables_1, d.before a0 Z = true) : ((Jvm.Cond.static ({ cls := "java/lang/Integer", name := "getChars", desc := "(II[B)I" } : Jvm.MethodName))).before a0 Z = true := hw _ (List.mem_of_getElem? (i := 118) rfl)
theorem tw119 {a0 : Array Value} {Z : State} (hw : ∀ d ∈ tables_1, d.before a0 Z = true) : ((Jvm.Cond.code ({ cls := "java/lang/Integer", name := "getChars", desc := "(II[B)I" } : Jvm.MethodName) jdk_33_method_12_code (7 : Nat) (Option.some Jvm.ClassFile.FieldType.int))).before a0 Z = true := hw _ (List.mem_of_getElem? (i := 119) rfl)
theorem tw120 {a0 : Array Value} {Z : State} (hw : ∀ d ∈ tables_1, d.before a0 Z = true) : ((Jvm.Cond.fieldLink "java/lang/Integer" (83 : Nat) "java/lang/Integer" "DigitOnes" "[B")).before a0 Z = true := hw _ (List.mem_of_getElem? (i := 120) rfl)
theorem tw121 {a0 : Array Value} {Z : State} (hw : ∀ d ∈ tables_1, d.before a0 Z = true) : ((Jvm.Cond.fieldLink "java/lang/Integer" (87 : Nat) "java/lang/Integer" "DigitTens" "[B")).before a0 Z = true := hw _ (List.mem_of_getElem? (i := 121) rfl)
theorem tw122 {a0 : Array Value} {Z : State} (hw : ∀ d ∈ tables_1, d.before a0 Z = true) : ((Jvm.Cond.methodLink "com/example/medianpoint/medianpoint/AnswerPrinter" (47 : Nat) ({ cls := "java/lang/StringBuilder", name := "append", desc := "(C)Ljava/lang/StringBuilder;" } : Jvm.MethodName))).before a0 Z = true := hw _ (List.mem_of_getElem? (i := 122) rfl)
theorem tw123 {a0 : Array Value} {Z : State} (hw : ∀ d ∈ tables_1, d.before a0 Z = true) : ((Jvm.Cond.declares ({ cls := "java/lang/StringBuilder", name := "append", desc := "(C)Ljava/lang/StringBuilder;" } : Jvm.MethodName))).before a0 Z = true := hw _ (List.mem_of_getElem? (i := 123) rfl)
theorem tw124 {a0 : Array Value} {Z : State} (hw : ∀ d ∈ tables_1, d.before a0 Z = true) : ((Jvm.Cond.instanceMethod ({ cls := "java/lang/StringBuilder", name := "append", desc := "(C)Ljava/lang/StringBuilder;" } : Jvm.MethodName))).before a0 Z = true := hw _ (List.mem_of_getElem? (i := 124) rfl)
theorem tw125 {a0 : Array Value} {Z : State} (hw : ∀ d ∈ tables_1, d.before a0 Z = true) : ((Jvm.Cond.selects "java/lang/StringBuilder" ({ cls := "java/lang/StringBuilder", name := "append", desc := "(C)Ljava/lang/StringBuilder;" } : Jvm.MethodName) ({ cls := "java/lang/StringBuilder", name := "append", desc := "(C)Ljava/lang/StringBuilder;" } : Jvm.MethodName))).before a0 Z = true := hw _ (List.mem_of_getElem? (i := 125) rfl)
theorem tw126 {a0 : Array Value} {Z : State} (hw : ∀ d ∈ tables_1, d.before a0 Z = true) : ((Jvm.Cond.code ({ cls := "java/lang/StringBuilder", name := "append", desc := "(C)Ljava/lang/StringBuilder;" } : Jvm.MethodName) jdk_67_method_14_code (2 : Nat) (Option.some (Jvm.ClassFile.FieldType.object "java/lang/StringBuilder")))).before a0 Z = true := hw _ (List.mem_of_getElem? (i := 126) rfl)
theorem tw127 {a0 : Array Value} {Z : State} (hw : ∀ d ∈ tables_1, d.before a0 Z = true) : ((Jvm.Cond.methodLink "java/lang/StringBuilder" (50 : Nat) ({ cls := "java/lang/AbstractStringBuilder", name := "append", desc := "(C)Ljava/lang/AbstractStringBuilder;" } : Jvm.MethodName))).before a0 Z = true := hw _ (List.mem_of_getElem? (i := 127) rfl)
theorem tw128 {a0 : Array Value} {Z : State} (hw : ∀ d ∈ tables_1, d.before a0 Z = true) : ((Jvm.Cond.instanceMethod ({ cls := "java/lang/AbstractStringBuilder", name := "append", desc := "(C)Ljava/lang/AbstractStringBuilder;" } : Jvm.MethodName))).before a0 Z = true := hw _ (List.mem_of_getElem? (i := 128) rfl)
theorem tw130 {a0 : Array Value} {Z : State} (hw : ∀ d ∈ tables_1, d.before a0 Z = true) : ((Jvm.Cond.code ({ cls := "java/lang/AbstractStringBuilder", name := "append", desc := "(C)Ljava/lang/AbstractStringBuilder;" } : Jvm.MethodName) jdk_68_method_31_code (2 : Nat) (Option.some (Jvm.ClassFile.FieldType.object "java/lang/AbstractStringBuilder")))).before a0 Z = true := hw _ (List.mem_of_getElem? (i := 130) rfl)
theorem tw131 {a0 : Array Value} {Z : State} (hw : ∀ d ∈ tables_1, d.before a0 Z = true) : ((Jvm.Cond.methodLink "java/lang/AbstractStringBuilder" (191 : Nat) ({ cls := "java/lang/StringLatin1", name := "canEncode", desc := "(C)Z" } : Jvm.MethodName))).before a0 Z = true := hw _ (List.mem_of_getElem? (i := 131) rfl)
theorem tw132 {a0 : Array Value} {Z : State} (hw : ∀ d ∈ tables_1, d.before a0 Z = true) : ((Jvm.Cond.static ({ cls := "java/lang/StringLatin1", name := "canEncode", desc := "(C)Z" } : Jvm.MethodName))).before a0 Z = true := hw _ (List.mem_of_getElem? (i := 132) rfl)
theorem tw133 {a0 : Array Value} {Z : State} (hw : ∀ d ∈ tables_1, d.before a0 Z = true) : ((Jvm.Cond.initialized "java/lang/StringLatin1")).before a0 Z = true := hw _ (List.mem_of_getElem? (i := 133) rfl)
theorem tw134 {a0 : Array Value} {Z : State} (hw : ∀ d ∈ tables_1, d.before a0 Z = true) : ((Jvm.Cond.code ({ cls := "java/lang/StringLatin1", name := "canEncode", desc := "(C)Z" } : Jvm.MethodName) jdk_43_method_3_code (1 : Nat) (Option.some Jvm.ClassFile.FieldType.boolean))).before a0 Z = true := hw _ (List.mem_of_getElem? (i := 134) rfl)
theorem tw135 {a0 : Array Value} {Z : State} (hw : ∀ d ∈ tables_1, d.before a0 Z = true) : ((Jvm.Cond.methodLink "com/example/medianpoint/medianpoint/AnswerPrinterSiteNumbersPinLaw" (25 : Nat) ({ cls := "com/example/medianpoint/medianpoint/AnswerPrinterSiteNumbersPinLaw", name := "numberAt", desc := "(Ljava/lang/String;II)Z" } : Jvm.MethodName))).before a0 Z = true := hw _ (List.mem_of_getElem? (i := 135) rfl)
theorem tw136 {a0 : Array Value} {Z : State} (hw : ∀ d ∈ tables_1, d.before a0 Z = true) : ((Jvm.Cond.static ({ cls := "com/example/medianpoint/medianpoint/AnswerPrinterSiteNumbersPinLaw", name := "numberAt", desc := "(Ljava/lang/String;II)Z" } : Jvm.MethodName))).before a0 Z = true := hw _ (List.mem_of_getElem? (i := 136) rfl)
theorem tw137 {a0 : Array Value} {Z : State} (hw : ∀ d ∈ tables_1, d.before a0 Z = true) : ((Jvm.Cond.code ({ cls := "com/example/medianpoint/medianpoint/AnswerPrinterSiteNumbersPinLaw", name := "numberAt", desc := "(Ljava/lang/String;II)Z" } : Jvm.MethodName) method_6_code (4 : Nat) (Option.some Jvm.ClassFile.FieldType.boolean))).before a0 Z = true := hw _ (List.mem_of_getElem? (i := 137) rfl)
theorem tw138 {a0 : Array Value} {Z : State} (hw : ∀ d ∈ tables_1, d.before a0 Z = true) : ((Jvm.Cond.methodLink "com/example/medianpoint/medianpoint/AnswerPrinterSiteNumbersPinLaw" (29 : Nat) ({ cls := "com/example/medianpoint/medianpoint/AnswerPrinterSiteNumbersPinLaw", name := "digits", desc := "(I)I" } : Jvm.MethodName))).before a0 Z = true := hw _ (List.mem_of_getElem? (i := 138) rfl)
theorem tw139 {a0 : Array Value} {Z : State} (hw : ∀ d ∈ tables_1, d.before a0 Z = true) : ((Jvm.Cond.static ({ cls := "com/example/medianpoint/medianpoint/AnswerPrinterSiteNumbersPinLaw", name := "digits", desc := "(I)I" } : Jvm.MethodName))).before a0 Z = true := hw _ (List.mem_of_getElem? (i := 139) rfl)
theorem tw140 {a0 : Array Value} {Z : State} (hw : ∀ d ∈ tables_1, d.before a0 Z = true) : ((Jvm.Cond.code ({ cls := "com/example/medianpoint/medianpoint/AnswerPrinterSiteNumbersPinLaw", name := "digits", desc := "(I)I" } : Jvm.MethodName) method_5_code (1 : Nat) (Option.some Jvm.ClassFile.FieldType.int))).before a0 Z = true := hw _ (List.mem_of_getElem? (i := 140) rfl)
theorem tw141 {a0 : Array Value} {Z : State} (hw : ∀ d ∈ tables_1, d.before a0 Z = true) : ((Jvm.Cond.methodLink "com/example/medianpoint/medianpoint/AnswerPrinterSiteNumbersPinLaw" (36 : Nat) ({ cls := "java/lang/String", name := "length", desc := "()I" } : Jvm.MethodName))).before a0 Z = true := hw _ (List.mem_of_getElem? (i := 141) rfl)
theorem tw142 {a0 : Array Value} {Z : State} (hw : ∀ d ∈ tables_1, d.before a0 Z = true) : ((Jvm.Cond.declares ({ cls := "java/lang/String", name := "length", desc := "()I" } : Jvm.MethodName))).before a0 Z = true := hw _ (List.mem_of_getElem? (i := 142) rfl)
theorem tw143 {a0 : Array Value} {Z : State} (hw : ∀ d ∈ tables_1, d.before a0 Z = true) : ((Jvm.Cond.instanceMethod ({ cls := "java/lang/String", name := "length", desc := "()I" } : Jvm.MethodName))).before a0 Z = true := hw _ (List.mem_of_getElem? (i := 143) rfl)
theorem tw144 {a0 : Array Value} {Z : State} (hw : ∀ d ∈ tables_1, d.before a0 Z = true) : ((Jvm.Cond.selects "java/lang/String" ({ cls := "java/lang/String", name := "length", desc := "()I" } : Jvm.MethodName) ({ cls := "java/lang/String", name := "length", desc := "()I" } : Jvm.MethodName))).before a0 Z = true := hw _ (List.mem_of_getElem? (i := 144) rfl)
theorem tw145 {a0 : Array Value} {Z : State} (hw : ∀ d ∈ tables_1, d.before a0 Z = true) : ((Jvm.Cond.code ({ cls := "java/lang/String", name := "length", desc := "()I" } : Jvm.MethodName) jdk_42_method_54_code (1 : Nat) (Option.some Jvm.ClassFile.FieldType.int))).before a0 Z = true := hw _ (List.mem_of_getElem? (i := 145) rfl)
theorem tw146 {a0 : Array Value} {Z : State} (hw : ∀ d ∈ tables_1, d.before a0 Z = true) : ((Jvm.Cond.methodLink "java/lang/String" (335 : Nat) ({ cls := "java/lang/String", name := "coder", desc := "()B" } : Jvm.MethodName))).before a0 Z = true := hw _ (List.mem_of_getElem? (i := 146) rfl)
theorem tw147 {a0 : Array Value} {Z : State} (hw : ∀ d ∈ tables_1, d.before a0 Z = true) : ((Jvm.Cond.declares ({ cls := "java/lang/String", name := "coder", desc := "()B" } : Jvm.MethodName))).before a0 Z = true := hw _ (List.mem_of_getElem? (i := 147) rfl)
theorem tw148 {a0 : Array Value} {Z : State} (hw : ∀ d ∈ tables_1, d.before a0 Z = true) : ((Jvm.Cond.instanceMethod ({ cls := "java/lang/String", name := "coder", desc := "()B" } : Jvm.MethodName))).before a0 Z = true := hw _ (List.mem_of_getElem? (i := 148) rfl)
theorem tw149 {a0 : Array Value} {Z : State} (hw : ∀ d ∈ tables_1, d.before a0 Z = true) : ((Jvm.Cond.selects "java/lang/String" ({ cls := "java/lang/String", name := "coder", desc := "()B" } : Jvm.MethodName) ({ cls := "java/lang/String", name := "coder", desc := "()B" } : Jvm.MethodName))).before a0 Z = true := hw _ (List.mem_of_getElem? (i := 149) rfl)
theorem tw150 {a0 : Array Value} {Z : State} (hw : ∀ d ∈ tables_1, d.before a0 Z = true) : ((Jvm.Cond.code ({ cls := "java/lang/String", name := "coder", desc := "()B" } : Jvm.MethodName) jdk_42_method_152_code (1 : Nat) (Option.some Jvm.ClassFile.FieldType.byte))).before a0 Z = true := hw _ (List.mem_of_getElem? (i := 150) rfl)
theorem tw151 {a0 : Array Value} {Z : State} (hw : ∀ d ∈ tables_1, d.before a0 Z = true) : ((Jvm.Cond.fieldLink "java/lang/String" (38 : Nat) "java/lang/String" "COMPACT_STRINGS" "Z")).before a0 Z = true := hw _ (List.mem_of_getElem? (i := 151) rfl)
theorem tw152 {a0 : Array Value} {Z : State} (hw : ∀ d ∈ tables_1, d.before a0 Z = true) : ((Jvm.Cond.methodLink "com/example/medianpoint/medianpoint/AnswerPrinterSiteNumbersPinLaw" (50 : Nat) ({ cls := "com/example/medianpoint/medianpoint/AnswerPrinterSiteNumbersPinLaw", name := "digitOk", desc := "(Ljava/lang/String;IIIII)Z" } : Jvm.MethodName))).before a0 Z = true := hw _ (List.mem_of_getElem? (i := 152) rfl)
theorem tw153 {a0 : Array Value} {Z : State} (hw : ∀ d ∈ tables_1, d.before a0 Z = true) : ((Jvm.Cond.static ({ cls := "com/example/medianpoint/medianpoint/AnswerPrinterSiteNumbersPinLaw", name := "digitOk", desc := "(Ljava/lang/String;IIIII)Z" } : Jvm.MethodName))).before a0 Z = true := hw _ (List.mem_of_getElem? (i := 153) rfl)
theorem tw154 {a0 : Array Value} {Z : State} (hw : ∀ d ∈ tables_1, d.before a0 Z = true) : ((Jvm.Cond.code ({ cls := "com/example/medianpoint/medianpoint/AnswerPrinterSiteNumbersPinLaw", name := "digitOk", desc := "(Ljava/lang/String;IIIII)Z" } : Jvm.MethodName) method_7_code (6 : Nat) (Option.some Jvm.ClassFile.FieldType.boolean))).before a0 Z = true := hw _ (List.mem_of_getElem? (i := 154) rfl)
theorem tw155 {a0 : Array Value} {Z : State} (hw : ∀ d ∈ tables_1, d.before a0 Z = true) : ((Jvm.Cond.methodLink "com/example/medianpoint/medianpoint/AnswerPrinterSiteNumbersPinLaw" (41 : Nat) ({ cls := "java/lang/String", name := "charAt", desc := "(I)C" } : Jvm.MethodName))).before a0 Z = true := hw _ (List.mem_of_getElem? (i := 155) rfl)
theorem tw156 {a0 : Array Value} {Z : State} (hw : ∀ d ∈ tables_1, d.before a0 Z = true) : ((Jvm.Cond.declares ({ cls := "java/lang/String", name := "charAt", desc := "(I)C" } : Jvm.MethodName))).before a0 Z = true := hw _ (List.mem_of_getElem? (i := 156) rfl)
theorem tw157 {a0 : Array Value} {Z : State} (hw : ∀ d ∈ tables_1, d.before a0 Z = true) : ((Jvm.Cond.instanceMethod ({ cls := "java/lang/String", name := "charAt", desc := "(I)C" } : Jvm.MethodName))).before a0 Z = true := hw _ (List.mem_of_getElem? (i := 157) rfl)
theorem tw158 {a0 : Array Value} {Z : State} (hw : ∀ d ∈ tables_1, d.before a0 Z = true) : ((Jvm.Cond.selects "java/lang/String" ({ cls := "java/lang/String", name := "charAt", desc := "(I)C" } : Jvm.MethodName) ({ cls := "java/lang/String", name := "charAt", desc := "(I)C" } : Jvm.MethodName))).before a0 Z = true := hw _ (List.mem_of_getElem? (i := 158) rfl)
theorem tw159 {a0 : Array Value} {Z : State} (hw : ∀ d ∈ tables_1, d.before a0 Z = true) : ((Jvm.Cond.code ({ cls := "java/lang/String", name := "charAt", desc := "(I)C" } : Jvm.MethodName) jdk_42_method_56_code (2 : Nat) (Option.some Jvm.ClassFile.FieldType.char))).before a0 Z = true := hw _ (List.mem_of_getElem? (i := 159) rfl)
theorem tw160 {a0 : Array Value} {Z : State} (hw : ∀ d ∈ tables_1, d.before a0 Z = true) : ((Jvm.Cond.methodLink "java/lang/String" (492 : Nat) ({ cls := "java/lang/String", name := "isLatin1", desc := "()Z" } : Jvm.MethodName))).before a0 Z = true := hw _ (List.mem_of_getElem? (i := 160) rfl)
theorem tw161 {a0 : Array Value} {Z : State} (hw : ∀ d ∈ tables_1, d.before a0 Z = true) : ((Jvm.Cond.declares ({ cls := "java/lang/String", name := "isLatin1", desc := "()Z" } : Jvm.MethodName))).before a0 Z = true := hw _ (List.mem_of_getElem? (i := 161) rfl)
theorem tw162 {a0 : Array Value} {Z : State} (hw : ∀ d ∈ tables_1, d.before a0 Z = true) : ((Jvm.Cond.instanceMethod ({ cls := "java/lang/String", name := "isLatin1", desc := "()Z" } : Jvm.MethodName))).before a0 Z = true := hw _ (List.mem_of_getElem? (i := 162) rfl)
theorem tw163 {a0 : Array Value} {Z : State} (hw : ∀ d ∈ tables_1, d.before a0 Z = true) : ((Jvm.Cond.selects "java/lang/String" ({ cls := "java/lang/String", name := "isLatin1", desc := "()Z" } : Jvm.MethodName) ({ cls := "java/lang/String", name := "isLatin1", desc := "()Z" } : Jvm.MethodName))).before a0 Z = true := hw _ (List.mem_of_getElem? (i := 163) rfl)
theorem tw164 {a0 : Array Value} {Z : State} (hw : ∀ d ∈ tables_1, d.before a0 Z = true) : ((Jvm.Cond.code ({ cls := "java/lang/String", name := "isLatin1", desc := "()Z" } : Jvm.MethodName) jdk_42_method_154_code (1 : Nat) (Option.some Jvm.ClassFile.FieldType.boolean))).before a0 Z = true := hw _ (List.mem_of_getElem? (i := 164) rfl)
theorem tw165 {a0 : Array Value} {Z : State} (hw : ∀ d ∈ tables_1, d.before a0 Z = true) : ((Jvm.Cond.methodLink "java/lang/String" (495 : Nat) ({ cls := "java/lang/StringLatin1", name := "charAt", desc := "([BI)C" } : Jvm.MethodName))).before a0 Z = true := hw _ (List.mem_of_getElem? (i := 165) rfl)
theorem tw166 {a0 : Array Value} {Z : State} (hw : ∀ d ∈ tables_1, d.before a0 Z = true) : ((Jvm.Cond.static ({ cls := "java/lang/StringLatin1", name := "charAt", desc := "([BI)C" } : Jvm.MethodName))).before a0 Z = true := hw _ (List.mem_of_getElem? (i := 166) rfl)
theorem tw167 {a0 : Array Value} {Z : State} (hw : ∀ d ∈ tables_1, d.before a0 Z = true) : ((Jvm.Cond.code ({ cls := "java/lang/StringLatin1", name := "charAt", desc := "([BI)C" } : Jvm.MethodName) jdk_43_method_2_code (2 : Nat) (Option.some Jvm.ClassFile.FieldType.char))).before a0 Z = true := hw _ (List.mem_of_getElem? (i := 167) rfl)
theorem tw168 {a0 : Array Value} {Z : State} (hw : ∀ d ∈ tables_1, d.before a0 Z = true) : ((Jvm.Cond.methodLink "java/lang/StringLatin1" (9 : Nat) ({ cls := "java/lang/String", name := "checkIndex", desc := "(II)V" } : Jvm.MethodName))).before a0 Z = true := hw _ (List.mem_of_getElem? (i := 168) rfl)
theorem tw169 {a0 : Array Value} {Z : State} (hw : ∀ d ∈ tables_1, d.before a0 Z = true) : ((Jvm.Cond.static ({ cls := "java/lang/String", name := "checkIndex", desc := "(II)V" } : Jvm.MethodName))).before a0 Z = true := hw _ (List.mem_of_getElem? (i := 169) rfl)
theorem tw170 {a0 : Array Value} {Z : State} (hw : ∀ d ∈ tables_1, d.before a0 Z = true) : ((Jvm.Cond.code ({ cls := "java/lang/String", name := "checkIndex", desc := "(II)V" } : Jvm.MethodName) jdk_42_method_155_code (2 : Nat) (Option.none : Option Jvm.ClassFile.FieldType))).before a0 Z = true := hw _ (List.mem_of_getElem? (i := 170) rfl)
theorem tw171 {a0 : Array Value} {Z : State} (hw : ∀ d ∈ tables_1, d.before a0 Z = true) : ((Jvm.Cond.fieldLink "java/lang/String" (1053 : Nat) "jdk/internal/util/Preconditions" "SIOOBE_FORMATTER" "Ljava/util/function/BiFunction;")).before a0 Z = true := hw _ (List.mem_of_getElem? (i := 171) rfl)
theorem tw172 {a0 : Array Value} {Z : State} (hw : ∀ d ∈ tables_1, d.before a0 Z = true) : ((Jvm.Cond.initialized "jdk/internal/util/Preconditions")).before a0 Z = true := hw _ (List.mem_of_getElem? (i := 172) rfl)
theorem tw173 {a0 : Array Value} {Z : State} (hw : ∀ d ∈ tables_1, d.before a0 Z = true) : ((Jvm.Cond.methodLink "java/lang/String" (1059 : Nat) ({ cls := "jdk/internal/util/Preconditions", name := "checkIndex", desc := "(IILjava/util/function/BiFunction;)I" } : Jvm.MethodName))).before a0 Z = true := hw _ (List.mem_of_getElem? (i := 173) rfl)
theorem tw174 {a0 : Array Value} {Z : State} (hw : ∀ d ∈ tables_1, d.before a0 Z = true) : ((Jvm.Cond.static ({ cls := "jdk/internal/util/Preconditions", name := "checkIndex", desc := "(IILjava/util/function/BiFunction;)I" } : Jvm.MethodName))).before a0 Z = true := hw _ (List.mem_of_getElem? (i := 174) rfl)
theorem tw175 {a0 : Array Value} {Z : State} (hw : ∀ d ∈ tables_1, d.before a0 Z = true) : ((Jvm.Cond.code ({ cls := "jdk/internal/util/Preconditions", name := "checkIndex", desc := "(IILjava/util/function/BiFunction;)I" } : Jvm.MethodName) jdk_41_method_11_code (3 : Nat) (Option.some Jvm.ClassFile.FieldType.int))).before a0 Z = true := hw _ (List.mem_of_getElem? (i := 175) rfl)
theorem tw176 {a0 : Array Value} {Z : State} (hw : ∀ d ∈ tables_1, d.before a0 Z = true) : ((Jvm.Cond.constant "com/example/medianpoint/medianpoint/AnswerPrinterSiteNumbersPinLaw" (45 : Nat) (100000 : Int32))).before a0 Z = true := hw _ (List.mem_of_getElem? (i := 176) rfl)
theorem tw177 {a0 : Array Value} {Z : State} (hw : ∀ d ∈ tables_1, d.before a0 Z = true) : ((Jvm.Cond.constant "com/example/medianpoint/medianpoint/AnswerPrinterSiteNumbersPinLaw" (46 : Nat) (1000000 : Int32))).before a0 Z = true := hw _ (List.mem_of_getElem? (i := 177) rfl)
theorem tw178 {a0 : Array Value} {Z : State} (hw : ∀ d ∈ tables_1, d.before a0 Z = true) : ((Jvm.Cond.constant "com/example/medianpoint/medianpoint/AnswerPrinterSiteNumbersPinLaw" (47 : Nat) (10000000 : Int32))).before a0 Z = true := hw _ (List.mem_of_getElem? (i := 178) rfl)
theorem tw179 {a0 : Array Value} {Z : State} (hw : ∀ d ∈ tables_1, d.before a0 Z = true) : ((Jvm.Cond.constant "com/example/medianpoint/medianpoint/AnswerPrinterSiteNumbersPinLaw" (48 : Nat) (100000000 : Int32))).before a0 Z = true := hw _ (List.mem_of_getElem? (i := 179) rfl)
theorem tw180 {a0 : Array Value} {Z : State} (hw : ∀ d ∈ tables_1, d.before a0 Z = true) : ((Jvm.Cond.constant "com/example/medianpoint/medianpoint/AnswerPrinterSiteNumbersPinLaw" (49 : Nat) (1000000000 : Int32))).before a0 Z = true := hw _ (List.mem_of_getElem? (i := 180) rfl)
theorem tw181 {a0 : Array Value} {Z : State} (hw : ∀ d ∈ tables_1, d.before a0 Z = true) : ((Jvm.Cond.methodLink "com/example/medianpoint/medianpoint/AnswerPrinterSiteNumbersPinLaw" (32 : Nat) ({ cls := "com/example/medianpoint/medianpoint/AnswerPrinterSiteNumbersPinLaw", name := "blankAt", desc := "(Ljava/lang/String;I)Z" } : Jvm.MethodName))).before a0 Z = true := hw _ (List.mem_of_getElem? (i := 181) rfl)
theorem tw182 {a0 : Array Value} {Z : State} (hw : ∀ d ∈ tables_1, d.before a0 Z = true) : ((Jvm.Cond.static ({ cls := "com/example/medianpoint/medianpoint/AnswerPrinterSiteNumbersPinLaw", name := "blankAt", desc := "(Ljava/lang/String;I)Z" } : Jvm.MethodName))).before a0 Z = true := hw _ (List.mem_of_getElem? (i := 182) rfl)
theorem tw183 {a0 : Array Value} {Z : State} (hw : ∀ d ∈ tables_1, d.before a0 Z = true) : ((Jvm.Cond.code ({ cls := "com/example/medianpoint/medianpoint/AnswerPrinterSiteNumbersPinLaw", name := "blankAt", desc := "(Ljava/lang/String;I)Z" } : Jvm.MethodName) method_4_code (2 : Nat) (Option.some Jvm.ClassFile.FieldType.boolean))).before a0 Z = true := hw _ (List.mem_of_getElem? (i := 183) rfl)
theorem tw184 {a0 : Array Value} {Z : State} (hw : ∀ d ∈ tables_1, d.before a0 Z = true) : ((Jvm.Cond.methodLink "java/lang/AbstractStringBuilder" (104 : Nat) ({ cls := "java/lang/AbstractStringBuilder", name := "newCapacity", desc := "(I)I" } : Jvm.MethodName))).before a0 Z = true := hw _ (List.mem_of_getElem? (i := 184) rfl)
theorem tw185 {a0 : Array Value} {Z : State} (hw : ∀ d ∈ tables_1, d.before a0 Z = true) : ((Jvm.Cond.instanceMethod ({ cls := "java/lang/AbstractStringBuilder", name := "newCapacity", desc := "(I)I" } : Jvm.MethodName))).before a0 Z = true := hw _ (List.mem_of_getElem? (i := 185) rfl)
theorem tw186 {a0 : Array Value} {Z : State} (hw : ∀ d ∈ tables_1, d.before a0 Z = true) : ((Jvm.Cond.privateMethod ({ cls := "java/lang/AbstractStringBuilder", name := "newCapacity", desc := "(I)I" } : Jvm.MethodName))).before a0 Z = true := hw _ (List.mem_of_getElem? (i := 186) rfl)
theorem tw187 {a0 : Array Value} {Z : State} (hw : ∀ d ∈ tables_1, d.before a0 Z = true) : ((Jvm.Cond.selects "java/lang/StringBuilder" ({ cls := "java/lang/AbstractStringBuilder", name := "newCapacity", desc := "(I)I" } : Jvm.MethodName) ({ cls := "java/lang/AbstractStringBuilder", name := "newCapacity", desc := "(I)I" } : Jvm.MethodName))).before a0 Z = true := hw _ (List.mem_of_getElem? (i := 187) rfl)
theorem tw188 {a0 : Array Value} {Z : State} (hw : ∀ d ∈ tables_1, d.before a0 Z = true) : ((Jvm.Cond.code ({ cls := "java/lang/AbstractStringBuilder", name := "newCapacity", desc := "(I)I" } : Jvm.MethodName) jdk_68_method_10_code (6 : Nat) (Option.some Jvm.ClassFile.FieldType.int))).before a0 Z = true := hw _ (List.mem_of_getElem? (i := 188) rfl)
theorem tw189 {a0 : Array Value} {Z : State} (hw : ∀ d ∈ tables_1, d.before a0 Z = true) : ((Jvm.Cond.methodLink "java/lang/AbstractStringBuilder" (114 : Nat) ({ cls := "jdk/internal/util/ArraysSupport", name := "newLength", desc := "(III)I" } : Jvm.MethodName))).before a0 Z = true := hw _ (List.mem_of_getElem? (i := 189) rfl)
theorem tw190 {a0 : Array Value} {Z : State} (hw : ∀ d ∈ tables_1, d.before a0 Z = true) : ((Jvm.Cond.static ({ cls := "jdk/internal/util/ArraysSupport", name := "newLength", desc := "(III)I" } : Jvm.MethodName))).before a0 Z = true := hw _ (List.mem_of_getElem? (i := 190) rfl)
theorem tw191 {a0 : Array Value} {Z : State} (hw : ∀ d ∈ tables_1, d.before a0 Z = true) : ((Jvm.Cond.initialized "jdk/internal/util/ArraysSupport")).before a0 Z = true := hw _ (List.mem_of_getElem? (i := 191) rfl)
theorem tw192 {a0 : Array Value} {Z : State} (hw : ∀ d ∈ tables_1, d.before a0 Z = true) : ((Jvm.Cond.code ({ cls := "jdk/internal/util/ArraysSupport", name := "newLength", desc := "(III)I" } : Jvm.MethodName) jdk_48_method_27_code (4 : Nat) (Option.some Jvm.ClassFile.FieldType.int))).before a0 Z = true := hw _ (List.mem_of_getElem? (i := 192) rfl)
theorem tw193 {a0 : Array Value} {Z : State} (hw : ∀ d ∈ tables_1, d.before a0 Z = true) : ((Jvm.Cond.methodLink "jdk/internal/util/ArraysSupport" (194 : Nat) ({ cls := "java/lang/Math", name := "max", desc := "(II)I" } : Jvm.MethodName))).before a0 Z = true := hw _ (List.mem_of_getElem? (i := 193) rfl)
theorem tw194 {a0 : Array Value} {Z : State} (hw : ∀ d ∈ tables_1, d.before a0 Z = true) : ((Jvm.Cond.static ({ cls := "java/lang/Math", name := "max", desc := "(II)I" } : Jvm.MethodName))).before a0 Z = true := hw _ (List.mem_of_getElem? (i := 194) rfl)
theorem tw195 {a0 : Array Value} {Z : State} (hw : ∀ d ∈ tables_1, d.before a0 Z = true) : ((Jvm.Cond.code ({ cls := "java/lang/Math", name := "max", desc := "(II)I" } : Jvm.MethodName) jdk_29_method_65_code (2 : Nat) (Option.some Jvm.ClassFile.FieldType.int))).before a0 Z = true := hw _ (List.mem_of_getElem? (i := 195) rfl)
theorem tw196 {a0 : Array Value} {Z : State} (hw : ∀ d ∈ tables_1, d.before a0 Z = true) : ((Jvm.Cond.constant "jdk/internal/util/ArraysSupport" (200 : Nat) (2147483639 : Int32))).before a0 Z = true := hw _ (List.mem_of_getElem? (i := 196) rfl)
theorem tw197 {a0 : Array Value} {Z : State} (hw : ∀ d ∈ tables_1, d.before a0 Z = true) : ((Jvm.Cond.constant "java/lang/AbstractStringBuilder" (39 : Nat) (2147483647 : Int32))).before a0 Z = true := hw _ (List.mem_of_getElem? (i := 197) rfl)
theorem tw198 {a0 : Array Value} {Z : State} (hw : ∀ d ∈ tables_1, d.before a0 Z = true) : ((Jvm.Cond.methodLink "java/lang/AbstractStringBuilder" (108 : Nat) ({ cls := "java/util/Arrays", name := "copyOf", desc := "([BI)[B" } : Jvm.MethodName))).before a0 Z = true := hw _ (List.mem_of_getElem? (i := 198) rfl)
theorem tw199 {a0 : Array Value} {Z : State} (hw : ∀ d ∈ tables_1, d.before a0 Z = true) : ((Jvm.Cond.static ({ cls := "java/util/Arrays", name := "copyOf", desc := "([BI)[B" } : Jvm.MethodName))).before a0 Z = true := hw _ (List.mem_of_getElem? (i := 199) rfl)
theorem tw200 {a0 : Array Value} {Z : State} (hw : ∀ d ∈ tables_1, d.before a0 Z = true) : ((Jvm.Cond.code ({ cls := "java/util/Arrays", name := "copyOf", desc := "([BI)[B" } : Jvm.MethodName) jdk_65_method_121_code (3 : Nat) (Option.some (Jvm.ClassFile.FieldType.array Jvm.ClassFile.FieldType.byte)))).before a0 Z = true := hw _ (List.mem_of_getElem? (i := 200) rfl)
theorem tw201 {a0 : Array Value} {Z : State} (hw : ∀ d ∈ tables_1, d.before a0 Z = true) : ((Jvm.Cond.methodLink "java/util/Arrays" (310 : Nat) ({ cls := "[B", name := "clone", desc := "()Ljava/lang/Object;" } : Jvm.MethodName))).before a0 Z = true := hw _ (List.mem_of_getElem? (i := 201) rfl)
theorem tw202 {a0 : Array Value} {Z : State} (hw : ∀ d ∈ tables_1, d.before a0 Z = true) : ((Jvm.Cond.sameMethod "[B" "java/lang/Object" "clone" "()Ljava/lang/Object;")).before a0 Z = true := hw _ (List.mem_of_getElem? (i := 202) rfl)
theorem tw204 {a0 : Array Value} {Z : State} (hw : ∀ d ∈ tables_1, d.before a0 Z = true) : ((Jvm.Cond.instanceMethod ({ cls := "java/lang/Object", name := "clone", desc := "()Ljava/lang/Object;" } : Jvm.MethodName))).before a0 Z = true := hw _ (List.mem_of_getElem? (i := 204) rfl)
theorem tw205 {a0 : Array Value} {Z : State} (hw : ∀ d ∈ tables_1, d.before a0 Z = true) : ((Jvm.Cond.selects "[B" ({ cls := "[B", name := "clone", desc := "()Ljava/lang/Object;" } : Jvm.MethodName) ({ cls := "java/lang/Object", name := "clone", desc := "()Ljava/lang/Object;" } : Jvm.MethodName))).before a0 Z = true := hw _ (List.mem_of_getElem? (i := 205) rfl)
theorem tw206 {a0 : Array Value} {Z : State} (hw : ∀ d ∈ tables_1, d.before a0 Z = true) : ((Jvm.Cond.native ({ cls := "java/lang/Object", name := "clone", desc := "()Ljava/lang/Object;" } : Jvm.MethodName))).before a0 Z = true := hw _ (List.mem_of_getElem? (i := 206) rfl)
theorem tw207 {a0 : Array Value} {Z : State} (hw : ∀ d ∈ tables_1, d.before a0 Z = true) : ((Jvm.Cond.castable "[B" "java/lang/Cloneable")).before a0 Z = true := hw _ (List.mem_of_getElem? (i := 207) rfl)
theorem tw208 {a0 : Array Value} {Z : State} (hw : ∀ d ∈ tables_1, d.before a0 Z = true) : ((Jvm.Cond.classLink "java/util/Arrays" (311 : Nat) "[B")).before a0 Z = true := hw _ (List.mem_of_getElem? (i := 208) rfl)
theorem own_nn {x : Int32} (h : 0 ≤ x.toInt) : x.toInt = (x.toBitVec.toNat : Int) := by
  have q := BitVec.toInt_eq_toNat_cond x.toBitVec
  have e : x.toInt = x.toBitVec.toInt := rfl
  rw [e] at h ⊢
  rw [q] at h ⊢
  have := x.toBitVec.isLt
  split at h <;> rename_i c
  · rw [if_pos c]
  · omega
theorem own_nn' {x : Int32} (h : x.toBitVec.toNat < 2147483648) : x.toInt = (x.toBitVec.toNat : Int) := by
  have q := BitVec.toInt_eq_toNat_cond x.toBitVec
  have e : x.toInt = x.toBitVec.toInt := rfl
  rw [e, q, if_pos (by omega)]
theorem own_ofnat {x : Int32} (h : 0 ≤ x.toInt) : x = Int32.ofNat x.toBitVec.toNat := by
  apply Int32.toBitVec_inj.mp
  apply BitVec.eq_of_toNat_eq
  show _ = (BitVec.ofNat 32 x.toBitVec.toNat).toNat
  rw [BitVec.toNat_ofNat, Nat.mod_eq_of_lt x.toBitVec.isLt]
theorem own_b32 (x : Int32) : -2147483648 ≤ x.toInt ∧ x.toInt < 2147483648 := ⟨Int32.le_toInt x, Int32.toInt_lt x⟩
theorem own_b64 (x : Int64) : -9223372036854775808 ≤ x.toInt ∧ x.toInt < 9223372036854775808 := ⟨Int64.le_toInt x, Int64.toInt_lt x⟩
theorem own_add64 {x y : Int64} (h1 : -9223372036854775808 ≤ x.toInt + y.toInt) (h2 : x.toInt + y.toInt < 9223372036854775808) : (x + y).toInt = x.toInt + y.toInt := XT.add64 ⟨h1, h2⟩
theorem own_sub64 {x y : Int64} (h1 : -9223372036854775808 ≤ x.toInt - y.toInt) (h2 : x.toInt - y.toInt < 9223372036854775808) : (x - y).toInt = x.toInt - y.toInt := XT.sub64 ⟨h1, h2⟩
theorem own_mul64 {x y : Int64} (h1 : -9223372036854775808 ≤ x.toInt * y.toInt) (h2 : x.toInt * y.toInt < 9223372036854775808) : (x * y).toInt = x.toInt * y.toInt := XT.mul64 ⟨h1, h2⟩
theorem own_add32 {x y : Int32} (h1 : -2147483648 ≤ x.toInt + y.toInt) (h2 : x.toInt + y.toInt < 2147483648) : (x + y).toInt = x.toInt + y.toInt := XT.add32 ⟨h1, h2⟩
theorem own_sub32 {x y : Int32} (h1 : -2147483648 ≤ x.toInt - y.toInt) (h2 : x.toInt - y.toInt < 2147483648) : (x - y).toInt = x.toInt - y.toInt := XT.sub32 ⟨h1, h2⟩
theorem own_w (x : Int32) : x.toInt64.toInt = x.toInt := Int32.toInt_toInt64 x
theorem own_div64 {x y : Int64} (hx : 0 ≤ x.toInt) (hy : 0 < y.toInt) : (x / y).toInt = x.toInt / y.toInt := by
  rw [Int64.toInt_div, Int.tdiv_eq_ediv_of_nonneg hx]
  have b := own_b64 x
  have h1 : 0 ≤ x.toInt / y.toInt := Int.ediv_nonneg hx (Int.le_of_lt hy)
  have h2 : x.toInt / y.toInt ≤ x.toInt := Int.ediv_le_self _ hx
  exact Int.bmod_eq_of_le (by omega) (by omega)
theorem own_div32 {x y : Int32} (hx : 0 ≤ x.toInt) (hy : 0 < y.toInt) : (x / y).toInt = x.toInt / y.toInt := by
  rw [Int32.toInt_div, Int.tdiv_eq_ediv_of_nonneg hx]
  have b := own_b32 x
  have h1 : 0 ≤ x.toInt / y.toInt := Int.ediv_nonneg hx (Int.le_of_lt hy)
  have h2 : x.toInt / y.toInt ≤ x.toInt := Int.ediv_le_self _ hx
  exact Int.bmod_eq_of_le (by omega) (by omega)
theorem own_rem32 {x y : Int32} (hx : 0 ≤ x.toInt) : (x % y).toInt = x.toInt % y.toInt := by
  rw [Int32.toInt_mod, Int.tmod_eq_emod_of_nonneg hx]
theorem own_pos32 (x : Int32) : 0 ≤ (x &&& 2147483647).toInt := by
  have q := (XT.and_neg32 x 2147483647)
  rw [XT.negI32] at q
  have r : ¬ (x &&& 2147483647).toInt < 0 := fun h => absurd (q.mp h).2 (by decide)
  omega
theorem own_pos64 (x : Int64) : 0 ≤ (x &&& 9223372036854775807).toInt := by
  have q := (XT.and_neg64 x 9223372036854775807)
  rw [XT.negI64] at q
  have r : ¬ (x &&& 9223372036854775807).toInt < 0 := fun h => absurd (q.mp h).2 (by decide)
  omega
theorem own_lt32 {x y : Int32} : x < y ↔ x.toInt < y.toInt := Int32.lt_iff_toInt_lt
theorem own_lt64 {x y : Int64} : x < y ↔ x.toInt < y.toInt := Int64.lt_iff_toInt_lt
theorem own_eq32 {x y : Int32} : x = y ↔ x.toInt = y.toInt := ⟨fun h => h ▸ rfl, Int32.toInt_inj.mp⟩
theorem own_eq64 {x y : Int64} : x = y ↔ x.toInt = y.toInt := ⟨fun h => h ▸ rfl, Int64.toInt_inj.mp⟩
theorem own_lenI {n : Nat} (h : n ≤ 128) : n.toInt32.toInt = n := len_toInt (by omega)
theorem own_lenn {n : Nat} (h : n ≤ 128) : ¬ n.toInt32 < 0 := by
  rw [own_lt32, own_lenI h]; show ¬ (n : Int) < 0; omega
theorem own_lenN {n : Nat} (h : n ≤ 128) : n.toInt32.toNatClampNeg = n := by
  have q := nat_of (own_lenn h)
  have e := own_lenI h
  omega
theorem own_lens {n : Nat} (h : n ≤ 127) : n.toInt32 + 1 = (n + 1).toInt32 := by
  have c1 : (1 : Int32).toInt = 1 := by decide
  rw [own_eq32, own_add32 (by rw [own_lenI (by omega), c1]; omega) (by rw [own_lenI (by omega), c1]; omega), own_lenI (by omega), own_lenI (by omega), c1]
  omega
theorem own_ladd {m n : Nat} (h : m + n ≤ 128) : m.toInt32 + n.toInt32 = (m + n).toInt32 := by
  rw [own_eq32, own_add32 (by rw [own_lenI (by omega), own_lenI (by omega)]; omega) (by rw [own_lenI (by omega), own_lenI (by omega)]; omega), own_lenI (by omega), own_lenI (by omega), own_lenI (by omega)]
  omega
theorem own_lapp {cs : List Int32} {x : Int32} (h : cs.length ≤ 127) : (cs ++ [x]).length.toInt32 = cs.length.toInt32 + 1 := by
  rw [own_lens h, List.length_append]; rfl
theorem own_l0 : (List.length ([] : List Int32)).toInt32 = (0 : Int32) := by decide
theorem own_fit0 : fits .byte (.int 0) = true := by decide
def own_cap (xs cs : List Int32) : Prop := cs <+: xs ∧ (xs.length = 16 ∨ xs.length = 34) ∧ ∀ x ∈ xs, fits .byte (.int x) = true
theorem own_copy {xs : List Int32} (h : xs.length = 16) : (List.replicate 34 (0 : Int32)).take 0 ++ (xs.drop 0).take 16 ++ (List.replicate 34 0).drop (0 + 16) = xs ++ List.replicate 18 0 := by
  rw [List.drop_zero, List.take_of_length_le (Nat.le_of_eq h)]; rfl
theorem own_gok {N : Nat} {min : Int32} (h : min = N.toInt32) (hN : N ≤ 32) : ((min <<< ((0 : Int32) &&& 31)) - (16 : Int32)) < (18 : Int32) := by
  have : ∀ k : Fin 33, ((k.val.toInt32 <<< ((0 : Int32) &&& 31)) - (16 : Int32)) < (18 : Int32) := by decide +kernel
  rw [h]; exact this ⟨N, by omega⟩
theorem own_no34 {N : Nat} {min : Int32} (h : min = N.toInt32) (hN : N ≤ 32) : ¬ (0 : Int32) < (min - ((34 : Int32) >>> ((0 : Int32) &&& 31))) := by
  have : ∀ k : Fin 33, ¬ (0 : Int32) < (k.val.toInt32 - ((34 : Int32) >>> ((0 : Int32) &&& 31))) := by decide +kernel
  rw [h]; exact this ⟨N, by omega⟩
theorem own_nog16 {N : Nat} {min : Int32} {xs : List Int32} (h : min = N.toInt32) (hN : N ≤ 32) (hL : xs.length = 16) (c : ¬ (0 : Int32) < (min - ((16 : Int32) >>> ((0 : Int32) &&& 31)))) : N ≤ xs.length := by
  have : ∀ k : Fin 33, ¬ (0 : Int32) < (k.val.toInt32 - ((16 : Int32) >>> ((0 : Int32) &&& 31))) → k.val ≤ 16 := by decide +kernel
  rw [h] at c; rw [hL]; exact this ⟨N, by omega⟩ c
theorem own_nog34 {N : Nat} {min : Int32} {xs : List Int32} (h : min = N.toInt32) (hN : N ≤ 32) (hL : xs.length = 34) (c : ¬ (0 : Int32) < (min - ((34 : Int32) >>> ((0 : Int32) &&& 31)))) : N ≤ xs.length := by omega
theorem own_capgrow {xs cs : List Int32} (hL : xs.length = 16) (ok : own_cap xs cs) : own_cap (xs ++ List.replicate 18 0) cs := by
  refine ⟨ok.1.trans (List.prefix_append _ _), Or.inr (by rw [List.length_append, hL]; rfl), fun x hx => ?_⟩
  rcases List.mem_append.mp hx with q | q
  · exact ok.2.2 x q
  · rw [List.eq_of_mem_replicate q]; exact own_fit0
theorem own_capinit : own_cap [0, 0, 0, 0, 0, 0, 0, 0, 0, 0, 0, 0, 0, 0, 0, 0] [] :=
  ⟨List.nil_prefix, Or.inl rfl, fun x hx => by have : x = 0 := by simpa using hx
                                               rw [this]; exact own_fit0⟩
theorem own_capput {xs cs : List Int32} (ok : own_cap xs cs) (h : cs.length < xs.length) : own_cap (xs.set cs.length 32) (cs ++ [32]) := by
  obtain ⟨⟨r, hr⟩, l, f⟩ := ok
  refine ⟨?_, by rw [List.length_set]; exact l, fun y hy => ?_⟩
  · subst hr
    match r with
    | [] => simp at h
    | z :: r' => exact ⟨r', by simp⟩
  · rcases List.mem_or_eq_of_mem_set hy with q | q
    · exact f y q
    · rw [q]; decide
def own_ndN (u : Nat) : Nat := if u < 10 then 1 else if u < 100 then 2 else if u < 1000 then 3 else if u < 10000 then 4 else if u < 100000 then 5 else if u < 1000000 then 6 else if u < 10000000 then 7 else if u < 100000000 then 8 else if u < 1000000000 then 9 else 10
def own_nd (v : Int32) : Nat := own_ndN v.toInt.toNat
theorem own_z0 : (0 : Int32).toInt = 0 := by decide
theorem own_m1 : (-10 : Int32).toInt = -10 := by decide
theorem own_m2 : (-100 : Int32).toInt = -100 := by decide
theorem own_m3 : (-1000 : Int32).toInt = -1000 := by decide
theorem own_m4 : (-10000 : Int32).toInt = -10000 := by decide
theorem own_m5 : (-100000 : Int32).toInt = -100000 := by decide
theorem own_m6 : (-1000000 : Int32).toInt = -1000000 := by decide
theorem own_m7 : (-10000000 : Int32).toInt = -10000000 := by decide
theorem own_m8 : (-100000000 : Int32).toInt = -100000000 := by decide
theorem own_m9 : (-1000000000 : Int32).toInt = -1000000000 := by decide
theorem own_p1 : (10 : Int32).toInt = 10 := by decide
theorem own_p2 : (100 : Int32).toInt = 100 := by decide
theorem own_p3 : (1000 : Int32).toInt = 1000 := by decide
theorem own_p4 : (10000 : Int32).toInt = 10000 := by decide
theorem own_p5 : (100000 : Int32).toInt = 100000 := by decide
theorem own_p6 : (1000000 : Int32).toInt = 1000000 := by decide
theorem own_p7 : (10000000 : Int32).toInt = 10000000 := by decide
theorem own_p8 : (100000000 : Int32).toInt = 100000000 := by decide
theorem own_p9 : (1000000000 : Int32).toInt = 1000000000 := by decide
theorem own_m09 : (-9 : Int32).toInt = -9 := by decide
theorem own_m100 : (-100 : Int32).toInt = -100 := by decide
theorem own_negv {v : Int32} (h : 0 < v.toInt) : (-v).toInt = -v.toInt := by
  have b := own_b32 v
  have e : -v = 0 - v := (Int32.zero_sub v).symm
  rw [e, own_sub32 (by rw [own_z0]; omega) (by rw [own_z0]; omega), own_z0]; omega
theorem own_pos0 {v : Int32} (h : 0 < v.toInt) : ¬ v < 0 := by rw [own_lt32, own_z0]; omega
def own_d (n : Nat) : Int32 := (48 + n).toInt32
def own_ones : List Int32 := (List.range 100).map fun i => own_d (i % 10)
def own_tens : List Int32 := (List.range 100).map fun i => own_d (i / 10)
theorem own_onesq {r : Nat} (h : r < 100) : own_ones[r]? = some (own_d (r % 10)) := by
  unfold own_ones
  rw [List.getElem?_map, List.getElem?_range h]; rfl
theorem own_tensq {r : Nat} (h : r < 100) : own_tens[r]? = some (own_d (r / 10)) := by
  unfold own_tens
  rw [List.getElem?_map, List.getElem?_range h]; rfl
theorem own_nard {n : Nat} (h : n < 10) : nar .byte (own_d n) = own_d n := by
  have : ∀ k : Fin 10, nar .byte (own_d k.val) = own_d k.val := by decide +kernel
  exact this ⟨n, h⟩
def own_decN : Nat → Nat → List Int32
  | 0, u => if u < 10 then [own_d u] else [own_d (u / 10), own_d (u % 10)]
  | k + 1, u => if u < 100 then (if u < 10 then [own_d u] else [own_d (u / 10), own_d (u % 10)]) else own_decN k (u / 100) ++ [own_d (u % 100 / 10), own_d (u % 100 % 10)]
def own_dec (v : Int32) : List Int32 := own_decN 4 v.toInt.toNat
theorem own_dec1 {k u : Nat} (h : u < 10) : own_decN k u = [own_d (u % 10)] := by
  rw [Nat.mod_eq_of_lt h]
  cases k with
  | zero => unfold own_decN; rw [if_pos h]
  | succ k => unfold own_decN; rw [if_pos (by omega), if_pos h]
theorem own_dec2 {k u : Nat} (h : u < 100) (h2 : ¬ u < 10) : own_decN k u = [own_d (u / 10), own_d (u % 10)] := by
  cases k with
  | zero => unfold own_decN; rw [if_neg h2]
  | succ k => unfold own_decN; rw [if_pos h, if_neg h2]
theorem own_decS {k u : Nat} (h : 100 ≤ u) : own_decN (k + 1) u = own_decN k (u / 100) ++ [own_d (u % 100 / 10), own_d (u % 100 % 10)] := by
  conv => lhs; unfold own_decN
  rw [if_neg (by omega)]
theorem own_decpos (k u : Nat) : 1 ≤ (own_decN k u).length := by
  by_cases h : u < 10
  · rw [own_dec1 h]; simp
  · cases k with
    | zero => unfold own_decN; rw [if_neg h]; simp
    | succ k =>
      by_cases h2 : u < 100
      · rw [own_dec2 h2 h]; simp
      · rw [own_decS (by omega), List.length_append]; simp
theorem own_fin1 {xs : List Int32} {p : Nat} {A : Int32} (h : 1 ≤ p) (hp : p ≤ xs.length) : xs.set (p - 1) A = xs.take (p - [A].length) ++ [A] ++ xs.drop p := by
  rw [List.set_eq_take_append_cons_drop, if_pos (by omega)]
  show _ = xs.take (p - 1) ++ [A] ++ _
  rw [show p - 1 + 1 = p by omega]; simp
theorem own_fin2 {xs : List Int32} {p : Nat} {A B : Int32} (h : 2 ≤ p) (hp : p ≤ xs.length) : (xs.set (p - 1) A).set (p - 2) B = xs.take (p - [B, A].length) ++ [B, A] ++ xs.drop p := by
  have e : xs = xs.take (p - 2) ++ xs.drop (p - 2) := (List.take_append_drop _ _).symm
  have l : (xs.take (p - 2)).length = p - 2 := by rw [List.length_take]; omega
  match hd : xs.drop (p - 2) with
  | [] => have := congrArg List.length hd; simp at this; omega
  | [x] => have := congrArg List.length hd; simp at this; omega
  | y :: x :: r =>
    have dr : xs.drop p = r := by
      have : xs.drop p = (xs.drop (p - 2)).drop 2 := by rw [List.drop_drop]; congr 1; omega
      rw [this, hd]; rfl
    rw [hd] at e
    rw [dr]
    show (xs.set (p - 1) A).set (p - 2) B = xs.take (p - 2) ++ [B, A] ++ r
    generalize xs.take (p - 2) = L at e l ⊢
    subst e
    rw [show p - 1 = L.length + 1 by omega, ← l, List.set_append_right _ _ (by omega), show L.length + 1 - L.length = 1 by omega, List.set_append_right _ _ (by omega), Nat.sub_self]
    simp
theorem own_putstep {xs D : List Int32} {p : Nat} {A B : Int32} (h : D.length + 2 ≤ p) (hp : p ≤ xs.length) : xs.take (p - (D ++ [B, A]).length) ++ (D ++ [B, A]) ++ xs.drop p = ((xs.set (p - 1) A).set (p - 2) B).take (p - 2 - D.length) ++ D ++ ((xs.set (p - 1) A).set (p - 2) B).drop (p - 2) := by
  rw [own_fin2 (by omega) hp]
  show _ = List.take (p - 2 - D.length) (xs.take (p - 2) ++ [B, A] ++ xs.drop p) ++ D ++ List.drop (p - 2) (xs.take (p - 2) ++ [B, A] ++ xs.drop p)
  have l : (xs.take (p - 2)).length = p - 2 := by rw [List.length_take]; omega
  have e : p - (D ++ [B, A]).length = p - 2 - D.length := by rw [List.length_append]; simp; omega
  have t0 : xs.take (p - 2 - D.length) = (xs.take (p - 2)).take (p - 2 - D.length) := by rw [List.take_take]; congr 1; omega
  rw [e, t0]
  generalize xs.take (p - 2) = L at l ⊢
  rw [List.append_assoc L, List.take_append_of_le_length (by omega), ← l, List.drop_left]
  simp
theorem own_hu {u k : Nat} (h : u < 100 ^ (k + 1 + 1)) : u / 100 < 100 ^ (k + 1) := by
  rw [Nat.div_lt_iff_lt_mul (by decide)]
  have e : 100 ^ (k + 1 + 1) = 100 ^ (k + 1) * 100 := Nat.pow_succ 100 (k + 1)
  omega
theorem own_negix {i : Int32} {u : Nat} (hi : i.toInt = -(u : Int)) (h : u < 100) : ¬ (-i) < 0 ∧ (-i).toNatClampNeg = u := by
  have e : (-i).toInt = u := by
    rw [(Int32.zero_sub i).symm, own_sub32 (by rw [own_z0]; omega) (by rw [own_z0]; omega), own_z0]; omega
  refine ⟨by rw [own_lt32, e, own_z0]; omega, ?_⟩
  show (-i).toInt.toNat = u
  rw [e]; omega
theorem own_qv {i : Int32} {u : Nat} (hi : i.toInt = -(u : Int)) (h : u < 2147483648) : (i / 100).toInt = -((u / 100 : Nat) : Int) := by
  have c : (100 : Int32).toInt = 100 := by decide
  rw [Int32.toInt_div, c, hi, Int.neg_tdiv, Int.tdiv_eq_ediv_of_nonneg (Int.natCast_nonneg u)]
  have e : ((u : Int) / 100) = ((u / 100 : Nat) : Int) := by omega
  rw [e]
  exact Int.bmod_eq_of_le (by omega) (by omega)
theorem own_rix {i : Int32} {u : Nat} (hi : i.toInt = -(u : Int)) (h : u < 2147483648) : ¬ (((i / 100) * 100) - i) < 0 ∧ (((i / 100) * 100) - i).toNatClampNeg = u % 100 := by
  have q := own_qv hi h
  have c : (100 : Int32).toInt = 100 := by decide
  have e1 : ((i / 100) * 100).toInt = -((u / 100 : Nat) : Int) * 100 := by
    rw [XT.mul32 ⟨by rw [q, c]; omega, by rw [q, c]; omega⟩, q, c]
  have e : (((i / 100) * 100) - i).toInt = ((u % 100 : Nat) : Int) := by
    rw [own_sub32 (by rw [e1, hi]; omega) (by rw [e1, hi]; omega), e1, hi]; omega
  refine ⟨by rw [own_lt32, e, own_z0]; omega, ?_⟩
  show (((i / 100) * 100) - i).toInt.toNat = _
  rw [e]; omega
theorem own_posd {pos : Int32} {p : Nat} (h : pos = p.toInt32) (hp : p ≤ 128) (h1 : 1 ≤ p) : pos + (-1 : Int32) = (p - 1).toInt32 := by
  have c : (-1 : Int32).toInt = -1 := by decide
  rw [h, own_eq32, own_add32 (by rw [own_lenI hp, c]; omega) (by rw [own_lenI hp, c]; omega), own_lenI hp, own_lenI (by omega), c]; omega
theorem own_posd2 {pos : Int32} {p : Nat} (h : pos = p.toInt32) (hp : p ≤ 128) (h1 : 2 ≤ p) : pos + (-1 : Int32) + (-1 : Int32) = (p - 2).toInt32 := by
  have e := own_posd h hp (by omega)
  have e2 := own_posd (pos := pos + (-1 : Int32)) (p := p - 1) e (by omega) (by omega)
  rw [e2, Nat.sub_sub]
theorem own_negu {v : Int32} (h : 0 < v.toInt) : (-v).toInt = -((v.toInt.toNat : Nat) : Int) := by rw [own_negv h]; omega
theorem own_u31 (v : Int32) : v.toInt.toNat < 2147483648 := by have := own_b32 v; omega
theorem own_u5 (v : Int32) : v.toInt.toNat < 100 ^ (4 + 1) := Nat.lt_trans (own_u31 v) (by decide)
theorem own_ndS {u : Nat} (h : 100 ≤ u) (h2 : u < 10000000000) : own_ndN u = own_ndN (u / 100) + 2 := by
  unfold own_ndN
  by_cases c3 : u < 1000
  · simp [show ¬ u < 10 by omega, show ¬ u < 100 by omega, c3, show u / 100 < 10 by omega]
  by_cases c4 : u < 10000
  · simp [show ¬ u < 10 by omega, show ¬ u < 100 by omega, c3, c4, show ¬ u / 100 < 10 by omega, show u / 100 < 100 by omega]
  by_cases c5 : u < 100000
  · simp [show ¬ u < 10 by omega, show ¬ u < 100 by omega, c3, c4, c5, show ¬ u / 100 < 10 by omega, show ¬ u / 100 < 100 by omega, show u / 100 < 1000 by omega]
  by_cases c6 : u < 1000000
  · simp [show ¬ u < 10 by omega, show ¬ u < 100 by omega, c3, c4, c5, c6, show ¬ u / 100 < 10 by omega, show ¬ u / 100 < 100 by omega, show ¬ u / 100 < 1000 by omega, show u / 100 < 10000 by omega]
  by_cases c7 : u < 10000000
  · simp [show ¬ u < 10 by omega, show ¬ u < 100 by omega, c3, c4, c5, c6, c7, show ¬ u / 100 < 10 by omega, show ¬ u / 100 < 100 by omega, show ¬ u / 100 < 1000 by omega, show ¬ u / 100 < 10000 by omega, show u / 100 < 100000 by omega]
  by_cases c8 : u < 100000000
  · simp [show ¬ u < 10 by omega, show ¬ u < 100 by omega, c3, c4, c5, c6, c7, c8, show ¬ u / 100 < 10 by omega, show ¬ u / 100 < 100 by omega, show ¬ u / 100 < 1000 by omega, show ¬ u / 100 < 10000 by omega, show ¬ u / 100 < 100000 by omega, show u / 100 < 1000000 by omega]
  by_cases c9 : u < 1000000000
  · simp [show ¬ u < 10 by omega, show ¬ u < 100 by omega, c3, c4, c5, c6, c7, c8, c9, show ¬ u / 100 < 10 by omega, show ¬ u / 100 < 100 by omega, show ¬ u / 100 < 1000 by omega, show ¬ u / 100 < 10000 by omega, show ¬ u / 100 < 100000 by omega, show ¬ u / 100 < 1000000 by omega, show u / 100 < 10000000 by omega]
  · simp [show ¬ u < 10 by omega, show ¬ u < 100 by omega, c3, c4, c5, c6, c7, c8, c9, show ¬ u / 100 < 10 by omega, show ¬ u / 100 < 100 by omega, show ¬ u / 100 < 1000 by omega, show ¬ u / 100 < 10000 by omega, show ¬ u / 100 < 100000 by omega, show ¬ u / 100 < 1000000 by omega, show ¬ u / 100 < 10000000 by omega, show u / 100 < 100000000 by omega]
theorem own_nd_1 {u : Nat} (h : u < 10) : own_ndN u = 1 := by unfold own_ndN; rw [if_pos h]
theorem own_nd_2 {u : Nat} (h : u < 100) (h2 : ¬ u < 10) : own_ndN u = 2 := by unfold own_ndN; rw [if_neg h2, if_pos h]
theorem own_decN_len : ∀ (k u : Nat), u < 100 ^ (k + 1) → u < 10000000000 → (own_decN k u).length = own_ndN u
  | 0, u, hu, _ => by
    have hu' : u < 100 := hu
    by_cases h : u < 10
    · rw [own_dec1 h, own_nd_1 h]; rfl
    · rw [own_dec2 hu' h, own_nd_2 hu' h]; rfl
  | k + 1, u, hu, h10 => by
    by_cases h : u < 10
    · rw [own_dec1 h, own_nd_1 h]; rfl
    · by_cases h2 : u < 100
      · rw [own_dec2 h2 h, own_nd_2 h2 h]; rfl
      · rw [own_decS (by omega), List.length_append, own_decN_len k (u / 100) (own_hu hu) (by omega), own_ndS (by omega) h10]; rfl
theorem own_declen {v : Int32} (hv : 0 < v.toInt) : (own_dec v).length = own_nd v := own_decN_len 4 _ (own_u5 v) (Nat.lt_trans (own_u31 v) (by decide))
theorem own_nd10 (v : Int32) : own_nd v ≤ 10 := by
  unfold own_nd own_ndN; (repeat' split) <;> omega
theorem own_nd1 (v : Int32) : 1 ≤ own_nd v := by
  unfold own_nd own_ndN; (repeat' split) <;> omega
theorem own_decd : ∀ (k u : Nat), u < 100 ^ (k + 1) → ∀ x ∈ own_decN k u, ∃ n, n < 10 ∧ x = own_d n
  | 0, u, hu, x, hx => by
    have hu' : u < 100 := hu
    by_cases h : u < 10
    · rw [own_dec1 h] at hx; exact ⟨u % 10, by omega, by simpa using hx⟩
    · rw [own_dec2 hu' h] at hx
      rcases List.mem_cons.mp hx with q | q
      · exact ⟨_, by omega, q⟩
      · exact ⟨u % 10, by omega, by simpa using q⟩
  | k + 1, u, hu, x, hx => by
    by_cases h : u < 10
    · rw [own_dec1 h] at hx; exact ⟨u % 10, by omega, by simpa using hx⟩
    · by_cases h2 : u < 100
      · rw [own_dec2 h2 h] at hx
        rcases List.mem_cons.mp hx with q | q
        · exact ⟨_, by omega, q⟩
        · exact ⟨u % 10, by omega, by simpa using q⟩
      · rw [own_decS (by omega)] at hx
        rcases List.mem_append.mp hx with q | q
        · exact own_decd k (u / 100) (own_hu hu) x q
        · rcases List.mem_cons.mp q with q | q
          · exact ⟨_, by omega, q⟩
          · exact ⟨u % 100 % 10, by omega, by simpa using q⟩
theorem own_dfit {n : Nat} (h : n < 10) : fits .byte (.int (own_d n)) = true := by
  have : ∀ k : Fin 10, fits .byte (.int (own_d k.val)) = true := by decide +kernel
  exact this ⟨n, h⟩
theorem own_dasc {n : Nat} (h : n < 10) : 32 ≤ (own_d n).toInt ∧ (own_d n).toInt ≤ 57 := by
  have : ∀ k : Fin 10, 32 ≤ (own_d k.val).toInt ∧ (own_d k.val).toInt ≤ 57 := by decide +kernel
  exact this ⟨n, h⟩
def own_asc (cs : List Int32) : Prop := ∀ x ∈ cs, 32 ≤ x.toInt ∧ x.toInt ≤ 57
theorem own_asc0 : own_asc [] := fun x hx => by cases hx
theorem own_asc32 : own_asc [32] := fun x hx => by
  have : x = 32 := by simpa using hx
  subst this; decide
theorem own_ascd (v : Int32) : own_asc (own_dec v) := fun x hx => by
  obtain ⟨n, hn, rfl⟩ := own_decd 4 _ (own_u5 v) x hx
  exact own_dasc hn
theorem own_ascA {a b : List Int32} (ha : own_asc a) (hb : own_asc b) : own_asc (a ++ b) := fun x hx => (List.mem_append.mp hx).elim (ha x) (hb x)
theorem own_cap40 {xs cs : List Int32} (ok : own_cap xs cs) : xs.length ≤ 40 := by have := ok.2.1; omega
theorem own_cap34 {xs cs : List Int32} (ok : own_cap xs cs) : xs.length ≤ 34 := by have := ok.2.1; omega
theorem own_capdec {v : Int32} {xs cs : List Int32} (hv : 0 < v.toInt) (ok : own_cap xs cs) (h : cs.length + own_nd v ≤ xs.length) : own_cap (xs.take (cs.length + own_nd v - (own_dec v).length) ++ own_dec v ++ xs.drop (cs.length + own_nd v)) (cs ++ own_dec v) := by
  have e := own_declen hv
  obtain ⟨⟨r, hr⟩, l, f⟩ := ok
  have t : xs.take (cs.length + own_nd v - (own_dec v).length) = cs := by
    rw [e, Nat.add_sub_cancel, ← hr, List.take_left]
  refine ⟨?_, ?_, fun x hx => ?_⟩
  · rw [t]; exact List.prefix_append _ _
  · rw [t, List.length_append, List.length_append, List.length_drop, e]; omega
  · rcases List.mem_append.mp hx with q | q
    · rcases List.mem_append.mp q with q | q
      · exact f x (List.mem_of_mem_take q)
      · obtain ⟨n, hn, rfl⟩ := own_decd 4 _ (own_u5 v) x q
        exact own_dfit hn
    · exact f x (List.mem_of_mem_drop q)
theorem own_ldec {v : Int32} {cs : List Int32} (hv : 0 < v.toInt) (h : cs.length + own_nd v ≤ 128) : (cs ++ own_dec v).length.toInt32 = cs.length.toInt32 + (own_nd v).toInt32 := by
  rw [own_ladd h, List.length_append, own_declen hv]
theorem own_sub0 (x : Int32) : x - 0 = x := Int32.sub_zero x
theorem own_shr0 (x : Int32) : x >>> ((0 : Int32) &&& 31) = x := by
  apply Int32.toBitVec_inj.mp
  rw [Int32.toBitVec_shiftRight]
  show x.toBitVec.sshiftRight' (((0 : Int32) &&& 31).toBitVec.smod 32) = _
  rw [show ((0 : Int32) &&& 31).toBitVec.smod 32 = 0#32 by decide]
  show x.toBitVec.sshiftRight 0 = _
  simp
theorem own_nN {n : Int32} {cs xs : List Int32} (hn : n = cs.length.toInt32) (hpre : cs <+: xs) (hxl : xs.length ≤ 34) : ¬ n < 0 ∧ n.toNatClampNeg = cs.length := by
  have := hpre.length_le
  rw [hn]; exact ⟨own_lenn (by omega), own_lenN (by omega)⟩
theorem own_minr {n : Int32} {cs xs : List Int32} (hn : n = cs.length.toInt32) (hpre : cs <+: xs) (hxl : xs.length ≤ 34) : ¬ (if n < xs.length.toInt32 then n else xs.length.toInt32) < 0 ∧ (if n < xs.length.toInt32 then n else xs.length.toInt32).toNatClampNeg = cs.length := by
  have := hpre.length_le
  by_cases c : n < xs.length.toInt32
  · rw [if_pos c]; exact own_nN hn hpre hxl
  · rw [if_neg c]
    rw [hn, own_lt32, own_lenI (by omega), own_lenI (by omega)] at c
    have : xs.length = cs.length := by omega
    rw [this]; exact ⟨own_lenn (by omega), own_lenN (by omega)⟩
theorem own_copyr {n : Int32} {cs xs : List Int32} (hn : n = cs.length.toInt32) (hpre : cs <+: xs) (hxl : xs.length ≤ 34) : (List.replicate n.toNatClampNeg (0 : Int32)).take 0 ++ (xs.drop 0).take cs.length ++ (List.replicate n.toNatClampNeg 0).drop (0 + cs.length) = cs := by
  rw [(own_nN hn hpre hxl).2]
  obtain ⟨r, hr⟩ := hpre
  rw [← hr]; simp
theorem own_eqlen {n : Int32} {cs xs : List Int32} (hn : n = cs.length.toInt32) (hpre : cs <+: xs) (hxl : xs.length ≤ 34) (c : n = xs.length.toInt32) : xs = cs := by
  have := hpre.length_le
  rw [hn, own_eq32, own_lenI (by omega), own_lenI (by omega)] at c
  exact (hpre.eq_of_length (by omega)).symm
theorem own_lpos {L : Nat} (h1 : 0 < L) (h2 : L ≤ 127) : (0 : Int32) < L.toInt32 := by
  rw [own_lt32, own_lenI (by omega), own_z0]; omega
theorem own_getq {cs : List Int32} {J : Nat} (h : J < cs.length) : cs[J]? = some (cs.getD J 0) := by
  rw [List.getD_eq_getElem?_getD, List.getElem?_eq_getElem h]; rfl
theorem own_ascg {cs : List Int32} {J : Nat} (h : own_asc cs) (hJ : J < cs.length) : 32 ≤ (cs.getD J 0).toInt ∧ (cs.getD J 0).toInt ≤ 57 := h _ (List.mem_of_getElem? (own_getq hJ))
theorem own_ilt {i : Int32} {cs : List Int32} {J : Nat} (hi : i = J.toInt32) (hJ : J < cs.length) (hl : cs.length ≤ 100) : i < cs.length.toInt32 := by
  rw [hi, own_lt32, own_lenI (by omega), own_lenI (by omega)]; omega
theorem own_smallv {x : Int32} (h : 32 ≤ x.toInt ∧ x.toInt ≤ 57) : ∃ k : Fin 58, x = k.val.toInt32 := by
  refine ⟨⟨x.toInt.toNat, by omega⟩, ?_⟩
  rw [own_eq32]
  show x.toInt = (x.toInt.toNat).toInt32.toInt
  rw [own_lenI (by omega)]; omega
theorem own_chr {x : Int32} (h : 32 ≤ x.toInt ∧ x.toInt ≤ 57) : nar .char (UInt32.toInt32 (UInt16.toUInt32 (UInt32.toUInt16 (Int32.toUInt32 (x &&& 255))))) = x := by
  obtain ⟨k, rfl⟩ := own_smallv h
  have : ∀ k : Fin 58, nar .char (UInt32.toInt32 (UInt16.toUInt32 (UInt32.toUInt16 (Int32.toUInt32 (k.val.toInt32 &&& 255))))) = k.val.toInt32 := by decide +kernel
  exact this k
theorem own_chr2 {x : Int32} (h : 32 ≤ x.toInt ∧ x.toInt ≤ 57) : nar .char x = x := by
  obtain ⟨k, rfl⟩ := own_smallv h
  have : ∀ k : Fin 58, nar .char k.val.toInt32 = k.val.toInt32 := by decide +kernel
  exact this k
def own_site (x : Int32) : Int32 := (x &&& 2147483647) % 2147483647
theorem own_sitev (x : Int32) : 0 < (own_site x + 1).toInt := by
  have p := own_pos32 x
  have e := own_rem32 (x := x &&& 2147483647) (y := 2147483647) p
  have c : (2147483647 : Int32).toInt = 2147483647 := by decide
  have c1 : (1 : Int32).toInt = 1 := by decide
  rw [c] at e
  unfold own_site
  rw [own_add32 (by rw [e, c1]; omega) (by rw [e, c1]; omega), e, c1]; omega
theorem own_klt {n q : Int32} {v : Int32} {k : Nat} (hn : n = (own_nd v).toInt32) (hk : q.toInt = k) (c : q < n) : k < own_nd v := by
  have := own_nd10 v
  rw [hn, own_lt32, hk, own_lenI (by omega)] at c; omega
theorem own_dlen {v : Int32} {cs pre post : List Int32} (hv : 0 < v.toInt) (hcs : cs = pre ++ own_dec v ++ post) (hl : cs.length ≤ 100) : pre.length + own_nd v ≤ 100 := by
  rw [hcs, List.length_append, List.length_append, own_declen hv] at hl; omega
theorem own_didx {p n q : Int32} {v : Int32} {pre : List Int32} {k : Nat} (hp : p = pre.length.toInt32) (hn : n = (own_nd v).toInt32) (hk : k < own_nd v) (hq : q.toInt = k) (hl : pre.length + own_nd v ≤ 100) : (((p + n) - 1) - q) = (pre.length + own_nd v - 1 - k).toInt32 := by
  have c1 : (1 : Int32).toInt = 1 := by decide
  have e1 : (p + n).toInt = pre.length + own_nd v := by rw [hp, hn, own_ladd (by omega), own_lenI (by omega)]; omega
  have e2 : (p + n - 1).toInt = pre.length + own_nd v - 1 := by rw [own_sub32 (by rw [e1, c1]; omega) (by rw [e1, c1]; omega), e1, c1]
  rw [own_eq32, own_sub32 (by rw [e2, hq]; omega) (by rw [e2, hq]; omega), e2, hq, own_lenI (by omega)]; omega
theorem own_dJ {v : Int32} {cs pre post : List Int32} {k : Nat} (hv : 0 < v.toInt) (hcs : cs = pre ++ own_dec v ++ post) (hk : k < own_nd v) : pre.length + own_nd v - 1 - k < cs.length := by
  rw [hcs, List.length_append, List.length_append, own_declen hv]; omega
theorem own_decq : ∀ (k u : Nat), u < 100 ^ (k + 1) → u < 10000000000 → ∀ j, j < own_ndN u → (own_decN k u)[own_ndN u - 1 - j]? = some (own_d (u / 10 ^ j % 10))
  | 0, u, hu, _, j, hj => by
    have hu' : u < 100 := hu
    by_cases h : u < 10
    · rw [own_nd_1 h] at hj ⊢
      obtain rfl : j = 0 := by omega
      rw [own_dec1 h]; simp
    · rw [own_nd_2 hu' h] at hj ⊢
      rw [own_dec2 hu' h]
      rcases (show j = 0 ∨ j = 1 by omega) with rfl | rfl
      · simp
      · simp [show u / 10 % 10 = u / 10 by omega]
  | k + 1, u, hu, h10, j, hj => by
    by_cases h : u < 10
    · rw [own_nd_1 h] at hj ⊢
      obtain rfl : j = 0 := by omega
      rw [own_dec1 h]; simp
    · by_cases hu' : u < 100
      · rw [own_nd_2 hu' h] at hj ⊢
        rw [own_dec2 hu' h]
        rcases (show j = 0 ∨ j = 1 by omega) with rfl | rfl
        · simp
        · simp [show u / 10 % 10 = u / 10 by omega]
      · have s := own_ndS (u := u) (by omega) h10
        have ln := own_decN_len k (u / 100) (own_hu hu) (by omega)
        rw [own_decS (by omega)]
        rw [s] at hj ⊢
        by_cases j2 : j < 2
        · rw [List.getElem?_append_right (by omega), ln]
          rcases (show j = 0 ∨ j = 1 by omega) with rfl | rfl
          · rw [show own_ndN (u / 100) + 2 - 1 - 0 - own_ndN (u / 100) = 1 by omega]
            simp [show u % 100 % 10 = u % 10 by omega]
          · rw [show own_ndN (u / 100) + 2 - 1 - 1 - own_ndN (u / 100) = 0 by omega]
            simp [show u % 100 / 10 = u / 10 % 10 by omega]
        · obtain ⟨i, rfl⟩ : ∃ i, j = i + 2 := ⟨j - 2, by omega⟩
          rw [List.getElem?_append_left (by rw [ln]; omega), show own_ndN (u / 100) + 2 - 1 - (i + 2) = own_ndN (u / 100) - 1 - i by omega, own_decq k (u / 100) (own_hu hu) (by omega) i (by omega)]
          have : u / 100 / 10 ^ i = u / 10 ^ (i + 2) := by rw [Nat.div_div_eq_div_mul, Nat.pow_add, Nat.mul_comm (10 ^ i)]
          rw [this]
theorem own_i2c {m : Nat} (h : m < 10) {y : Int32} (hy : y.toInt = m) : UInt32.toInt32 (UInt16.toUInt32 (UInt32.toUInt16 (Int32.toUInt32 ((48 : Int32) + y)))) = own_d m := by
  have e : y = m.toInt32 := by rw [own_eq32, hy, own_lenI (by omega)]
  have : ∀ k : Fin 10, UInt32.toInt32 (UInt16.toUInt32 (UInt32.toUInt16 (Int32.toUInt32 ((48 : Int32) + k.val.toInt32)))) = own_d k.val := by decide +kernel
  rw [e]; exact this ⟨m, h⟩
theorem own_digit {v pw : Int32} {cs pre post : List Int32} {k : Nat} (hv : 0 < v.toInt) (hcs : cs = pre ++ own_dec v ++ post) (hk : k < own_nd v) (hpow : pw.toInt = ((10 ^ k : Nat) : Int)) : cs.getD (pre.length + own_nd v - 1 - k) 0 = UInt32.toInt32 (UInt16.toUInt32 (UInt32.toUInt16 (Int32.toUInt32 ((48 : Int32) + ((v / pw) % (10 : Int32)))))) := by
  have g : cs[pre.length + own_nd v - 1 - k]? = some (own_d (v.toInt.toNat / 10 ^ k % 10)) := by
    rw [hcs, List.append_assoc, List.getElem?_append_right (by omega), show pre.length + own_nd v - 1 - k - pre.length = own_nd v - 1 - k by omega, List.getElem?_append_left (by rw [own_declen hv]; omega)]
    exact own_decq 4 _ (own_u5 v) (Nat.lt_trans (own_u31 v) (by decide)) k hk
  rw [List.getD_eq_getElem?_getD, g]
  have p10 : 0 < 10 ^ k := Nat.pow_pos (by decide)
  have e : (v / pw).toInt = ((v.toInt.toNat / 10 ^ k : Nat) : Int) := by
    rw [own_div32 (by omega) (by rw [hpow]; exact Int.ofNat_lt.mpr p10), hpow, Int.natCast_ediv, Int.toNat_of_nonneg (by omega)]
  have e2 : ((v / pw) % (10 : Int32)).toInt = ((v.toInt.toNat / 10 ^ k % 10 : Nat) : Int) := by
    rw [own_rem32 (by rw [e]; exact Int.natCast_nonneg _), e, own_p1, Int.natCast_emod]; rfl
  rw [own_i2c (Nat.mod_lt _ (by decide)) e2]; rfl
theorem own_nat {v p : Int32} {cs pre post : List Int32} (hv : 0 < v.toInt) (hcs : cs = pre ++ own_dec v ++ post) (hp : p = pre.length.toInt32) (hl : cs.length ≤ 100) : ¬ (cs.length.toInt32 - p) < (own_nd v).toInt32 := by
  have l : cs.length = pre.length + own_nd v + post.length := by rw [hcs, List.length_append, List.length_append, own_declen hv]
  have := own_nd10 v
  rw [hp, own_lt32, own_sub32 (by rw [own_lenI (by omega), own_lenI (by omega)]; omega) (by rw [own_lenI (by omega), own_lenI (by omega)]; omega), own_lenI (by omega), own_lenI (by omega), own_lenI (by omega)]; omega
theorem own_bJ {cs pre post : List Int32} (hcs : cs = pre ++ [(32 : Int32)] ++ post) : pre.length < cs.length := by
  rw [hcs]; simp
theorem own_bl {cs pre post : List Int32} (hcs : cs = pre ++ [(32 : Int32)] ++ post) : cs.getD pre.length 0 = 32 := by
  rw [hcs, List.getD_eq_getElem?_getD, List.append_assoc, List.getElem?_append_right (Nat.le_refl _), Nat.sub_self]; rfl
theorem own_blt {p : Int32} {cs pre post : List Int32} (hcs : cs = pre ++ [(32 : Int32)] ++ post) (hp : p = pre.length.toInt32) (hl : cs.length ≤ 100) : p < cs.length.toInt32 := own_ilt hp (own_bJ hcs) hl
theorem own_padd {a : List Int32} {q v : Int32} (hv : 0 < v.toInt) (hq : q = a.length.toInt32) (hl : a.length + own_nd v ≤ 100) : q + (own_nd v).toInt32 = (a ++ own_dec v).length.toInt32 := by
  rw [hq, own_ldec hv (by omega)]
theorem own_pinc {a : List Int32} {q : Int32} (hq : q = a.length.toInt32) (hl : a.length ≤ 100) : q + 1 = (a ++ [(32 : Int32)]).length.toInt32 := by
  rw [hq, own_lapp (by omega)]
theorem own_four {x v : Int32} (h : v = x &&& 3) : v = 0 ∨ v = 1 ∨ v = 2 ∨ v = 3 := by
  have e : (x &&& 3).toBitVec.toNat = x.toBitVec.toNat % 4 := by
    rw [Int32.toBitVec_and, BitVec.toNat_and]
    show x.toBitVec.toNat &&& 3 = _
    exact Nat.and_two_pow_sub_one_eq_mod x.toBitVec.toNat 2
  have k := own_nn' (x := x &&& 3) (by omega)
  have q := own_ofnat (x := x &&& 3) (by omega)
  subst h
  have : (x &&& 3).toBitVec.toNat = 0 ∨ (x &&& 3).toBitVec.toNat = 1 ∨ (x &&& 3).toBitVec.toNat = 2 ∨ (x &&& 3).toBitVec.toNat = 3 := by omega
  rcases this with h | h | h | h <;> rw [h] at q <;> rw [q] <;> decide
theorem own_cz {args : Array Value} {Z : State} {cz : Int32} {t : Term} (ev : t.eval args Z none [] Z = some (.int cz)) (h : (Cond.not (Cond.eq t (Term.int 0))).value args Z none Z [] = some true) : ¬ cz = 0 := by
  intro e; subst e
  simp [Cond.value, ev, Term.eval] at h
theorem own_str {args : Array Value} {Z : State} {C n d : String} (hi : (Cond.initializedFor C n d).before args Z = true) (h : (Cond.isRef (Term.static C n d)).value args Z none Z [] = some true) : Str Z Z.heap C n d := by
  cases ev : (Term.static C n d).eval args Z none [] Z with
  | none => simp [Cond.value, ev] at h
  | some v =>
    cases v with
    | null => exact Or.inl (Sta.start ev (Or.inl hi))
    | ref r => exact Or.inr ⟨r, Sta.start ev (Or.inl hi)⟩
    | _ => simp [Cond.value, ev] at h
theorem own_tbl0 {args : Array Value} {Z : State} {t rhs : Term} {F : Nat → Int32} {d : Addr} (et : ∀ idx, t.eval args Z none idx Z = some (.ref d)) (hx : (Cond.exactly t "[B").value args Z none Z [] = some true) (hl : (Cond.eq (Term.length t) (Term.int 100)).value args Z none Z [] = some true) (hall : (Cond.all t (Cond.eq (Term.elem t (Term.index 0)) rhs)).value args Z none Z [] = some true) (harr : (Cond.arrayClass .byte).before args Z = true)
    (hr : ∀ r, r < 100 → rhs.eval args Z none [r] Z = some (.int (F r))) : Ari Z Z.heap d .byte ((List.range 100).map F) := by
  have ev := et []
  have E := Exa.start ev hx
  obtain ⟨cell, k, hc, hf, hk, hst, -⟩ := E
  have hl' := Cond.eq_int (Cond.before_iff.mpr hl) rfl
  obtain ⟨d', D', hev', harrAt, hlen⟩ := Term.length_spec hl'
  cases ev.symm.trans hev'
  obtain ⟨hcell', hkn, -, -⟩ := State.arrayAt?_spec harrAt
  cases hc.symm.trans hcell'
  have kd : ∃ comp, k.kind = .array comp .byte := by
    obtain ⟨q, kq, comp, n1, n2, n3⟩ := Cond.arrayClass_spec harr
    have n1' : Z.vm.findClass "[B" = some q := n1
    rw [← Option.some.inj (hf.symm.trans n1'), hk] at n2
    exact ⟨comp, Option.some.inj n2 ▸ n3⟩
  obtain ⟨comp, hkind⟩ := kd
  have A : Arr Z Z.heap d cell .byte := ⟨hc, ⟨fun q e => (by rw [e] at hst; cases hst), k, hk, comp, hkind⟩, hkn⟩
  have h31 : cell.slots.size < 2147483648 := by
    by_cases q : cell.slots.size < 2147483648
    · exact q
    · simp [Term.eval, ev, harrAt, q] at hl'
  have hsz : cell.slots.size = 100 := by
    have e : (Term.length t).eval args Z none [] Z = some (.int (Int32.ofNat cell.slots.size)) := by simp [Term.eval, ev, harrAt, h31]
    have e2 := Value.int.inj (Option.some.inj (e.symm.trans hl'))
    have e3 := congrArg Int32.toInt e2
    rw [Int32.toInt_ofNat_small h31] at e3
    have c : (100 : Int32).toInt = 100 := by decide
    rw [c] at e3; omega
  have hel : ∀ i, i < 100 → cell.slots[i]? = some (.int (F i)) := by
    intro i hi'
    have h4 := Cond.all_elim ev harrAt hall i (by omega)
    have ht' := et [i]
    have hneg : ¬ (i.toInt32 < 0) := Int32.ofNat_not_neg (by omega)
    have hnat : i.toInt32.toNatClampNeg = i := by
      show (Int32.ofNat i).toInt.toNat = i
      rw [Int32.toInt_ofNat_small (by omega)]; rfl
    have hlt : i < cell.slots.size := by omega
    have eL : (Term.elem t (Term.index 0)).eval args Z none [i] Z = cell.slots[i]? := by
      simp [Term.eval, ht', harrAt, hneg, hnat]
    rw [Array.getElem?_eq_getElem hlt] at eL ⊢
    simp only [Cond.value, eL, hr i hi'] at h4
    cases hv : cell.slots[i] <;> simp [hv] at h4
    rw [h4]
  refine ⟨cell, A, ?_, by simp⟩
  apply List.ext_getElem?
  intro i
  rw [List.getElem?_map, List.getElem?_map]
  by_cases q : i < 100
  · rw [List.getElem?_range q]
    have := hel i q
    simpa using this
  · rw [List.getElem?_eq_none (by simp; omega), List.getElem?_eq_none (by simp; omega)]; rfl
theorem own_tbl {args : Array Value} {Z : State} {n : String} {rhs : Term} {F : Nat → Int32} (hi : (Cond.initializedFor "java/lang/Integer" n "[B").before args Z = true) (hx : (Cond.exactly (Term.static "java/lang/Integer" n "[B") "[B").value args Z none Z [] = some true) (hl : (Cond.eq (Term.length (Term.static "java/lang/Integer" n "[B")) (Term.int 100)).value args Z none Z [] = some true) (hall : (Cond.all (Term.static "java/lang/Integer" n "[B") (Cond.eq (Term.elem (Term.static "java/lang/Integer" n "[B") (Term.index 0)) rhs)).value args Z none Z [] = some true) (harr : (Cond.arrayClass .byte).before args Z = true)
    (hr : ∀ r, r < 100 → rhs.eval args Z none [r] Z = some (.int (F r))) : ∃ d : Addr, Sta Z Z.heap "java/lang/Integer" n "[B" (.ref d) ∧ Ari Z Z.heap d .byte ((List.range 100).map F) ∧ d < Z.heap.size := by
  obtain ⟨d, ev⟩ := exa_v hx
  have A := own_tbl0 (t := Term.static "java/lang/Integer" n "[B") (d := d) (fun idx => by
    have : (Term.static "java/lang/Integer" n "[B").eval args Z none idx Z = (Term.static "java/lang/Integer" n "[B").eval args Z none [] Z := by simp only [Term.eval]
    rw [this]; exact ev) hx hl hall harr hr
  exact ⟨d, Sta.start ev (Or.inl hi), A, A.lt⟩
theorem own_ro {args : Array Value} {Z : State} (r : Nat) (h : r < 100) : (Term.add (Term.int 48) (Term.rem (Term.index 0) (Term.int 10))).eval args Z none [r] Z = some (.int (own_d (r % 10))) := by
  have hneg : r < 2147483648 := by omega
  have : ∀ k : Fin 100, (48 : Int32) + (k.val.toInt32 % 10) = own_d (k.val % 10) := by decide +kernel
  have q := this ⟨r, h⟩
  simp [Term.eval]
  first | exact q | (split <;> first | exact q | omega)
theorem own_rt {args : Array Value} {Z : State} (r : Nat) (h : r < 100) : (Term.add (Term.int 48) (Term.div (Term.index 0) (Term.int 10))).eval args Z none [r] Z = some (.int (own_d (r / 10))) := by
  have hneg : r < 2147483648 := by omega
  have : ∀ k : Fin 100, (48 : Int32) + (k.val.toInt32 / 10) = own_d (k.val / 10) := by decide +kernel
  have q := this ⟨r, h⟩
  simp [Term.eval]
  first | exact q | (split <;> first | exact q | omega)

theorem d39_0 : decode jdk_29_method_65_code 0 = .ok (.iload_n 0, 1) := by decide +kernel
theorem d39_1 : decode jdk_29_method_65_code 1 = .ok (.iload_n 1, 1) := by decide +kernel
theorem d39_2 : decode jdk_29_method_65_code 2 = .ok (.if_icmp .lt 7, 3) := by decide +kernel
theorem d39_5 : decode jdk_29_method_65_code 5 = .ok (.iload_n 0, 1) := by decide +kernel
theorem d39_6 : decode jdk_29_method_65_code 6 = .ok (.goto 4, 3) := by decide +kernel
theorem d39_9 : decode jdk_29_method_65_code 9 = .ok (.iload_n 1, 1) := by decide +kernel
theorem d39_10 : decode jdk_29_method_65_code 10 = .ok (.ireturn, 1) := by decide +kernel

theorem pd39 : parseMethodDescriptor "(II)I" = some ⟨[.int, .int], some .int⟩ := by decide +kernel
theorem pl39 : plainFor (⟨"java/lang/Math", "max", "(II)I"⟩ : MethodName) = true := by first | exact plainFor_of_name (by first | (simp [plainName, overriddenIn]; done) | decide +kernel) | decide +kernel

theorem ef_k_max (m : MethodId) (x0 : Int32) (x1 : Int32) : entryFrame m #[(.int x0), (.int x1)] 2 = mkF m 0 #[.val (.int x0), .val (.int x1)] [] := by first | (simp [entryFrame, mkF, argsToLocals, Value.category]; done) | rfl

set_option maxRecDepth 65536 in
set_option maxHeartbeats 40000000 in
theorem k_max {l : Launch} {Z : State} {a0 : Array Value} (hw : ∀ d ∈ tables_1, d.before a0 Z = true)  (h : Heap) (hz : Z.heap.size ≤ h.size) (x : Int32) (z : Int32)     : Go l Z (⟨"java/lang/Math", "max", "(II)I"⟩ : MethodName) jdk_29_method_65_code 2 (Option.some Jvm.ClassFile.FieldType.int) ({ frames := 0, cells := 0, slots := 0, locals := 0 } : Room) (QI fun rz h' => rz = (if x < z then z else x) ∧ h' = h) 0 0 h 0 #[.val (.int x), .val (.int z)] [] := by
  refine Go.iload_n 1 d39_0 rfl rfl ?_
  refine Go.iload_n 2 d39_1 rfl rfl ?_
  refine Go.icmp_lt 9 5 d39_2 (by decide) (by decide) rfl (fun c1 => ?_) (fun c1 => ?_)
  ·
    refine Go.iload_n 10 d39_9 rfl rfl ?_
    refine Go.ireturn d39_10 rfl (by decide) (by decide) ?_
    exact ⟨by first | rfl | (simp [*]; done) | simp_all, rfl⟩
  ·
    refine Go.iload_n 6 d39_5 rfl rfl ?_
    refine Go.goto 10 d39_6 (by decide) (by decide) ?_
    refine Go.ireturn d39_10 rfl (by decide) (by decide) ?_
    exact ⟨by first | rfl | (simp [*]; done) | simp_all, rfl⟩

theorem d16_0 : decode jdk_29_method_69_code 0 = .ok (.iload_n 0, 1) := by decide +kernel
theorem d16_1 : decode jdk_29_method_69_code 1 = .ok (.iload_n 1, 1) := by decide +kernel
theorem d16_2 : decode jdk_29_method_69_code 2 = .ok (.if_icmp .gt 7, 3) := by decide +kernel
theorem d16_5 : decode jdk_29_method_69_code 5 = .ok (.iload_n 0, 1) := by decide +kernel
theorem d16_6 : decode jdk_29_method_69_code 6 = .ok (.goto 4, 3) := by decide +kernel
theorem d16_9 : decode jdk_29_method_69_code 9 = .ok (.iload_n 1, 1) := by decide +kernel
theorem d16_10 : decode jdk_29_method_69_code 10 = .ok (.ireturn, 1) := by decide +kernel

theorem pd16 : parseMethodDescriptor "(II)I" = some ⟨[.int, .int], some .int⟩ := by decide +kernel
theorem pl16 : plainFor (⟨"java/lang/Math", "min", "(II)I"⟩ : MethodName) = true := by first | exact plainFor_of_name (by first | (simp [plainName, overriddenIn]; done) | decide +kernel) | decide +kernel

theorem ef_k_min (m : MethodId) (x0 : Int32) (x1 : Int32) : entryFrame m #[(.int x0), (.int x1)] 2 = mkF m 0 #[.val (.int x0), .val (.int x1)] [] := by first | (simp [entryFrame, mkF, argsToLocals, Value.category]; done) | rfl

set_option maxRecDepth 65536 in
set_option maxHeartbeats 40000000 in
theorem k_min {l : Launch} {Z : State} {a0 : Array Value} (hw : ∀ d ∈ tables_1, d.before a0 Z = true)  (h : Heap) (hz : Z.heap.size ≤ h.size) (x : Int32) (z : Int32)     : Go l Z (⟨"java/lang/Math", "min", "(II)I"⟩ : MethodName) jdk_29_method_69_code 2 (Option.some Jvm.ClassFile.FieldType.int) ({ frames := 0, cells := 0, slots := 0, locals := 0 } : Room) (QI fun rz h' => rz = (if z < x then z else x) ∧ h' = h) 0 0 h 0 #[.val (.int x), .val (.int z)] [] := by
  refine Go.iload_n 1 d16_0 rfl rfl ?_
  refine Go.iload_n 2 d16_1 rfl rfl ?_
  refine Go.icmp_gt 9 5 d16_2 (by decide) (by decide) rfl (fun c1 => ?_) (fun c1 => ?_)
  ·
    refine Go.iload_n 10 d16_9 rfl rfl ?_
    refine Go.ireturn d16_10 rfl (by decide) (by decide) ?_
    exact ⟨by first | rfl | (simp [*]; done) | simp_all, rfl⟩
  ·
    refine Go.iload_n 6 d16_5 rfl rfl ?_
    refine Go.goto 10 d16_6 (by decide) (by decide) ?_
    refine Go.ireturn d16_10 rfl (by decide) (by decide) ?_
    exact ⟨by first | rfl | (simp [*]; done) | simp_all, rfl⟩

theorem d38_0 : decode jdk_48_method_27_code 0 = .ok (.iload_n 0, 1) := by decide +kernel
theorem d38_1 : decode jdk_48_method_27_code 1 = .ok (.iload_n 1, 1) := by decide +kernel
theorem d38_2 : decode jdk_48_method_27_code 2 = .ok (.iload_n 2, 1) := by decide +kernel
theorem d38_3 : decode jdk_48_method_27_code 3 = .ok (.invokestatic 194, 3) := by decide +kernel
theorem d38_6 : decode jdk_48_method_27_code 6 = .ok (.iadd, 1) := by decide +kernel
theorem d38_7 : decode jdk_48_method_27_code 7 = .ok (.istore_n 3, 1) := by decide +kernel
theorem d38_8 : decode jdk_48_method_27_code 8 = .ok (.iconst 0, 1) := by decide +kernel
theorem d38_9 : decode jdk_48_method_27_code 9 = .ok (.iload_n 3, 1) := by decide +kernel
theorem d38_10 : decode jdk_48_method_27_code 10 = .ok (.if_icmp .ge 11, 3) := by decide +kernel
theorem d38_13 : decode jdk_48_method_27_code 13 = .ok (.iload_n 3, 1) := by decide +kernel
theorem d38_14 : decode jdk_48_method_27_code 14 = .ok (.ldc 200, 2) := by decide +kernel
theorem d38_16 : decode jdk_48_method_27_code 16 = .ok (.if_icmp .gt 5, 3) := by decide +kernel
theorem d38_19 : decode jdk_48_method_27_code 19 = .ok (.iload_n 3, 1) := by decide +kernel
theorem d38_20 : decode jdk_48_method_27_code 20 = .ok (.ireturn, 1) := by decide +kernel
theorem d38_21 : decode jdk_48_method_27_code 21 = .ok (.iload_n 0, 1) := by decide +kernel
theorem d38_22 : decode jdk_48_method_27_code 22 = .ok (.iload_n 1, 1) := by decide +kernel
theorem d38_23 : decode jdk_48_method_27_code 23 = .ok (.invokestatic 201, 3) := by decide +kernel
theorem d38_26 : decode jdk_48_method_27_code 26 = .ok (.ireturn, 1) := by decide +kernel

theorem pd38 : parseMethodDescriptor "(III)I" = some ⟨[.int, .int, .int], some .int⟩ := by decide +kernel
theorem pl38 : plainFor (⟨"jdk/internal/util/ArraysSupport", "newLength", "(III)I"⟩ : MethodName) = true := by first | exact plainFor_of_name (by first | (simp [plainName, overriddenIn]; done) | decide +kernel) | decide +kernel

theorem ef_k_nl (m : MethodId) (x0 : Int32) (x1 : Int32) (x2 : Int32) : entryFrame m #[(.int x0), (.int x1), (.int x2)] 4 = mkF m 0 #[.val (.int x0), .val (.int x1), .val (.int x2), .unset] [] := by first | (simp [entryFrame, mkF, argsToLocals, Value.category]; done) | rfl

set_option maxRecDepth 65536 in
set_option maxHeartbeats 40000000 in
theorem k_nl {l : Launch} {Z : State} {a0 : Array Value} (hw : ∀ d ∈ tables_1, d.before a0 Z = true)  (h : Heap) (hz : Z.heap.size ≤ h.size) (g : Int32)  (hg : g < (18 : Int32))   : Go l Z (⟨"jdk/internal/util/ArraysSupport", "newLength", "(III)I"⟩ : MethodName) jdk_48_method_27_code 4 (Option.some Jvm.ClassFile.FieldType.int) ({ frames := 1, cells := 0, slots := 0, locals := 16 } : Room) (QI fun rz h' => rz = (34 : Int32) ∧ h' = h) 0 0 h 0 #[.val (.int (16 : Int32)), .val (.int g), .val (.int (18 : Int32)), .unset] [] := by
  refine Go.iload_n 1 d38_0 rfl rfl ?_
  refine Go.iload_n 2 d38_1 rfl rfl ?_
  refine Go.iload_n 3 d38_2 rfl rfl ?_
  refine Go.callSIp [.int g, .int (18 : Int32)] [.int (16 : Int32)] 6 d38_3 (tw193 hw) (tw194 hw) (tw82 hw) (tw195 hw) pl39 (by decide) (lenOf pd39 rfl) rfl (fun m => ef_k_max m g (18 : Int32)) _ (k_max hw h hz g (18 : Int32)) 1 rfl (Nat.le_of_eq rfl) (by decide) (by decide) (by decide) (by decide) rfl ?_
  rw [if_pos hg]
  refine Go.iadd 7 d38_6 rfl ?_
  refine Go.istore_n 8 #[.val (.int (16 : Int32)), .val (.int g), .val (.int (18 : Int32)), .val (.int ((16 : Int32) + (18 : Int32)))] d38_7 rfl rfl ?_
  refine Go.iconst 9 (0) d38_8 (by decide) rfl ?_
  refine Go.iload_n 10 d38_9 rfl rfl ?_
  refine Go.icmp_ge 21 13 d38_10 (by decide) (by decide) rfl (fun c => absurd c (by decide)) (fun _ => ?_)
  refine Go.iload_n 14 d38_13 rfl rfl ?_
  refine Go.ldc 16 d38_14 (tw196 hw) rfl ?_
  refine Go.icmp_gt 21 19 d38_16 (by decide) (by decide) rfl (fun c => absurd c (by decide)) (fun _ => ?_)
  refine Go.iload_n 20 d38_19 rfl rfl ?_
  refine Go.ireturn d38_20 rfl (by decide) (by decide) ?_
  exact ⟨by decide, rfl⟩

theorem d37_0 : decode jdk_68_method_10_code 0 = .ok (.aload_n 0, 1) := by decide +kernel
theorem d37_1 : decode jdk_68_method_10_code 1 = .ok (.getfield 15, 3) := by decide +kernel
theorem d37_4 : decode jdk_68_method_10_code 4 = .ok (.arraylength, 1) := by decide +kernel
theorem d37_5 : decode jdk_68_method_10_code 5 = .ok (.istore_n 2, 1) := by decide +kernel
theorem d37_6 : decode jdk_68_method_10_code 6 = .ok (.iload_n 1, 1) := by decide +kernel
theorem d37_7 : decode jdk_68_method_10_code 7 = .ok (.aload_n 0, 1) := by decide +kernel
theorem d37_8 : decode jdk_68_method_10_code 8 = .ok (.getfield 22, 3) := by decide +kernel
theorem d37_11 : decode jdk_68_method_10_code 11 = .ok (.ishl, 1) := by decide +kernel
theorem d37_12 : decode jdk_68_method_10_code 12 = .ok (.istore_n 3, 1) := by decide +kernel
theorem d37_13 : decode jdk_68_method_10_code 13 = .ok (.iload_n 3, 1) := by decide +kernel
theorem d37_14 : decode jdk_68_method_10_code 14 = .ok (.iload_n 2, 1) := by decide +kernel
theorem d37_15 : decode jdk_68_method_10_code 15 = .ok (.isub, 1) := by decide +kernel
theorem d37_16 : decode jdk_68_method_10_code 16 = .ok (.istore 4, 2) := by decide +kernel
theorem d37_18 : decode jdk_68_method_10_code 18 = .ok (.iload_n 2, 1) := by decide +kernel
theorem d37_19 : decode jdk_68_method_10_code 19 = .ok (.iload 4, 2) := by decide +kernel
theorem d37_21 : decode jdk_68_method_10_code 21 = .ok (.iload_n 2, 1) := by decide +kernel
theorem d37_22 : decode jdk_68_method_10_code 22 = .ok (.iconst 2, 1) := by decide +kernel
theorem d37_23 : decode jdk_68_method_10_code 23 = .ok (.aload_n 0, 1) := by decide +kernel
theorem d37_24 : decode jdk_68_method_10_code 24 = .ok (.getfield 22, 3) := by decide +kernel
theorem d37_27 : decode jdk_68_method_10_code 27 = .ok (.ishl, 1) := by decide +kernel
theorem d37_28 : decode jdk_68_method_10_code 28 = .ok (.iadd, 1) := by decide +kernel
theorem d37_29 : decode jdk_68_method_10_code 29 = .ok (.invokestatic 114, 3) := by decide +kernel
theorem d37_32 : decode jdk_68_method_10_code 32 = .ok (.istore 5, 2) := by decide +kernel
theorem d37_34 : decode jdk_68_method_10_code 34 = .ok (.iload 5, 2) := by decide +kernel
theorem d37_36 : decode jdk_68_method_10_code 36 = .ok (.ldc 39, 2) := by decide +kernel
theorem d37_38 : decode jdk_68_method_10_code 38 = .ok (.if_icmp .ne 13, 3) := by decide +kernel
theorem d37_41 : decode jdk_68_method_10_code 41 = .ok (.new 120, 3) := by decide +kernel
theorem d37_44 : decode jdk_68_method_10_code 44 = .ok (.dup, 1) := by decide +kernel
theorem d37_45 : decode jdk_68_method_10_code 45 = .ok (.ldc 122, 2) := by decide +kernel
theorem d37_47 : decode jdk_68_method_10_code 47 = .ok (.invokespecial 124, 3) := by decide +kernel
theorem d37_50 : decode jdk_68_method_10_code 50 = .ok (.athrow, 1) := by decide +kernel
theorem d37_51 : decode jdk_68_method_10_code 51 = .ok (.iload 5, 2) := by decide +kernel
theorem d37_53 : decode jdk_68_method_10_code 53 = .ok (.aload_n 0, 1) := by decide +kernel
theorem d37_54 : decode jdk_68_method_10_code 54 = .ok (.getfield 22, 3) := by decide +kernel
theorem d37_57 : decode jdk_68_method_10_code 57 = .ok (.ishr, 1) := by decide +kernel
theorem d37_58 : decode jdk_68_method_10_code 58 = .ok (.ireturn, 1) := by decide +kernel

theorem pd37 : parseMethodDescriptor "(I)I" = some ⟨[.int], some .int⟩ := by decide +kernel
theorem pl37 : plainFor (⟨"java/lang/AbstractStringBuilder", "newCapacity", "(I)I"⟩ : MethodName) = true := by first | exact plainFor_of_name (by first | (simp [plainName, overriddenIn]; done) | decide +kernel) | decide +kernel

theorem ef_k_nc (m : MethodId) (x0 : Addr) (x1 : Int32) : entryFrame m #[(.ref x0), (.int x1)] 6 = mkF m 0 #[.val (.ref x0), .val (.int x1), .unset, .unset, .unset, .unset] [] := by first | (simp [entryFrame, mkF, argsToLocals, Value.category]; done) | rfl

set_option maxRecDepth 65536 in
set_option maxHeartbeats 40000000 in
theorem k_nc {l : Launch} {Z : State} {a0 : Array Value} (hw : ∀ d ∈ tables_1, d.before a0 Z = true) {am : Addr} {xs : List Int32} (h : Heap) (hz : Z.heap.size ≤ h.size) (a : Addr) (min : Int32) (fa0 : Fld Z h a "java/lang/AbstractStringBuilder" "value" "[B" (.ref am)) (fa1 : Fld Z h a "java/lang/AbstractStringBuilder" "coder" "B" (.int (0 : Int32))) (fa2 : Ari Z h am .byte xs) (hL : xs.length = 16) (hg : ((min <<< ((0 : Int32) &&& 31)) - (16 : Int32)) < (18 : Int32))   : Go l Z (⟨"java/lang/AbstractStringBuilder", "newCapacity", "(I)I"⟩ : MethodName) jdk_68_method_10_code 6 (Option.some Jvm.ClassFile.FieldType.int) ({ frames := 2, cells := 0, slots := 0, locals := 40 } : Room) (QI fun rz h' => rz = (34 : Int32) ∧ h' = h) 0 0 h 0 #[.val (.ref a), .val (.int min), .unset, .unset, .unset, .unset] [] := by
  refine Go.aload_n 1 d37_0 rfl rfl rfl ?_
  refine Go.getfield 4 d37_1 (tw28 hw) fa0 rfl ?_
  refine Go.arraylength (z := (16 : Int32)) 5 d37_4 fa2 (by rw [hL]; rfl) rfl ?_
  refine Go.istore_n 6 #[.val (.ref a), .val (.int min), .val (.int (16 : Int32)), .unset, .unset, .unset] d37_5 rfl rfl ?_
  refine Go.iload_n 7 d37_6 rfl rfl ?_
  refine Go.aload_n 8 d37_7 rfl rfl rfl ?_
  refine Go.getfield 11 d37_8 (tw30 hw) fa1 rfl ?_
  refine Go.ishl 12 d37_11 rfl ?_
  refine Go.istore_n 13 #[.val (.ref a), .val (.int min), .val (.int (16 : Int32)), .val (.int (min <<< ((0 : Int32) &&& 31))), .unset, .unset] d37_12 rfl rfl ?_
  refine Go.iload_n 14 d37_13 rfl rfl ?_
  refine Go.iload_n 15 d37_14 rfl rfl ?_
  refine Go.isub 16 d37_15 rfl ?_
  refine Go.istore 18 #[.val (.ref a), .val (.int min), .val (.int (16 : Int32)), .val (.int (min <<< ((0 : Int32) &&& 31))), .val (.int ((min <<< ((0 : Int32) &&& 31)) - (16 : Int32))), .unset] d37_16 rfl rfl ?_
  refine Go.iload_n 19 d37_18 rfl rfl ?_
  refine Go.iload 21 d37_19 rfl rfl ?_
  refine Go.iload_n 22 d37_21 rfl rfl ?_
  refine Go.iconst 23 (2) d37_22 (by decide) rfl ?_
  refine Go.aload_n 24 d37_23 rfl rfl rfl ?_
  refine Go.getfield 27 d37_24 (tw30 hw) fa1 rfl ?_
  refine Go.ishl 28 d37_27 rfl ?_
  refine Go.iadd 29 d37_28 rfl ?_
  rw [show ((16 : Int32) + ((2 : Int32) <<< ((0 : Int32) &&& 31))) = (18 : Int32) from by decide]
  refine Go.callSIp [.int (16 : Int32), .int ((min <<< ((0 : Int32) &&& 31)) - (16 : Int32)), .int (18 : Int32)] [] 32 d37_29 (tw189 hw) (tw190 hw) (tw191 hw) (tw192 hw) pl38 (by decide) (lenOf pd38 rfl) rfl (fun m => ef_k_nl m (16 : Int32) ((min <<< ((0 : Int32) &&& 31)) - (16 : Int32)) (18 : Int32)) _ (k_nl hw h hz (((min <<< ((0 : Int32) &&& 31)) - (16 : Int32))) (by assumption)) 0 rfl (Nat.le_of_eq rfl) (by decide) (by decide) (by decide) (by decide) rfl ?_
  refine Go.istore 34 #[.val (.ref a), .val (.int min), .val (.int (16 : Int32)), .val (.int (min <<< ((0 : Int32) &&& 31))), .val (.int ((min <<< ((0 : Int32) &&& 31)) - (16 : Int32))), .val (.int (34 : Int32))] d37_32 rfl rfl ?_
  refine Go.iload 36 d37_34 rfl rfl ?_
  refine Go.ldc 38 d37_36 (tw197 hw) rfl ?_
  refine Go.icmp_ne 51 41 d37_38 (by decide) (by decide) rfl (fun _ => ?_) (fun c => absurd c (by decide))
  refine Go.iload 53 d37_51 rfl rfl ?_
  refine Go.aload_n 54 d37_53 rfl rfl rfl ?_
  refine Go.getfield 57 d37_54 (tw30 hw) fa1 rfl ?_
  refine Go.ishr 58 d37_57 rfl ?_
  refine Go.ireturn d37_58 rfl (by decide) (by decide) ?_
  exact ⟨by decide, rfl⟩

theorem d40_0 : decode jdk_65_method_121_code 0 = .ok (.iload_n 1, 1) := by decide +kernel
theorem d40_1 : decode jdk_65_method_121_code 1 = .ok (.aload_n 0, 1) := by decide +kernel
theorem d40_2 : decode jdk_65_method_121_code 2 = .ok (.arraylength, 1) := by decide +kernel
theorem d40_3 : decode jdk_65_method_121_code 3 = .ok (.if_icmp .ne 11, 3) := by decide +kernel
theorem d40_6 : decode jdk_65_method_121_code 6 = .ok (.aload_n 0, 1) := by decide +kernel
theorem d40_7 : decode jdk_65_method_121_code 7 = .ok (.invokevirtual 310, 3) := by decide +kernel
theorem d40_10 : decode jdk_65_method_121_code 10 = .ok (.checkcast 311, 3) := by decide +kernel
theorem d40_13 : decode jdk_65_method_121_code 13 = .ok (.areturn, 1) := by decide +kernel
theorem d40_14 : decode jdk_65_method_121_code 14 = .ok (.iload_n 1, 1) := by decide +kernel
theorem d40_15 : decode jdk_65_method_121_code 15 = .ok (.newarray .byte, 2) := by decide +kernel
theorem d40_17 : decode jdk_65_method_121_code 17 = .ok (.astore_n 2, 1) := by decide +kernel
theorem d40_18 : decode jdk_65_method_121_code 18 = .ok (.aload_n 0, 1) := by decide +kernel
theorem d40_19 : decode jdk_65_method_121_code 19 = .ok (.iconst 0, 1) := by decide +kernel
theorem d40_20 : decode jdk_65_method_121_code 20 = .ok (.aload_n 2, 1) := by decide +kernel
theorem d40_21 : decode jdk_65_method_121_code 21 = .ok (.iconst 0, 1) := by decide +kernel
theorem d40_22 : decode jdk_65_method_121_code 22 = .ok (.aload_n 0, 1) := by decide +kernel
theorem d40_23 : decode jdk_65_method_121_code 23 = .ok (.arraylength, 1) := by decide +kernel
theorem d40_24 : decode jdk_65_method_121_code 24 = .ok (.iload_n 1, 1) := by decide +kernel
theorem d40_25 : decode jdk_65_method_121_code 25 = .ok (.invokestatic 304, 3) := by decide +kernel
theorem d40_28 : decode jdk_65_method_121_code 28 = .ok (.invokestatic 150, 3) := by decide +kernel
theorem d40_31 : decode jdk_65_method_121_code 31 = .ok (.aload_n 2, 1) := by decide +kernel
theorem d40_32 : decode jdk_65_method_121_code 32 = .ok (.areturn, 1) := by decide +kernel

theorem pd40 : parseMethodDescriptor "([BI)[B" = some ⟨[(.array .byte), .int], some (.array .byte)⟩ := by decide +kernel
theorem pl40 : plainFor (⟨"java/util/Arrays", "copyOf", "([BI)[B"⟩ : MethodName) = true := by first | exact plainFor_of_name (by first | (simp [plainName, overriddenIn]; done) | decide +kernel) | decide +kernel

theorem ef_k_copy (m : MethodId) (x0 : Addr) (x1 : Int32) : entryFrame m #[(.ref x0), (.int x1)] 3 = mkF m 0 #[.val (.ref x0), .val (.int x1), .unset] [] := by first | (simp [entryFrame, mkF, argsToLocals, Value.category]; done) | rfl

set_option maxRecDepth 65536 in
set_option maxHeartbeats 40000000 in
theorem k_copy {l : Launch} {Z : State} {a0 : Array Value} (hw : ∀ d ∈ tables_1, d.before a0 Z = true) {xs : List Int32} (h : Heap) (hz : Z.heap.size ≤ h.size) (a : Addr) (fa0 : Ari Z h a .byte xs) (hL : xs.length = 16) (hf : ∀ x ∈ xs, fits .byte (.int x) = true)   : Go l Z (⟨"java/util/Arrays", "copyOf", "([BI)[B"⟩ : MethodName) jdk_65_method_121_code 3 (Option.some (Jvm.ClassFile.FieldType.array Jvm.ClassFile.FieldType.byte)) ({ frames := 1, cells := 1, slots := 34, locals := 48 } : Room) (QR fun rz h' => ∃ r : Addr, rz = .ref r ∧ h.size ≤ r ∧ Keep h h' [] ∧ Ari Z h' r .byte (xs ++ List.replicate 18 0) ∧ Exa Z h' r "[B") 0 0 h 0 #[.val (.ref a), .val (.int (34 : Int32)), .unset] [] := by
  have kp0 : Keep h h [] := Keep.refl _ _
  refine Go.iload_n 1 d40_0 rfl rfl ?_
  refine Go.aload_n 2 d40_1 rfl rfl rfl ?_
  refine Go.arraylength (z := (16 : Int32)) 3 d40_2 fa0 (by rw [hL]; rfl) rfl ?_
  refine Go.icmp_ne 14 6 d40_3 (by decide) (by decide) rfl (fun _ => ?_) (fun c => absurd c (by decide))
  refine Go.iload_n 15 d40_14 rfl rfl ?_
  refine Go.newIE (cap := 34) (xs := (List.replicate 34 0)) "[B" 17 d40_15 (tw27 hw) rfl (by decide) (by decide) (by decide) (by decide) rfl (by decide) (by decide) rfl (fun a2 h3 q4 E5 A6 Ex7 => ?_)
  have ne8 : a ≠ a2 := fun e => absurd fa0.lt (by rw [e, q4]; exact Nat.lt_irrefl _)
  have ge9 : Z.heap.size ≤ a2 := (Eq.symm q4) ▸ hz
  have fr10 : h.size ≤ a2 := by rw [q4]; exact kp0.1
  have f11 : Ari Z h3 a .byte xs := fa0.ext E5
  have zs12 : Z.heap.size ≤ h3.size := Nat.le_trans hz E5.1
  have kp13 : Keep h h3 [] := kp0.ext E5
  refine Go.astore_n 18 #[.val (.ref a), .val (.int (34 : Int32)), .val (.ref a2)] d40_17 rfl rfl rfl ?_
  refine Go.aload_n 19 d40_18 rfl rfl rfl ?_
  refine Go.iconst 20 (0) d40_19 (by decide) rfl ?_
  refine Go.aload_n 21 d40_20 rfl rfl rfl ?_
  refine Go.iconst 22 (0) d40_21 (by decide) rfl ?_
  refine Go.aload_n 23 d40_22 rfl rfl rfl ?_
  refine Go.arraylength (z := (16 : Int32)) 24 d40_23 f11 (by rw [hL]; rfl) rfl ?_
  refine Go.iload_n 25 d40_24 rfl rfl ?_
  refine Go.callSIp [.int (16 : Int32), .int (34 : Int32)] [.int (0 : Int32), .ref a2, .int (0 : Int32), .ref a] 28 d40_25 (tw80 hw) (tw81 hw) (tw82 hw) (tw83 hw) pl16 (by decide) (lenOf pd16 rfl) rfl (fun m => ef_k_min m (16 : Int32) (34 : Int32)) _ (k_min hw h3 zs12 (16 : Int32) (34 : Int32)) 4 rfl (Nat.le_of_eq rfl) (by decide) (by decide) (by decide) (by decide) rfl ?_
  refine Go.arraycopy (W := 0) 0 0 16 31 d40_28 (tw84 hw) (tw87 hw) (tw85 hw) (tw86 hw) f11 A6 hf (fun x hx => by rw [List.eq_of_mem_replicate hx]; exact own_fit0) rfl (by decide) (by decide) (by decide) (by decide) (by decide) (by decide) (by omega) (by decide) (ys' := (xs ++ List.replicate 18 0)) (own_copy hL) ge9 rfl (by decide) (Nat.le_of_eq rfl) (by decide) rfl (fun h17 K18 A19 => ?_)
  have f20 : Ari Z h17 a .byte xs := f11.keep K18 (ninS ne8 nin0)
  have f21 : Exa Z h17 a2 "[B" := Ex7.keep K18
  have zs22 : Z.heap.size ≤ h17.size := Nat.le_trans zs12 K18.1
  have kp23 : Keep h h17 [] := kp13.trans K18 (allS (Or.inr fr10) all0)
  refine Go.aload_n 32 d40_31 rfl rfl rfl ?_
  refine Go.areturn d40_32 rfl rfl rfl (by decide) (by decide) ?_
  exact ⟨a2, rfl, fr10, kp23, A19, f21⟩

theorem d21_0 : decode jdk_68_method_9_code 0 = .ok (.aload_n 0, 1) := by decide +kernel
theorem d21_1 : decode jdk_68_method_9_code 1 = .ok (.getfield 15, 3) := by decide +kernel
theorem d21_4 : decode jdk_68_method_9_code 4 = .ok (.arraylength, 1) := by decide +kernel
theorem d21_5 : decode jdk_68_method_9_code 5 = .ok (.aload_n 0, 1) := by decide +kernel
theorem d21_6 : decode jdk_68_method_9_code 6 = .ok (.getfield 22, 3) := by decide +kernel
theorem d21_9 : decode jdk_68_method_9_code 9 = .ok (.ishr, 1) := by decide +kernel
theorem d21_10 : decode jdk_68_method_9_code 10 = .ok (.istore_n 2, 1) := by decide +kernel
theorem d21_11 : decode jdk_68_method_9_code 11 = .ok (.iload_n 1, 1) := by decide +kernel
theorem d21_12 : decode jdk_68_method_9_code 12 = .ok (.iload_n 2, 1) := by decide +kernel
theorem d21_13 : decode jdk_68_method_9_code 13 = .ok (.isub, 1) := by decide +kernel
theorem d21_14 : decode jdk_68_method_9_code 14 = .ok (.ifCond .le 24, 3) := by decide +kernel
theorem d21_17 : decode jdk_68_method_9_code 17 = .ok (.aload_n 0, 1) := by decide +kernel
theorem d21_18 : decode jdk_68_method_9_code 18 = .ok (.aload_n 0, 1) := by decide +kernel
theorem d21_19 : decode jdk_68_method_9_code 19 = .ok (.getfield 15, 3) := by decide +kernel
theorem d21_22 : decode jdk_68_method_9_code 22 = .ok (.aload_n 0, 1) := by decide +kernel
theorem d21_23 : decode jdk_68_method_9_code 23 = .ok (.iload_n 1, 1) := by decide +kernel
theorem d21_24 : decode jdk_68_method_9_code 24 = .ok (.invokevirtual 104, 3) := by decide +kernel
theorem d21_27 : decode jdk_68_method_9_code 27 = .ok (.aload_n 0, 1) := by decide +kernel
theorem d21_28 : decode jdk_68_method_9_code 28 = .ok (.getfield 22, 3) := by decide +kernel
theorem d21_31 : decode jdk_68_method_9_code 31 = .ok (.ishl, 1) := by decide +kernel
theorem d21_32 : decode jdk_68_method_9_code 32 = .ok (.invokestatic 108, 3) := by decide +kernel
theorem d21_35 : decode jdk_68_method_9_code 35 = .ok (.putfield 15, 3) := by decide +kernel
theorem d21_38 : decode jdk_68_method_9_code 38 = .ok (.return_, 1) := by decide +kernel

theorem pd21 : parseMethodDescriptor "(I)V" = some ⟨[.int], none⟩ := by decide +kernel
theorem pl21 : plainFor (⟨"java/lang/AbstractStringBuilder", "ensureCapacityInternal", "(I)V"⟩ : MethodName) = true := by first | exact plainFor_of_name (by first | (simp [plainName, overriddenIn]; done) | decide +kernel) | decide +kernel

theorem ef_k_ens (m : MethodId) (x0 : Addr) (x1 : Int32) : entryFrame m #[(.ref x0), (.int x1)] 3 = mkF m 0 #[.val (.ref x0), .val (.int x1), .unset] [] := by first | (simp [entryFrame, mkF, argsToLocals, Value.category]; done) | rfl

set_option maxRecDepth 65536 in
set_option maxHeartbeats 40000000 in
theorem k_ens {l : Launch} {Z : State} {a0 : Array Value} (hw : ∀ d ∈ tables_1, d.before a0 Z = true) {am : Addr} {xs : List Int32} {cs : List Int32} {N : Nat} (h : Heap) (hz : Z.heap.size ≤ h.size) (a : Addr) (min : Int32) (fa0 : Exa Z h a "java/lang/StringBuilder") (fa1 : Fld Z h a "java/lang/AbstractStringBuilder" "value" "[B" (.ref am)) (fa2 : Fld Z h a "java/lang/AbstractStringBuilder" "coder" "B" (.int (0 : Int32))) (fa3 : Fld Z h a "java/lang/AbstractStringBuilder" "count" "I" (.int (List.length cs).toInt32)) (fa4 : Ari Z h am .byte xs) (fa5 : Exa Z h am "[B") (ok : own_cap xs cs) (hmin : min = N.toInt32) (hN : N ≤ 32) (ge_a : Z.heap.size ≤ a) (ge_am : Z.heap.size ≤ am) (ne_a_am : a ≠ am) : Go l Z (⟨"java/lang/AbstractStringBuilder", "ensureCapacityInternal", "(I)V"⟩ : MethodName) jdk_68_method_9_code 3 (Option.none : Option Jvm.ClassFile.FieldType) ({ frames := 3, cells := 1, slots := 34, locals := 72 } : Room) (QV fun h' => (∃ am' : Addr, ∃ xs' : List Int32, Fld Z h' a "java/lang/AbstractStringBuilder" "value" "[B" (.ref am') ∧ Ari Z h' am' .byte xs' ∧ Exa Z h' am' "[B" ∧ a ≠ am' ∧ Z.heap.size ≤ am' ∧ own_cap xs' cs ∧ N ≤ xs'.length ∧ (am' = am ∨ h.size ≤ am')) ∧ Keep h h' [a] ∧ Exa Z h' a "java/lang/StringBuilder" ∧ Fld Z h' a "java/lang/AbstractStringBuilder" "coder" "B" (.int (0 : Int32)) ∧ Fld Z h' a "java/lang/AbstractStringBuilder" "count" "I" (.int (List.length cs).toInt32)) 0 0 h 0 #[.val (.ref a), .val (.int min), .unset] [] := by
  have kp0 : Keep h h [a] := Keep.refl _ _
  rcases ok.2.1 with hL | hL
  ·
    refine Go.aload_n 1 d21_0 rfl rfl rfl ?_
    refine Go.getfield 4 d21_1 (tw28 hw) fa1 rfl ?_
    refine Go.arraylength (z := (16 : Int32)) 5 d21_4 fa4 (by rw [hL]; rfl) rfl ?_
    refine Go.aload_n 6 d21_5 rfl rfl rfl ?_
    refine Go.getfield 9 d21_6 (tw30 hw) fa2 rfl ?_
    refine Go.ishr 10 d21_9 rfl ?_
    refine Go.istore_n 11 #[.val (.ref a), .val (.int min), .val (.int ((16 : Int32) >>> ((0 : Int32) &&& 31)))] d21_10 rfl rfl ?_
    refine Go.iload_n 12 d21_11 rfl rfl ?_
    refine Go.iload_n 13 d21_12 rfl rfl ?_
    refine Go.isub 14 d21_13 rfl ?_
    refine Go.if_le 38 17 d21_14 (by decide) (by decide) rfl (fun c1 => ?_) (fun c1 => ?_)
    ·
      refine Go.vreturn d21_38 rfl (by decide) (by decide) ?_
      exact ⟨⟨am, _, fa1, fa4, fa5, ne_a_am, ge_am, ok, own_nog16 hmin hN hL c1, Or.inl rfl⟩, kp0, fa0, fa2, fa3⟩
    ·
      refine Go.aload_n 18 d21_17 rfl rfl rfl ?_
      refine Go.aload_n 19 d21_18 rfl rfl rfl ?_
      refine Go.getfield 22 d21_19 (tw28 hw) fa1 rfl ?_
      refine Go.aload_n 23 d21_22 rfl rfl rfl ?_
      refine Go.iload_n 24 d21_23 rfl rfl ?_
      refine Go.callQIp [.int min] [.ref am, .ref a] 27 d21_24 (tw184 hw) (tw186 hw) (own_selp (tw50 hw) rfl (tw185 hw) (tw186 hw) (by decide)) (tw185 hw) (tw20 hw) (tw188 hw) fa0 pl37 (by decide) (lenOf pd37 rfl) rfl (fun m => ef_k_nc m a min) _ (k_nc hw h hz a min fa1 fa2 fa4 hL (own_gok hmin hN)) 2 rfl (Nat.le_of_eq rfl) (by decide) (by decide) (by decide) (by decide) rfl ?_
      refine Go.aload_n 28 d21_27 rfl rfl rfl ?_
      refine Go.getfield 31 d21_28 (tw30 hw) fa2 rfl ?_
      refine Go.ishl 32 d21_31 rfl ?_
      rw [show ((34 : Int32) <<< ((0 : Int32) &&& 31)) = (34 : Int32) from by decide]
      refine Go.callSR [.ref am, .int (34 : Int32)] [.ref a] 35 d21_32 (tw198 hw) (tw199 hw) (tw72 hw) (tw200 hw) pl40 (by decide) (lenOf pd40 rfl) rfl (fun m => ef_k_copy m am (34 : Int32)) _ (k_copy hw h hz am fa4 hL ok.2.2) 1 rfl (Nat.le_of_eq rfl) (by decide) (by decide) (by decide) (by decide) rfl ?_
      rintro z5 h6 ⟨a8, rfl, g9, K7, f10, f11⟩
      have ne12 : a ≠ a8 := Nat.ne_of_lt (Nat.lt_of_lt_of_le fa0.lt g9)
      have ne13 : am ≠ a8 := Nat.ne_of_lt (Nat.lt_of_lt_of_le fa4.lt g9)
      have ge14 : Z.heap.size ≤ a8 := Nat.le_trans hz g9
      have fr15 : h.size ≤ a8 := Nat.le_trans kp0.1 g9
      have f16 : Exa Z h6 a "java/lang/StringBuilder" := fa0.keep K7
      have f17 : Fld Z h6 a "java/lang/AbstractStringBuilder" "value" "[B" (.ref am) := fa1.keep K7 nin0
      have f18 : Fld Z h6 a "java/lang/AbstractStringBuilder" "coder" "B" (.int (0 : Int32)) := fa2.keep K7 nin0
      have f19 : Fld Z h6 a "java/lang/AbstractStringBuilder" "count" "I" (.int (List.length cs).toInt32) := fa3.keep K7 nin0
      have f20 : Ari Z h6 am .byte xs := fa4.keep K7 nin0
      have f21 : Exa Z h6 am "[B" := fa5.keep K7
      have zs22 : Z.heap.size ≤ h6.size := Nat.le_trans hz K7.1
      have kp23 : Keep h h6 [a] := kp0.trans K7 all0
      refine Go.putfield (ty := (.array .byte)) 38 d21_35 (tw28 hw) f17 f16 (Or.inl (tw29 hw)) (tw11 hw) (by decide) rfl rfl ge_a rfl (fun h24 W25 => ?_)
      have f26 : Exa Z h24 a "java/lang/StringBuilder" := f16.wr W25
      have f27 : Fld Z h24 a "java/lang/AbstractStringBuilder" "value" "[B" (.ref a8) := f17.same W25
      have f28 : Fld Z h24 a "java/lang/AbstractStringBuilder" "coder" "B" (.int (0 : Int32)) := f18.other W25 (Or.inr (slot_ne (Or.inl (tw31 hw)) (Or.inl (tw29 hw)) (by decide) (by decide +kernel : parseFieldDescriptor "B" = some .byte) (by decide +kernel : parseFieldDescriptor "[B" = some (.array .byte))))
      have f29 : Fld Z h24 a "java/lang/AbstractStringBuilder" "count" "I" (.int (List.length cs).toInt32) := f19.other W25 (Or.inr (slot_ne (Or.inl (tw62 hw)) (Or.inl (tw29 hw)) (by decide) (by decide +kernel : parseFieldDescriptor "I" = some .int) (by decide +kernel : parseFieldDescriptor "[B" = some (.array .byte))))
      have f30 : Ari Z h24 am .byte xs := f20.other W25 (Ne.symm ne_a_am)
      have f31 : Exa Z h24 am "[B" := f21.wr W25
      have f32 : Ari Z h24 a8 .byte (xs ++ List.replicate 18 0) := f10.other W25 (Ne.symm ne12)
      have f33 : Exa Z h24 a8 "[B" := f11.wr W25
      have zs34 : Z.heap.size ≤ h24.size := W25.size ▸ zs22
      have kp35 : Keep h h24 [a] := kp23.wr W25 (Or.inl (by simp))
      refine Go.vreturn d21_38 rfl (by decide) (by decide) ?_
      exact ⟨⟨a8, _, f27, f32, f33, ne12, ge14, own_capgrow hL ok, (by rw [List.length_append, List.length_replicate, hL]; omega), Or.inr fr15⟩, kp35, f26, f28, f29⟩
  ·
    refine Go.aload_n 1 d21_0 rfl rfl rfl ?_
    refine Go.getfield 4 d21_1 (tw28 hw) fa1 rfl ?_
    refine Go.arraylength (z := (34 : Int32)) 5 d21_4 fa4 (by rw [hL]; rfl) rfl ?_
    refine Go.aload_n 6 d21_5 rfl rfl rfl ?_
    refine Go.getfield 9 d21_6 (tw30 hw) fa2 rfl ?_
    refine Go.ishr 10 d21_9 rfl ?_
    refine Go.istore_n 11 #[.val (.ref a), .val (.int min), .val (.int ((34 : Int32) >>> ((0 : Int32) &&& 31)))] d21_10 rfl rfl ?_
    refine Go.iload_n 12 d21_11 rfl rfl ?_
    refine Go.iload_n 13 d21_12 rfl rfl ?_
    refine Go.isub 14 d21_13 rfl ?_
    refine Go.if_le 38 17 d21_14 (by decide) (by decide) rfl (fun c36 => ?_) (fun c36 => ?_)
    ·
      refine Go.vreturn d21_38 rfl (by decide) (by decide) ?_
      exact ⟨⟨am, _, fa1, fa4, fa5, ne_a_am, ge_am, ok, own_nog34 hmin hN hL c36, Or.inl rfl⟩, kp0, fa0, fa2, fa3⟩
    ·
      exact absurd c36 (own_no34 hmin hN)

theorem d11_0 : decode jdk_68_method_6_code 0 = .ok (.aload_n 0, 1) := by decide +kernel
theorem d11_1 : decode jdk_68_method_6_code 1 = .ok (.getfield 79, 3) := by decide +kernel
theorem d11_4 : decode jdk_68_method_6_code 4 = .ok (.ireturn, 1) := by decide +kernel

theorem pd11 : parseMethodDescriptor "()I" = some ⟨[], some .int⟩ := by decide +kernel
theorem pl11 : plainFor (⟨"java/lang/AbstractStringBuilder", "length", "()I"⟩ : MethodName) = true := by first | exact plainFor_of_name (by first | (simp [plainName, overriddenIn]; done) | decide +kernel) | decide +kernel

theorem ef_k_lenA (m : MethodId) (x0 : Addr) : entryFrame m #[(.ref x0)] 1 = mkF m 0 #[.val (.ref x0)] [] := by first | (simp [entryFrame, mkF, argsToLocals, Value.category]; done) | rfl

set_option maxRecDepth 65536 in
set_option maxHeartbeats 40000000 in
theorem k_lenA {l : Launch} {Z : State} {a0 : Array Value} (hw : ∀ d ∈ tables_1, d.before a0 Z = true) {n : Int32} (h : Heap) (hz : Z.heap.size ≤ h.size) (a : Addr) (fa0 : Fld Z h a "java/lang/AbstractStringBuilder" "count" "I" (.int n))    : Go l Z (⟨"java/lang/AbstractStringBuilder", "length", "()I"⟩ : MethodName) jdk_68_method_6_code 1 (Option.some Jvm.ClassFile.FieldType.int) ({ frames := 0, cells := 0, slots := 0, locals := 0 } : Room) (QI fun rz h' => rz = n ∧ h' = h) 0 0 h 0 #[.val (.ref a)] [] := by
  refine Go.aload_n 1 d11_0 rfl rfl rfl ?_
  refine Go.getfield 4 d11_1 (tw61 hw) fa0 rfl ?_
  refine Go.ireturn d11_4 rfl (by decide) (by decide) ?_
  exact ⟨rfl, rfl⟩

theorem d10_0 : decode jdk_67_method_93_code 0 = .ok (.aload_n 0, 1) := by decide +kernel
theorem d10_1 : decode jdk_67_method_93_code 1 = .ok (.invokespecial 343, 3) := by decide +kernel
theorem d10_4 : decode jdk_67_method_93_code 4 = .ok (.ireturn, 1) := by decide +kernel

theorem pd10 : parseMethodDescriptor "()I" = some ⟨[], some .int⟩ := by decide +kernel
theorem pl10 : plainFor (⟨"java/lang/StringBuilder", "length", "()I"⟩ : MethodName) = true := by first | exact plainFor_of_name (by first | (simp [plainName, overriddenIn]; done) | decide +kernel) | decide +kernel

theorem ef_k_len (m : MethodId) (x0 : Addr) : entryFrame m #[(.ref x0)] 1 = mkF m 0 #[.val (.ref x0)] [] := by first | (simp [entryFrame, mkF, argsToLocals, Value.category]; done) | rfl

set_option maxRecDepth 65536 in
set_option maxHeartbeats 40000000 in
theorem k_len {l : Launch} {Z : State} {a0 : Array Value} (hw : ∀ d ∈ tables_1, d.before a0 Z = true) {n : Int32} (h : Heap) (hz : Z.heap.size ≤ h.size) (a : Addr) (fa0 : Exa Z h a "java/lang/StringBuilder") (fa1 : Fld Z h a "java/lang/AbstractStringBuilder" "count" "I" (.int n))    : Go l Z (⟨"java/lang/StringBuilder", "length", "()I"⟩ : MethodName) jdk_67_method_93_code 1 (Option.some Jvm.ClassFile.FieldType.int) ({ frames := 1, cells := 0, slots := 0, locals := 16 } : Room) (QI fun rz h' => rz = n ∧ h' = h) 0 0 h 0 #[.val (.ref a)] [] := by
  refine Go.aload_n 1 d10_0 rfl rfl rfl ?_
  refine Go.callPIp [] [] 4 d10_1 (by decide) (tw58 hw) (own_same (tw50 hw) rfl (tw54 hw) (by decide)) (tw59 hw) (tw54 hw) (tw20 hw) (tw60 hw) fa0 pl11 (by decide) (lenOf pd11 rfl) rfl (fun m => ef_k_lenA m a) _ (k_lenA hw h hz a fa1) 0 rfl (Nat.le_of_eq rfl) (by decide) (by decide) (by decide) (by decide) rfl ?_
  refine Go.ireturn d10_4 rfl (by decide) (by decide) ?_
  exact ⟨rfl, rfl⟩

theorem d9_0 : decode jdk_68_method_64_code 0 = .ok (.aload_n 0, 1) := by decide +kernel
theorem d9_1 : decode jdk_68_method_64_code 1 = .ok (.getfield 15, 3) := by decide +kernel
theorem d9_4 : decode jdk_68_method_64_code 4 = .ok (.areturn, 1) := by decide +kernel

theorem pd9 : parseMethodDescriptor "()[B" = some ⟨[], some (.array .byte)⟩ := by decide +kernel
theorem pl9 : plainFor (⟨"java/lang/AbstractStringBuilder", "getValue", "()[B"⟩ : MethodName) = true := by first | exact plainFor_of_name (by first | (simp [plainName, overriddenIn]; done) | decide +kernel) | decide +kernel

theorem ef_k_gv (m : MethodId) (x0 : Addr) : entryFrame m #[(.ref x0)] 1 = mkF m 0 #[.val (.ref x0)] [] := by first | (simp [entryFrame, mkF, argsToLocals, Value.category]; done) | rfl

set_option maxRecDepth 65536 in
set_option maxHeartbeats 40000000 in
theorem k_gv {l : Launch} {Z : State} {a0 : Array Value} (hw : ∀ d ∈ tables_1, d.before a0 Z = true) {am : Addr} (h : Heap) (hz : Z.heap.size ≤ h.size) (a : Addr) (fa0 : Fld Z h a "java/lang/AbstractStringBuilder" "value" "[B" (.ref am))    : Go l Z (⟨"java/lang/AbstractStringBuilder", "getValue", "()[B"⟩ : MethodName) jdk_68_method_64_code 1 (Option.some (Jvm.ClassFile.FieldType.array Jvm.ClassFile.FieldType.byte)) ({ frames := 0, cells := 0, slots := 0, locals := 0 } : Room) (QR fun rz h' => rz = .ref am ∧ h' = h) 0 0 h 0 #[.val (.ref a)] [] := by
  refine Go.aload_n 1 d9_0 rfl rfl rfl ?_
  refine Go.getfield 4 d9_1 (tw28 hw) fa0 rfl ?_
  refine Go.areturn d9_4 rfl rfl rfl (by decide) (by decide) ?_
  exact ⟨rfl, rfl⟩

theorem d12_0 : decode jdk_68_method_68_code 0 = .ok (.getstatic 18, 3) := by decide +kernel
theorem d12_3 : decode jdk_68_method_68_code 3 = .ok (.ifCond .eq 14, 3) := by decide +kernel
theorem d12_6 : decode jdk_68_method_68_code 6 = .ok (.aload_n 0, 1) := by decide +kernel
theorem d12_7 : decode jdk_68_method_68_code 7 = .ok (.getfield 22, 3) := by decide +kernel
theorem d12_10 : decode jdk_68_method_68_code 10 = .ok (.ifCond .ne 7, 3) := by decide +kernel
theorem d12_13 : decode jdk_68_method_68_code 13 = .ok (.iconst 1, 1) := by decide +kernel
theorem d12_14 : decode jdk_68_method_68_code 14 = .ok (.goto 4, 3) := by decide +kernel
theorem d12_17 : decode jdk_68_method_68_code 17 = .ok (.iconst 0, 1) := by decide +kernel
theorem d12_18 : decode jdk_68_method_68_code 18 = .ok (.ireturn, 1) := by decide +kernel

theorem pd12 : parseMethodDescriptor "()Z" = some ⟨[], some .boolean⟩ := by decide +kernel
theorem pl12 : plainFor (⟨"java/lang/AbstractStringBuilder", "isLatin1", "()Z"⟩ : MethodName) = true := by first | exact plainFor_of_name (by first | (simp [plainName, overriddenIn]; done) | decide +kernel) | decide +kernel

theorem ef_k_l1 (m : MethodId) (x0 : Addr) : entryFrame m #[(.ref x0)] 1 = mkF m 0 #[.val (.ref x0)] [] := by first | (simp [entryFrame, mkF, argsToLocals, Value.category]; done) | rfl

set_option maxRecDepth 65536 in
set_option maxHeartbeats 40000000 in
theorem k_l1 {l : Launch} {Z : State} {a0 : Array Value} (hw : ∀ d ∈ tables_1, d.before a0 Z = true) {cz : Int32} (h : Heap) (hz : Z.heap.size ≤ h.size) (a : Addr) (fa0 : Sta Z h "java/lang/String" "COMPACT_STRINGS" "Z" (.int cz)) (fa1 : Fld Z h a "java/lang/AbstractStringBuilder" "coder" "B" (.int (0 : Int32))) (hcz : ¬ cz = (0 : Int32))   : Go l Z (⟨"java/lang/AbstractStringBuilder", "isLatin1", "()Z"⟩ : MethodName) jdk_68_method_68_code 1 (Option.some Jvm.ClassFile.FieldType.boolean) ({ frames := 0, cells := 0, slots := 0, locals := 0 } : Room) (QI fun rz h' => rz = (1 : Int32) ∧ h' = h) 0 0 h 0 #[.val (.ref a)] [] := by
  refine Go.getstatic 3 d12_0 (tw25 hw) fa0 rfl ?_
  refine Go.if_eq 17 6 d12_3 (by decide) (by decide) rfl (fun c => absurd c hcz) (fun _ => ?_)
  refine Go.aload_n 7 d12_6 rfl rfl rfl ?_
  refine Go.getfield 10 d12_7 (tw30 hw) fa1 rfl ?_
  refine Go.if_ne 17 13 d12_10 (by decide) (by decide) rfl (fun c => absurd c (by decide)) (fun _ => ?_)
  refine Go.iconst 14 (1) d12_13 (by decide) rfl ?_
  refine Go.goto 18 d12_14 (by decide) (by decide) ?_
  refine Go.nreturn (t := .boolean) (z' := (1 : Int32)) d12_18 rfl (by simp) (by decide) (by decide) (by decide) ?_
  exact ⟨rfl, rfl⟩

theorem d25_0 : decode jdk_43_method_3_code 0 = .ok (.iload_n 0, 1) := by decide +kernel
theorem d25_1 : decode jdk_43_method_3_code 1 = .ok (.sipush 255, 3) := by decide +kernel
theorem d25_4 : decode jdk_43_method_3_code 4 = .ok (.if_icmp .gt 7, 3) := by decide +kernel
theorem d25_7 : decode jdk_43_method_3_code 7 = .ok (.iconst 1, 1) := by decide +kernel
theorem d25_8 : decode jdk_43_method_3_code 8 = .ok (.goto 4, 3) := by decide +kernel
theorem d25_11 : decode jdk_43_method_3_code 11 = .ok (.iconst 0, 1) := by decide +kernel
theorem d25_12 : decode jdk_43_method_3_code 12 = .ok (.ireturn, 1) := by decide +kernel

theorem pd25 : parseMethodDescriptor "(C)Z" = some ⟨[.char], some .boolean⟩ := by decide +kernel
theorem pl25 : plainFor (⟨"java/lang/StringLatin1", "canEncode", "(C)Z"⟩ : MethodName) = true := by first | exact plainFor_of_name (by first | (simp [plainName, overriddenIn]; done) | decide +kernel) | decide +kernel

theorem ef_k_ce (m : MethodId) (x0 : Int32) : entryFrame m #[(.int x0)] 1 = mkF m 0 #[.val (.int x0)] [] := by first | (simp [entryFrame, mkF, argsToLocals, Value.category]; done) | rfl

set_option maxRecDepth 65536 in
set_option maxHeartbeats 40000000 in
theorem k_ce {l : Launch} {Z : State} {a0 : Array Value} (hw : ∀ d ∈ tables_1, d.before a0 Z = true)  (h : Heap) (hz : Z.heap.size ≤ h.size)      : Go l Z (⟨"java/lang/StringLatin1", "canEncode", "(C)Z"⟩ : MethodName) jdk_43_method_3_code 1 (Option.some Jvm.ClassFile.FieldType.boolean) ({ frames := 0, cells := 0, slots := 0, locals := 0 } : Room) (QI fun rz h' => rz = (1 : Int32) ∧ h' = h) 0 0 h 0 #[.val (.int (32 : Int32))] [] := by
  refine Go.iload_n 1 d25_0 rfl rfl ?_
  refine Go.sipush 4 (255) d25_1 (by decide) rfl ?_
  refine Go.icmp_gt 11 7 d25_4 (by decide) (by decide) rfl (fun c => absurd c (by decide)) (fun _ => ?_)
  refine Go.iconst 8 (1) d25_7 (by decide) rfl ?_
  refine Go.goto 12 d25_8 (by decide) (by decide) ?_
  refine Go.nreturn (t := .boolean) (z' := (1 : Int32)) d25_12 rfl (by simp) (by decide) (by decide) (by decide) ?_
  exact ⟨rfl, rfl⟩

theorem d24_0 : decode jdk_68_method_31_code 0 = .ok (.aload_n 0, 1) := by decide +kernel
theorem d24_1 : decode jdk_68_method_31_code 1 = .ok (.aload_n 0, 1) := by decide +kernel
theorem d24_2 : decode jdk_68_method_31_code 2 = .ok (.getfield 79, 3) := by decide +kernel
theorem d24_5 : decode jdk_68_method_31_code 5 = .ok (.iconst 1, 1) := by decide +kernel
theorem d24_6 : decode jdk_68_method_31_code 6 = .ok (.iadd, 1) := by decide +kernel
theorem d24_7 : decode jdk_68_method_31_code 7 = .ok (.invokevirtual 100, 3) := by decide +kernel
theorem d24_10 : decode jdk_68_method_31_code 10 = .ok (.aload_n 0, 1) := by decide +kernel
theorem d24_11 : decode jdk_68_method_31_code 11 = .ok (.invokevirtual 83, 3) := by decide +kernel
theorem d24_14 : decode jdk_68_method_31_code 14 = .ok (.ifCond .eq 31, 3) := by decide +kernel
theorem d24_17 : decode jdk_68_method_31_code 17 = .ok (.iload_n 1, 1) := by decide +kernel
theorem d24_18 : decode jdk_68_method_31_code 18 = .ok (.invokestatic 191, 3) := by decide +kernel
theorem d24_21 : decode jdk_68_method_31_code 21 = .ok (.ifCond .eq 24, 3) := by decide +kernel
theorem d24_24 : decode jdk_68_method_31_code 24 = .ok (.aload_n 0, 1) := by decide +kernel
theorem d24_25 : decode jdk_68_method_31_code 25 = .ok (.getfield 15, 3) := by decide +kernel
theorem d24_28 : decode jdk_68_method_31_code 28 = .ok (.aload_n 0, 1) := by decide +kernel
theorem d24_29 : decode jdk_68_method_31_code 29 = .ok (.dup, 1) := by decide +kernel
theorem d24_30 : decode jdk_68_method_31_code 30 = .ok (.getfield 79, 3) := by decide +kernel
theorem d24_33 : decode jdk_68_method_31_code 33 = .ok (.dup_x1, 1) := by decide +kernel
theorem d24_34 : decode jdk_68_method_31_code 34 = .ok (.iconst 1, 1) := by decide +kernel
theorem d24_35 : decode jdk_68_method_31_code 35 = .ok (.iadd, 1) := by decide +kernel
theorem d24_36 : decode jdk_68_method_31_code 36 = .ok (.putfield 79, 3) := by decide +kernel
theorem d24_39 : decode jdk_68_method_31_code 39 = .ok (.iload_n 1, 1) := by decide +kernel
theorem d24_40 : decode jdk_68_method_31_code 40 = .ok (.i2b, 1) := by decide +kernel
theorem d24_41 : decode jdk_68_method_31_code 41 = .ok (.bastore, 1) := by decide +kernel
theorem d24_42 : decode jdk_68_method_31_code 42 = .ok (.goto 33, 3) := by decide +kernel
theorem d24_45 : decode jdk_68_method_31_code 45 = .ok (.aload_n 0, 1) := by decide +kernel
theorem d24_46 : decode jdk_68_method_31_code 46 = .ok (.invokevirtual 83, 3) := by decide +kernel
theorem d24_49 : decode jdk_68_method_31_code 49 = .ok (.ifCond .eq 7, 3) := by decide +kernel
theorem d24_52 : decode jdk_68_method_31_code 52 = .ok (.aload_n 0, 1) := by decide +kernel
theorem d24_53 : decode jdk_68_method_31_code 53 = .ok (.invokevirtual 195, 3) := by decide +kernel
theorem d24_56 : decode jdk_68_method_31_code 56 = .ok (.aload_n 0, 1) := by decide +kernel
theorem d24_57 : decode jdk_68_method_31_code 57 = .ok (.getfield 15, 3) := by decide +kernel
theorem d24_60 : decode jdk_68_method_31_code 60 = .ok (.aload_n 0, 1) := by decide +kernel
theorem d24_61 : decode jdk_68_method_31_code 61 = .ok (.dup, 1) := by decide +kernel
theorem d24_62 : decode jdk_68_method_31_code 62 = .ok (.getfield 79, 3) := by decide +kernel
theorem d24_65 : decode jdk_68_method_31_code 65 = .ok (.dup_x1, 1) := by decide +kernel
theorem d24_66 : decode jdk_68_method_31_code 66 = .ok (.iconst 1, 1) := by decide +kernel
theorem d24_67 : decode jdk_68_method_31_code 67 = .ok (.iadd, 1) := by decide +kernel
theorem d24_68 : decode jdk_68_method_31_code 68 = .ok (.putfield 79, 3) := by decide +kernel
theorem d24_71 : decode jdk_68_method_31_code 71 = .ok (.iload_n 1, 1) := by decide +kernel
theorem d24_72 : decode jdk_68_method_31_code 72 = .ok (.invokestatic 197, 3) := by decide +kernel
theorem d24_75 : decode jdk_68_method_31_code 75 = .ok (.aload_n 0, 1) := by decide +kernel
theorem d24_76 : decode jdk_68_method_31_code 76 = .ok (.areturn, 1) := by decide +kernel

theorem pd24 : parseMethodDescriptor "(C)Ljava/lang/AbstractStringBuilder;" = some ⟨[.char], some (.object "java/lang/AbstractStringBuilder")⟩ := by decide +kernel
theorem pl24 : plainFor (⟨"java/lang/AbstractStringBuilder", "append", "(C)Ljava/lang/AbstractStringBuilder;"⟩ : MethodName) = true := by first | exact plainFor_of_name (by first | (simp [plainName, overriddenIn]; done) | decide +kernel) | decide +kernel

theorem ef_k_acA (m : MethodId) (x0 : Addr) (x1 : Int32) : entryFrame m #[(.ref x0), (.int x1)] 2 = mkF m 0 #[.val (.ref x0), .val (.int x1)] [] := by first | (simp [entryFrame, mkF, argsToLocals, Value.category]; done) | rfl

set_option maxRecDepth 65536 in
set_option maxHeartbeats 40000000 in
theorem k_acA {l : Launch} {Z : State} {a0 : Array Value} (hw : ∀ d ∈ tables_1, d.before a0 Z = true) {am : Addr} {xs : List Int32} {cs : List Int32} {cz : Int32} (h : Heap) (hz : Z.heap.size ≤ h.size) (a : Addr) (fa0 : Exa Z h a "java/lang/StringBuilder") (fa1 : Fld Z h a "java/lang/AbstractStringBuilder" "value" "[B" (.ref am)) (fa2 : Fld Z h a "java/lang/AbstractStringBuilder" "coder" "B" (.int (0 : Int32))) (fa3 : Fld Z h a "java/lang/AbstractStringBuilder" "count" "I" (.int (List.length cs).toInt32)) (fa4 : Ari Z h am .byte xs) (fa5 : Exa Z h am "[B") (fa6 : Sta Z h "java/lang/String" "COMPACT_STRINGS" "Z" (.int cz)) (ok : own_cap xs cs) (hcz : ¬ cz = (0 : Int32)) (hn : cs.length ≤ 31) (ge_a : Z.heap.size ≤ a) (ge_am : Z.heap.size ≤ am) (ne_a_am : a ≠ am) : Go l Z (⟨"java/lang/AbstractStringBuilder", "append", "(C)Ljava/lang/AbstractStringBuilder;"⟩ : MethodName) jdk_68_method_31_code 2 (Option.some (Jvm.ClassFile.FieldType.object "java/lang/AbstractStringBuilder")) ({ frames := 4, cells := 1, slots := 34, locals := 100 } : Room) (QR fun rz h' => rz = .ref a ∧ Keep h h' [a, am] ∧ Exa Z h' a "java/lang/StringBuilder" ∧ Fld Z h' a "java/lang/AbstractStringBuilder" "coder" "B" (.int (0 : Int32)) ∧ Fld Z h' a "java/lang/AbstractStringBuilder" "count" "I" (.int (List.length (cs ++ [(32 : Int32)])).toInt32) ∧ (∃ am' : Addr, ∃ xs' : List Int32, Fld Z h' a "java/lang/AbstractStringBuilder" "value" "[B" (.ref am') ∧ Ari Z h' am' .byte xs' ∧ Exa Z h' am' "[B" ∧ a ≠ am' ∧ Z.heap.size ≤ am' ∧ own_cap xs' (cs ++ [(32 : Int32)]) ∧ (am' = am ∨ h.size ≤ am'))) 0 0 h 0 #[.val (.ref a), .val (.int (32 : Int32))] [] := by
  have kp0 : Keep h h [a, am] := Keep.refl _ _
  refine Go.aload_n 1 d24_0 rfl rfl rfl ?_
  refine Go.aload_n 2 d24_1 rfl rfl rfl ?_
  refine Go.getfield 5 d24_2 (tw61 hw) fa3 rfl ?_
  refine Go.iconst 6 (1) d24_5 (by decide) rfl ?_
  refine Go.iadd 7 d24_6 rfl ?_
  refine Go.callQV [.int ((List.length cs).toInt32 + (1 : Int32))] [] 10 d24_7 (tw111 hw) (tw113 hw) (own_selp (tw50 hw) rfl (tw112 hw) (tw113 hw) (by decide)) (tw112 hw) (tw20 hw) (tw115 hw) fa0 pl21 (by decide) (lenOf pd21 rfl) rfl (fun m => ef_k_ens m a ((List.length cs).toInt32 + (1 : Int32))) _ (k_ens (N := (cs.length + 1)) hw h hz a (((List.length cs).toInt32 + (1 : Int32))) fa0 fa1 fa2 fa3 fa4 fa5 (by assumption) (own_lens (by omega)) (by omega) ge_a ge_am ne_a_am) 0 rfl (Nat.le_of_eq rfl) (by decide) (by decide) (by decide) (by decide) rfl ?_
  rintro h2 ⟨p7, K3, f4, f5, f6⟩
  have f8 : Ari Z h2 am .byte xs := fa4.keep K3 (ninS (Ne.symm ne_a_am) nin0)
  have f9 : Exa Z h2 am "[B" := fa5.keep K3
  have f10 : Sta Z h2 "java/lang/String" "COMPACT_STRINGS" "Z" (.int cz) := own_staK fa6 K3 (allS (own_nost fa0) all0)
  have zs11 : Z.heap.size ≤ h2.size := Nat.le_trans hz K3.1
  have kp12 : Keep h h2 [a, am] := kp0.trans K3 (allS (Or.inl (by simp)) all0)
  obtain ⟨am12, xs12, fe12, ar12, eb12, na12, ga12, ok12, px12_0, px12_1⟩ := p7
  refine Go.aload_n 11 d24_10 rfl rfl rfl ?_
  refine Go.callVIp [] [] 14 d24_11 (tw116 hw) (tw64 hw) (tw66 hw) (tw65 hw) (tw20 hw) (tw67 hw) f4 pl12 (by decide) (lenOf pd12 rfl) rfl (fun m => ef_k_l1 m a) _ (k_l1 hw h2 zs11 a f10 f5 (by assumption)) 0 rfl (Nat.le_of_eq rfl) (by decide) (by decide) (by decide) (by decide) rfl ?_
  refine Go.if_eq 45 17 d24_14 (by decide) (by decide) rfl (fun c => absurd c (by decide)) (fun _ => ?_)
  refine Go.iload_n 18 d24_17 rfl rfl ?_
  refine Go.callSIp [.int (32 : Int32)] [] 21 d24_18 (tw131 hw) (tw132 hw) (tw133 hw) (tw134 hw) pl25 (by decide) (lenOf pd25 rfl) rfl (fun m => ef_k_ce m (32 : Int32)) _ (k_ce hw h2 zs11 ) 0 rfl (Nat.le_of_eq rfl) (by decide) (by decide) (by decide) (by decide) rfl ?_
  refine Go.if_eq 45 24 d24_21 (by decide) (by decide) rfl (fun c => absurd c (by decide)) (fun _ => ?_)
  refine Go.aload_n 25 d24_24 rfl rfl rfl ?_
  refine Go.getfield 28 d24_25 (tw28 hw) fe12 rfl ?_
  refine Go.aload_n 29 d24_28 rfl rfl rfl ?_
  refine Go.dup 30 d24_29 rfl rfl ?_
  refine Go.getfield 33 d24_30 (tw61 hw) f6 rfl ?_
  refine Go.dupX1 34 d24_33 rfl rfl rfl ?_
  refine Go.iconst 35 (1) d24_34 (by decide) rfl ?_
  refine Go.iadd 36 d24_35 rfl ?_
  refine Go.putfield (ty := .int) 39 d24_36 (tw61 hw) f6 f4 (Or.inl (tw62 hw)) (tw11 hw) (by decide) rfl rfl ge_a rfl (fun h22 W23 => ?_)
  have f24 : Sta Z h22 "java/lang/String" "COMPACT_STRINGS" "Z" (.int cz) := f10.wr W23
  have f25 : Exa Z h22 a "java/lang/StringBuilder" := f4.wr W23
  have f26 : Fld Z h22 a "java/lang/AbstractStringBuilder" "coder" "B" (.int (0 : Int32)) := f5.other W23 (Or.inr (slot_ne (Or.inl (tw31 hw)) (Or.inl (tw62 hw)) (by decide) (by decide +kernel : parseFieldDescriptor "B" = some .byte) (by decide +kernel : parseFieldDescriptor "I" = some .int)))
  have f27 : Fld Z h22 a "java/lang/AbstractStringBuilder" "count" "I" (.int ((List.length cs).toInt32 + (1 : Int32))) := f6.same W23
  have f28 : Fld Z h22 a "java/lang/AbstractStringBuilder" "value" "[B" (.ref am12) := fe12.other W23 (Or.inr (slot_ne (Or.inl (tw29 hw)) (Or.inl (tw62 hw)) (by decide) (by decide +kernel : parseFieldDescriptor "[B" = some (.array .byte)) (by decide +kernel : parseFieldDescriptor "I" = some .int)))
  have f29 : Ari Z h22 am12 .byte xs12 := ar12.other W23 (Ne.symm na12)
  have f30 : Exa Z h22 am12 "[B" := eb12.wr W23
  have zs31 : Z.heap.size ≤ h22.size := W23.size ▸ zs11
  have kp32 : Keep h h22 [a, am] := kp12.wr W23 (Or.inl (by simp))
  refine Go.iload_n 40 d24_39 rfl rfl ?_
  refine Go.i2b 41 d24_40 rfl ?_
  refine Go.bastore (cs.length) ((xs12.set cs.length (32 : Int32))) 42 d24_41 f29 (own_lenn (by omega)) (own_lenN (by omega)) (by omega) (by rw [show (nar .byte (Int8.toInt32 (Int32.toInt8 (32 : Int32)))) = (32 : Int32) from by decide]) ga12 rfl (fun h33 W34 A35 => ?_)
  have f36 : Sta Z h33 "java/lang/String" "COMPACT_STRINGS" "Z" (.int cz) := f24.wr W34
  have f37 : Exa Z h33 a "java/lang/StringBuilder" := f25.wr W34
  have f38 : Fld Z h33 a "java/lang/AbstractStringBuilder" "coder" "B" (.int (0 : Int32)) := f26.other W34 (Or.inl na12)
  have f39 : Fld Z h33 a "java/lang/AbstractStringBuilder" "count" "I" (.int ((List.length cs).toInt32 + (1 : Int32))) := f27.other W34 (Or.inl na12)
  have f40 : Fld Z h33 a "java/lang/AbstractStringBuilder" "value" "[B" (.ref am12) := f28.other W34 (Or.inl na12)
  have f41 : Exa Z h33 am12 "[B" := f30.wr W34
  have zs42 : Z.heap.size ≤ h33.size := W34.size ▸ zs31
  have kp43 : Keep h h33 [a, am] := kp32.wr W34 (px12_1.elim (fun e => e.symm ▸ (Or.inl (by simp))) (fun q => Or.inr (Nat.le_trans kp0.1 q)))
  refine Go.goto 75 d24_42 (by decide) (by decide) ?_
  refine Go.aload_n 76 d24_75 rfl rfl rfl ?_
  refine Go.areturn d24_76 rfl rfl rfl (by decide) (by decide) ?_
  exact ⟨rfl, kp43, f37, f38, (by rw [own_lapp (by omega)]; exact f39), am12, _, f40, A35, f41, na12, ga12, own_capput ok12 (by omega), px12_1⟩

theorem d23_0 : decode jdk_67_method_14_code 0 = .ok (.aload_n 0, 1) := by decide +kernel
theorem d23_1 : decode jdk_67_method_14_code 1 = .ok (.iload_n 1, 1) := by decide +kernel
theorem d23_2 : decode jdk_67_method_14_code 2 = .ok (.invokespecial 50, 3) := by decide +kernel
theorem d23_5 : decode jdk_67_method_14_code 5 = .ok (.pop, 1) := by decide +kernel
theorem d23_6 : decode jdk_67_method_14_code 6 = .ok (.aload_n 0, 1) := by decide +kernel
theorem d23_7 : decode jdk_67_method_14_code 7 = .ok (.areturn, 1) := by decide +kernel

theorem pd23 : parseMethodDescriptor "(C)Ljava/lang/StringBuilder;" = some ⟨[.char], some (.object "java/lang/StringBuilder")⟩ := by decide +kernel
theorem pl23 : plainFor (⟨"java/lang/StringBuilder", "append", "(C)Ljava/lang/StringBuilder;"⟩ : MethodName) = true := by first | exact plainFor_of_name (by first | (simp [plainName, overriddenIn]; done) | decide +kernel) | decide +kernel

theorem ef_k_ac (m : MethodId) (x0 : Addr) (x1 : Int32) : entryFrame m #[(.ref x0), (.int x1)] 2 = mkF m 0 #[.val (.ref x0), .val (.int x1)] [] := by first | (simp [entryFrame, mkF, argsToLocals, Value.category]; done) | rfl

set_option maxRecDepth 65536 in
set_option maxHeartbeats 40000000 in
theorem k_ac {l : Launch} {Z : State} {a0 : Array Value} (hw : ∀ d ∈ tables_1, d.before a0 Z = true) {am : Addr} {xs : List Int32} {cs : List Int32} {cz : Int32} (h : Heap) (hz : Z.heap.size ≤ h.size) (a : Addr) (fa0 : Exa Z h a "java/lang/StringBuilder") (fa1 : Fld Z h a "java/lang/AbstractStringBuilder" "value" "[B" (.ref am)) (fa2 : Fld Z h a "java/lang/AbstractStringBuilder" "coder" "B" (.int (0 : Int32))) (fa3 : Fld Z h a "java/lang/AbstractStringBuilder" "count" "I" (.int (List.length cs).toInt32)) (fa4 : Ari Z h am .byte xs) (fa5 : Exa Z h am "[B") (fa6 : Sta Z h "java/lang/String" "COMPACT_STRINGS" "Z" (.int cz)) (ok : own_cap xs cs) (hcz : ¬ cz = (0 : Int32)) (hn : cs.length ≤ 31) (ge_a : Z.heap.size ≤ a) (ge_am : Z.heap.size ≤ am) (ne_a_am : a ≠ am) : Go l Z (⟨"java/lang/StringBuilder", "append", "(C)Ljava/lang/StringBuilder;"⟩ : MethodName) jdk_67_method_14_code 2 (Option.some (Jvm.ClassFile.FieldType.object "java/lang/StringBuilder")) ({ frames := 5, cells := 1, slots := 34, locals := 120 } : Room) (QR fun rz h' => rz = .ref a ∧ Keep h h' [a, am] ∧ Exa Z h' a "java/lang/StringBuilder" ∧ Fld Z h' a "java/lang/AbstractStringBuilder" "coder" "B" (.int (0 : Int32)) ∧ Fld Z h' a "java/lang/AbstractStringBuilder" "count" "I" (.int (List.length (cs ++ [(32 : Int32)])).toInt32) ∧ (∃ am' : Addr, ∃ xs' : List Int32, Fld Z h' a "java/lang/AbstractStringBuilder" "value" "[B" (.ref am') ∧ Ari Z h' am' .byte xs' ∧ Exa Z h' am' "[B" ∧ a ≠ am' ∧ Z.heap.size ≤ am' ∧ own_cap xs' (cs ++ [(32 : Int32)]) ∧ (am' = am ∨ h.size ≤ am'))) 0 0 h 0 #[.val (.ref a), .val (.int (32 : Int32))] [] := by
  have kp0 : Keep h h [a, am] := Keep.refl _ _
  refine Go.aload_n 1 d23_0 rfl rfl rfl ?_
  refine Go.iload_n 2 d23_1 rfl rfl ?_
  refine Go.callPRe [.int (32 : Int32)] [] 5 d23_2 (by decide) (tw127 hw) (own_same (tw50 hw) rfl (tw128 hw) (by decide)) (tw59 hw) (tw128 hw) (tw20 hw) (tw130 hw) fa0 pl24 (by decide) (lenOf pd24 rfl) rfl (fun m => ef_k_acA m a (32 : Int32)) _ _ (k_acA hw h hz a fa0 fa1 fa2 fa3 fa4 fa5 fa6 (by assumption) (by assumption) (by assumption) ge_a ge_am ne_a_am) 0 rfl (Nat.le_of_eq rfl) (by decide) (by decide) (by decide) (by decide) rfl ?_
  rintro h2 ⟨K3, f4, f5, f6, x7⟩
  have f8 : Exa Z h2 am "[B" := fa5.keep K3
  have f9 : Sta Z h2 "java/lang/String" "COMPACT_STRINGS" "Z" (.int cz) := own_staK fa6 K3 (allS (own_nost fa0) (allS (Ari.nostat fa4) all0))
  have zs10 : Z.heap.size ≤ h2.size := Nat.le_trans hz K3.1
  have kp11 : Keep h h2 [a, am] := kp0.trans K3 (allS (Or.inl (by simp)) (allS (Or.inl (by simp)) all0))
  obtain ⟨am11, xs11, fe11, ar11, eb11, na11, ga11, ok11, px11_0⟩ := x7
  refine Go.pop 6 d23_5 rfl rfl ?_
  refine Go.aload_n 7 d23_6 rfl rfl rfl ?_
  refine Go.areturn d23_7 rfl rfl rfl (by decide) (by decide) ?_
  exact ⟨rfl, kp11, f4, f5, f6, am11, _, fe11, ar11, eb11, na11, ga11, ok11, px11_0⟩

theorem d20_0 : decode jdk_33_method_13_code 0 = .ok (.iconst 1, 1) := by decide +kernel
theorem d20_1 : decode jdk_33_method_13_code 1 = .ok (.istore_n 1, 1) := by decide +kernel
theorem d20_2 : decode jdk_33_method_13_code 2 = .ok (.iload_n 0, 1) := by decide +kernel
theorem d20_3 : decode jdk_33_method_13_code 3 = .ok (.ifCond .lt 8, 3) := by decide +kernel
theorem d20_6 : decode jdk_33_method_13_code 6 = .ok (.iconst 0, 1) := by decide +kernel
theorem d20_7 : decode jdk_33_method_13_code 7 = .ok (.istore_n 1, 1) := by decide +kernel
theorem d20_8 : decode jdk_33_method_13_code 8 = .ok (.iload_n 0, 1) := by decide +kernel
theorem d20_9 : decode jdk_33_method_13_code 9 = .ok (.ineg, 1) := by decide +kernel
theorem d20_10 : decode jdk_33_method_13_code 10 = .ok (.istore_n 0, 1) := by decide +kernel
theorem d20_11 : decode jdk_33_method_13_code 11 = .ok (.bipush (-10), 2) := by decide +kernel
theorem d20_13 : decode jdk_33_method_13_code 13 = .ok (.istore_n 2, 1) := by decide +kernel
theorem d20_14 : decode jdk_33_method_13_code 14 = .ok (.iconst 1, 1) := by decide +kernel
theorem d20_15 : decode jdk_33_method_13_code 15 = .ok (.istore_n 3, 1) := by decide +kernel
theorem d20_16 : decode jdk_33_method_13_code 16 = .ok (.iload_n 3, 1) := by decide +kernel
theorem d20_17 : decode jdk_33_method_13_code 17 = .ok (.bipush 10, 2) := by decide +kernel
theorem d20_19 : decode jdk_33_method_13_code 19 = .ok (.if_icmp .ge 23, 3) := by decide +kernel
theorem d20_22 : decode jdk_33_method_13_code 22 = .ok (.iload_n 0, 1) := by decide +kernel
theorem d20_23 : decode jdk_33_method_13_code 23 = .ok (.iload_n 2, 1) := by decide +kernel
theorem d20_24 : decode jdk_33_method_13_code 24 = .ok (.if_icmp .le 7, 3) := by decide +kernel
theorem d20_27 : decode jdk_33_method_13_code 27 = .ok (.iload_n 3, 1) := by decide +kernel
theorem d20_28 : decode jdk_33_method_13_code 28 = .ok (.iload_n 1, 1) := by decide +kernel
theorem d20_29 : decode jdk_33_method_13_code 29 = .ok (.iadd, 1) := by decide +kernel
theorem d20_30 : decode jdk_33_method_13_code 30 = .ok (.ireturn, 1) := by decide +kernel
theorem d20_31 : decode jdk_33_method_13_code 31 = .ok (.bipush 10, 2) := by decide +kernel
theorem d20_33 : decode jdk_33_method_13_code 33 = .ok (.iload_n 2, 1) := by decide +kernel
theorem d20_34 : decode jdk_33_method_13_code 34 = .ok (.imul, 1) := by decide +kernel
theorem d20_35 : decode jdk_33_method_13_code 35 = .ok (.istore_n 2, 1) := by decide +kernel
theorem d20_36 : decode jdk_33_method_13_code 36 = .ok (.iinc 3 1, 3) := by decide +kernel
theorem d20_39 : decode jdk_33_method_13_code 39 = .ok (.goto (-23), 3) := by decide +kernel
theorem d20_42 : decode jdk_33_method_13_code 42 = .ok (.bipush 10, 2) := by decide +kernel
theorem d20_44 : decode jdk_33_method_13_code 44 = .ok (.iload_n 1, 1) := by decide +kernel
theorem d20_45 : decode jdk_33_method_13_code 45 = .ok (.iadd, 1) := by decide +kernel
theorem d20_46 : decode jdk_33_method_13_code 46 = .ok (.ireturn, 1) := by decide +kernel

theorem pd20 : parseMethodDescriptor "(I)I" = some ⟨[.int], some .int⟩ := by decide +kernel
theorem pl20 : plainFor (⟨"java/lang/Integer", "stringSize", "(I)I"⟩ : MethodName) = true := by first | exact plainFor_of_name (by first | (simp [plainName, overriddenIn]; done) | decide +kernel) | decide +kernel

theorem ef_k_sz (m : MethodId) (x0 : Int32) : entryFrame m #[(.int x0)] 4 = mkF m 0 #[.val (.int x0), .unset, .unset, .unset] [] := by first | (simp [entryFrame, mkF, argsToLocals, Value.category]; done) | rfl

set_option maxRecDepth 65536 in
set_option maxHeartbeats 40000000 in
theorem k_sz {l : Launch} {Z : State} {a0 : Array Value} (hw : ∀ d ∈ tables_1, d.before a0 Z = true)  (h : Heap) (hz : Z.heap.size ≤ h.size) (v : Int32)  (hv : 0 < v.toInt)   : Go l Z (⟨"java/lang/Integer", "stringSize", "(I)I"⟩ : MethodName) jdk_33_method_13_code 4 (Option.some Jvm.ClassFile.FieldType.int) ({ frames := 0, cells := 0, slots := 0, locals := 0 } : Room) (QI fun rz h' => rz = ((own_nd v).toInt32) ∧ h' = h) 0 0 h 0 #[.val (.int v), .unset, .unset, .unset] [] := by
  refine Go.iconst 1 (1) d20_0 (by decide) rfl ?_
  refine Go.istore_n 2 #[.val (.int v), .val (.int (1 : Int32)), .unset, .unset] d20_1 rfl rfl ?_
  refine Go.iload_n 3 d20_2 rfl rfl ?_
  refine Go.if_lt 11 6 d20_3 (by decide) (by decide) rfl (fun c1 => ?_) (fun c1 => ?_)
  ·
    exact absurd c1 (own_pos0 hv)
  ·
    refine Go.iconst 7 (0) d20_6 (by decide) rfl ?_
    refine Go.istore_n 8 #[.val (.int v), .val (.int (0 : Int32)), .unset, .unset] d20_7 rfl rfl ?_
    refine Go.iload_n 9 d20_8 rfl rfl ?_
    refine Go.ineg 10 d20_9 rfl ?_
    refine Go.istore_n 11 #[.val (.int (-v)), .val (.int (0 : Int32)), .unset, .unset] d20_10 rfl rfl ?_
    refine Go.bipush 13 (-10) d20_11 (by decide) rfl ?_
    refine Go.istore_n 14 #[.val (.int (-v)), .val (.int (0 : Int32)), .val (.int (-10 : Int32)), .unset] d20_13 rfl rfl ?_
    refine Go.iconst 15 (1) d20_14 (by decide) rfl ?_
    refine Go.istore_n 16 #[.val (.int (-v)), .val (.int (0 : Int32)), .val (.int (-10 : Int32)), .val (.int (1 : Int32))] d20_15 rfl rfl ?_
    refine Go.iload_n 17 d20_16 rfl rfl ?_
    refine Go.bipush 19 (10) d20_17 (by decide) rfl ?_
    refine Go.icmp_ge 42 22 d20_19 (by decide) (by decide) rfl (fun c => absurd c (by decide)) (fun _ => ?_)
    refine Go.iload_n 23 d20_22 rfl rfl ?_
    refine Go.iload_n 24 d20_23 rfl rfl ?_
    refine Go.icmp_le 31 27 d20_24 (by decide) (by decide) rfl (fun c3 => ?_) (fun c3 => ?_)
    ·
      refine Go.bipush 33 (10) d20_31 (by decide) rfl ?_
      refine Go.iload_n 34 d20_33 rfl rfl ?_
      refine Go.imul 35 d20_34 rfl ?_
      rw [show ((10 : Int32) * (-10 : Int32)) = (-100 : Int32) from by decide]
      refine Go.istore_n 36 #[.val (.int (-v)), .val (.int (0 : Int32)), .val (.int (-100 : Int32)), .val (.int (1 : Int32))] d20_35 rfl rfl ?_
      refine Go.iinc 39 (1) #[.val (.int (-v)), .val (.int (0 : Int32)), .val (.int (-100 : Int32)), .val (.int ((1 : Int32) + (1 : Int32)))] d20_36 (by decide) rfl rfl rfl ?_
      refine Go.goto 16 d20_39 (by decide) (by decide) ?_
      refine Go.iload_n 17 d20_16 rfl rfl ?_
      refine Go.bipush 19 (10) d20_17 (by decide) rfl ?_
      refine Go.icmp_ge 42 22 d20_19 (by decide) (by decide) rfl (fun c => absurd c (by decide)) (fun _ => ?_)
      refine Go.iload_n 23 d20_22 rfl rfl ?_
      refine Go.iload_n 24 d20_23 rfl rfl ?_
      refine Go.icmp_le 31 27 d20_24 (by decide) (by decide) rfl (fun c5 => ?_) (fun c5 => ?_)
      ·
        refine Go.bipush 33 (10) d20_31 (by decide) rfl ?_
        refine Go.iload_n 34 d20_33 rfl rfl ?_
        refine Go.imul 35 d20_34 rfl ?_
        rw [show ((10 : Int32) * (-100 : Int32)) = (-1000 : Int32) from by decide]
        refine Go.istore_n 36 #[.val (.int (-v)), .val (.int (0 : Int32)), .val (.int (-1000 : Int32)), .val (.int ((1 : Int32) + (1 : Int32)))] d20_35 rfl rfl ?_
        refine Go.iinc 39 (1) #[.val (.int (-v)), .val (.int (0 : Int32)), .val (.int (-1000 : Int32)), .val (.int (((1 : Int32) + (1 : Int32)) + (1 : Int32)))] d20_36 (by decide) rfl rfl rfl ?_
        refine Go.goto 16 d20_39 (by decide) (by decide) ?_
        refine Go.iload_n 17 d20_16 rfl rfl ?_
        refine Go.bipush 19 (10) d20_17 (by decide) rfl ?_
        refine Go.icmp_ge 42 22 d20_19 (by decide) (by decide) rfl (fun c => absurd c (by decide)) (fun _ => ?_)
        refine Go.iload_n 23 d20_22 rfl rfl ?_
        refine Go.iload_n 24 d20_23 rfl rfl ?_
        refine Go.icmp_le 31 27 d20_24 (by decide) (by decide) rfl (fun c7 => ?_) (fun c7 => ?_)
        ·
          refine Go.bipush 33 (10) d20_31 (by decide) rfl ?_
          refine Go.iload_n 34 d20_33 rfl rfl ?_
          refine Go.imul 35 d20_34 rfl ?_
          rw [show ((10 : Int32) * (-1000 : Int32)) = (-10000 : Int32) from by decide]
          refine Go.istore_n 36 #[.val (.int (-v)), .val (.int (0 : Int32)), .val (.int (-10000 : Int32)), .val (.int (((1 : Int32) + (1 : Int32)) + (1 : Int32)))] d20_35 rfl rfl ?_
          refine Go.iinc 39 (1) #[.val (.int (-v)), .val (.int (0 : Int32)), .val (.int (-10000 : Int32)), .val (.int ((((1 : Int32) + (1 : Int32)) + (1 : Int32)) + (1 : Int32)))] d20_36 (by decide) rfl rfl rfl ?_
          refine Go.goto 16 d20_39 (by decide) (by decide) ?_
          refine Go.iload_n 17 d20_16 rfl rfl ?_
          refine Go.bipush 19 (10) d20_17 (by decide) rfl ?_
          refine Go.icmp_ge 42 22 d20_19 (by decide) (by decide) rfl (fun c => absurd c (by decide)) (fun _ => ?_)
          refine Go.iload_n 23 d20_22 rfl rfl ?_
          refine Go.iload_n 24 d20_23 rfl rfl ?_
          refine Go.icmp_le 31 27 d20_24 (by decide) (by decide) rfl (fun c9 => ?_) (fun c9 => ?_)
          ·
            refine Go.bipush 33 (10) d20_31 (by decide) rfl ?_
            refine Go.iload_n 34 d20_33 rfl rfl ?_
            refine Go.imul 35 d20_34 rfl ?_
            rw [show ((10 : Int32) * (-10000 : Int32)) = (-100000 : Int32) from by decide]
            refine Go.istore_n 36 #[.val (.int (-v)), .val (.int (0 : Int32)), .val (.int (-100000 : Int32)), .val (.int ((((1 : Int32) + (1 : Int32)) + (1 : Int32)) + (1 : Int32)))] d20_35 rfl rfl ?_
            refine Go.iinc 39 (1) #[.val (.int (-v)), .val (.int (0 : Int32)), .val (.int (-100000 : Int32)), .val (.int (((((1 : Int32) + (1 : Int32)) + (1 : Int32)) + (1 : Int32)) + (1 : Int32)))] d20_36 (by decide) rfl rfl rfl ?_
            refine Go.goto 16 d20_39 (by decide) (by decide) ?_
            refine Go.iload_n 17 d20_16 rfl rfl ?_
            refine Go.bipush 19 (10) d20_17 (by decide) rfl ?_
            refine Go.icmp_ge 42 22 d20_19 (by decide) (by decide) rfl (fun c => absurd c (by decide)) (fun _ => ?_)
            refine Go.iload_n 23 d20_22 rfl rfl ?_
            refine Go.iload_n 24 d20_23 rfl rfl ?_
            refine Go.icmp_le 31 27 d20_24 (by decide) (by decide) rfl (fun c11 => ?_) (fun c11 => ?_)
            ·
              refine Go.bipush 33 (10) d20_31 (by decide) rfl ?_
              refine Go.iload_n 34 d20_33 rfl rfl ?_
              refine Go.imul 35 d20_34 rfl ?_
              rw [show ((10 : Int32) * (-100000 : Int32)) = (-1000000 : Int32) from by decide]
              refine Go.istore_n 36 #[.val (.int (-v)), .val (.int (0 : Int32)), .val (.int (-1000000 : Int32)), .val (.int (((((1 : Int32) + (1 : Int32)) + (1 : Int32)) + (1 : Int32)) + (1 : Int32)))] d20_35 rfl rfl ?_
              refine Go.iinc 39 (1) #[.val (.int (-v)), .val (.int (0 : Int32)), .val (.int (-1000000 : Int32)), .val (.int ((((((1 : Int32) + (1 : Int32)) + (1 : Int32)) + (1 : Int32)) + (1 : Int32)) + (1 : Int32)))] d20_36 (by decide) rfl rfl rfl ?_
              refine Go.goto 16 d20_39 (by decide) (by decide) ?_
              refine Go.iload_n 17 d20_16 rfl rfl ?_
              refine Go.bipush 19 (10) d20_17 (by decide) rfl ?_
              refine Go.icmp_ge 42 22 d20_19 (by decide) (by decide) rfl (fun c => absurd c (by decide)) (fun _ => ?_)
              refine Go.iload_n 23 d20_22 rfl rfl ?_
              refine Go.iload_n 24 d20_23 rfl rfl ?_
              refine Go.icmp_le 31 27 d20_24 (by decide) (by decide) rfl (fun c13 => ?_) (fun c13 => ?_)
              ·
                refine Go.bipush 33 (10) d20_31 (by decide) rfl ?_
                refine Go.iload_n 34 d20_33 rfl rfl ?_
                refine Go.imul 35 d20_34 rfl ?_
                rw [show ((10 : Int32) * (-1000000 : Int32)) = (-10000000 : Int32) from by decide]
                refine Go.istore_n 36 #[.val (.int (-v)), .val (.int (0 : Int32)), .val (.int (-10000000 : Int32)), .val (.int ((((((1 : Int32) + (1 : Int32)) + (1 : Int32)) + (1 : Int32)) + (1 : Int32)) + (1 : Int32)))] d20_35 rfl rfl ?_
                refine Go.iinc 39 (1) #[.val (.int (-v)), .val (.int (0 : Int32)), .val (.int (-10000000 : Int32)), .val (.int (((((((1 : Int32) + (1 : Int32)) + (1 : Int32)) + (1 : Int32)) + (1 : Int32)) + (1 : Int32)) + (1 : Int32)))] d20_36 (by decide) rfl rfl rfl ?_
                refine Go.goto 16 d20_39 (by decide) (by decide) ?_
                refine Go.iload_n 17 d20_16 rfl rfl ?_
                refine Go.bipush 19 (10) d20_17 (by decide) rfl ?_
                refine Go.icmp_ge 42 22 d20_19 (by decide) (by decide) rfl (fun c => absurd c (by decide)) (fun _ => ?_)
                refine Go.iload_n 23 d20_22 rfl rfl ?_
                refine Go.iload_n 24 d20_23 rfl rfl ?_
                refine Go.icmp_le 31 27 d20_24 (by decide) (by decide) rfl (fun c15 => ?_) (fun c15 => ?_)
                ·
                  refine Go.bipush 33 (10) d20_31 (by decide) rfl ?_
                  refine Go.iload_n 34 d20_33 rfl rfl ?_
                  refine Go.imul 35 d20_34 rfl ?_
                  rw [show ((10 : Int32) * (-10000000 : Int32)) = (-100000000 : Int32) from by decide]
                  refine Go.istore_n 36 #[.val (.int (-v)), .val (.int (0 : Int32)), .val (.int (-100000000 : Int32)), .val (.int (((((((1 : Int32) + (1 : Int32)) + (1 : Int32)) + (1 : Int32)) + (1 : Int32)) + (1 : Int32)) + (1 : Int32)))] d20_35 rfl rfl ?_
                  refine Go.iinc 39 (1) #[.val (.int (-v)), .val (.int (0 : Int32)), .val (.int (-100000000 : Int32)), .val (.int ((((((((1 : Int32) + (1 : Int32)) + (1 : Int32)) + (1 : Int32)) + (1 : Int32)) + (1 : Int32)) + (1 : Int32)) + (1 : Int32)))] d20_36 (by decide) rfl rfl rfl ?_
                  refine Go.goto 16 d20_39 (by decide) (by decide) ?_
                  refine Go.iload_n 17 d20_16 rfl rfl ?_
                  refine Go.bipush 19 (10) d20_17 (by decide) rfl ?_
                  refine Go.icmp_ge 42 22 d20_19 (by decide) (by decide) rfl (fun c => absurd c (by decide)) (fun _ => ?_)
                  refine Go.iload_n 23 d20_22 rfl rfl ?_
                  refine Go.iload_n 24 d20_23 rfl rfl ?_
                  refine Go.icmp_le 31 27 d20_24 (by decide) (by decide) rfl (fun c17 => ?_) (fun c17 => ?_)
                  ·
                    refine Go.bipush 33 (10) d20_31 (by decide) rfl ?_
                    refine Go.iload_n 34 d20_33 rfl rfl ?_
                    refine Go.imul 35 d20_34 rfl ?_
                    rw [show ((10 : Int32) * (-100000000 : Int32)) = (-1000000000 : Int32) from by decide]
                    refine Go.istore_n 36 #[.val (.int (-v)), .val (.int (0 : Int32)), .val (.int (-1000000000 : Int32)), .val (.int ((((((((1 : Int32) + (1 : Int32)) + (1 : Int32)) + (1 : Int32)) + (1 : Int32)) + (1 : Int32)) + (1 : Int32)) + (1 : Int32)))] d20_35 rfl rfl ?_
                    refine Go.iinc 39 (1) #[.val (.int (-v)), .val (.int (0 : Int32)), .val (.int (-1000000000 : Int32)), .val (.int (((((((((1 : Int32) + (1 : Int32)) + (1 : Int32)) + (1 : Int32)) + (1 : Int32)) + (1 : Int32)) + (1 : Int32)) + (1 : Int32)) + (1 : Int32)))] d20_36 (by decide) rfl rfl rfl ?_
                    refine Go.goto 16 d20_39 (by decide) (by decide) ?_
                    refine Go.iload_n 17 d20_16 rfl rfl ?_
                    refine Go.bipush 19 (10) d20_17 (by decide) rfl ?_
                    refine Go.icmp_ge 42 22 d20_19 (by decide) (by decide) rfl (fun c => absurd c (by decide)) (fun _ => ?_)
                    refine Go.iload_n 23 d20_22 rfl rfl ?_
                    refine Go.iload_n 24 d20_23 rfl rfl ?_
                    refine Go.icmp_le 31 27 d20_24 (by decide) (by decide) rfl (fun c19 => ?_) (fun c19 => ?_)
                    ·
                      refine Go.bipush 33 (10) d20_31 (by decide) rfl ?_
                      refine Go.iload_n 34 d20_33 rfl rfl ?_
                      refine Go.imul 35 d20_34 rfl ?_
                      rw [show ((10 : Int32) * (-1000000000 : Int32)) = (-1410065408 : Int32) from by decide]
                      refine Go.istore_n 36 #[.val (.int (-v)), .val (.int (0 : Int32)), .val (.int (-1410065408 : Int32)), .val (.int (((((((((1 : Int32) + (1 : Int32)) + (1 : Int32)) + (1 : Int32)) + (1 : Int32)) + (1 : Int32)) + (1 : Int32)) + (1 : Int32)) + (1 : Int32)))] d20_35 rfl rfl ?_
                      refine Go.iinc 39 (1) #[.val (.int (-v)), .val (.int (0 : Int32)), .val (.int (-1410065408 : Int32)), .val (.int ((((((((((1 : Int32) + (1 : Int32)) + (1 : Int32)) + (1 : Int32)) + (1 : Int32)) + (1 : Int32)) + (1 : Int32)) + (1 : Int32)) + (1 : Int32)) + (1 : Int32)))] d20_36 (by decide) rfl rfl rfl ?_
                      refine Go.goto 16 d20_39 (by decide) (by decide) ?_
                      refine Go.iload_n 17 d20_16 rfl rfl ?_
                      refine Go.bipush 19 (10) d20_17 (by decide) rfl ?_
                      refine Go.icmp_ge 42 22 d20_19 (by decide) (by decide) rfl (fun _ => ?_) (fun c => absurd c (by decide))
                      refine Go.bipush 44 (10) d20_42 (by decide) rfl ?_
                      refine Go.iload_n 45 d20_44 rfl rfl ?_
                      refine Go.iadd 46 d20_45 rfl ?_
                      refine Go.ireturn d20_46 rfl (by decide) (by decide) ?_
                      simp only [own_lt32, own_negv hv, own_z0, own_m1, own_m2, own_m3, own_m4, own_m5, own_m6, own_m7, own_m8, own_m9] at c1 c3 c5 c7 c9 c11 c13 c15 c17 c19
                      have hk : own_ndN v.toInt.toNat = 10 := by
                        unfold own_ndN
                        rw [if_neg (by omega), if_neg (by omega), if_neg (by omega), if_neg (by omega), if_neg (by omega), if_neg (by omega), if_neg (by omega), if_neg (by omega), if_neg (by omega)]
                      refine ⟨?_, rfl⟩
                      rw [show own_nd v = 10 from hk]
                      decide
                    ·
                      refine Go.iload_n 28 d20_27 rfl rfl ?_
                      refine Go.iload_n 29 d20_28 rfl rfl ?_
                      refine Go.iadd 30 d20_29 rfl ?_
                      refine Go.ireturn d20_30 rfl (by decide) (by decide) ?_
                      simp only [own_lt32, own_negv hv, own_z0, own_m1, own_m2, own_m3, own_m4, own_m5, own_m6, own_m7, own_m8, own_m9] at c1 c3 c5 c7 c9 c11 c13 c15 c17 c19
                      have hk : own_ndN v.toInt.toNat = 9 := by
                        unfold own_ndN
                        rw [if_neg (by omega), if_neg (by omega), if_neg (by omega), if_neg (by omega), if_neg (by omega), if_neg (by omega), if_neg (by omega), if_neg (by omega), if_pos (by omega)]
                      refine ⟨?_, rfl⟩
                      rw [show own_nd v = 9 from hk]
                      decide
                  ·
                    refine Go.iload_n 28 d20_27 rfl rfl ?_
                    refine Go.iload_n 29 d20_28 rfl rfl ?_
                    refine Go.iadd 30 d20_29 rfl ?_
                    refine Go.ireturn d20_30 rfl (by decide) (by decide) ?_
                    simp only [own_lt32, own_negv hv, own_z0, own_m1, own_m2, own_m3, own_m4, own_m5, own_m6, own_m7, own_m8, own_m9] at c1 c3 c5 c7 c9 c11 c13 c15 c17
                    have hk : own_ndN v.toInt.toNat = 8 := by
                      unfold own_ndN
                      rw [if_neg (by omega), if_neg (by omega), if_neg (by omega), if_neg (by omega), if_neg (by omega), if_neg (by omega), if_neg (by omega), if_pos (by omega)]
                    refine ⟨?_, rfl⟩
                    rw [show own_nd v = 8 from hk]
                    decide
                ·
                  refine Go.iload_n 28 d20_27 rfl rfl ?_
                  refine Go.iload_n 29 d20_28 rfl rfl ?_
                  refine Go.iadd 30 d20_29 rfl ?_
                  refine Go.ireturn d20_30 rfl (by decide) (by decide) ?_
                  simp only [own_lt32, own_negv hv, own_z0, own_m1, own_m2, own_m3, own_m4, own_m5, own_m6, own_m7, own_m8, own_m9] at c1 c3 c5 c7 c9 c11 c13 c15
                  have hk : own_ndN v.toInt.toNat = 7 := by
                    unfold own_ndN
                    rw [if_neg (by omega), if_neg (by omega), if_neg (by omega), if_neg (by omega), if_neg (by omega), if_neg (by omega), if_pos (by omega)]
                  refine ⟨?_, rfl⟩
                  rw [show own_nd v = 7 from hk]
                  decide
              ·
                refine Go.iload_n 28 d20_27 rfl rfl ?_
                refine Go.iload_n 29 d20_28 rfl rfl ?_
                refine Go.iadd 30 d20_29 rfl ?_
                refine Go.ireturn d20_30 rfl (by decide) (by decide) ?_
                simp only [own_lt32, own_negv hv, own_z0, own_m1, own_m2, own_m3, own_m4, own_m5, own_m6, own_m7, own_m8, own_m9] at c1 c3 c5 c7 c9 c11 c13
                have hk : own_ndN v.toInt.toNat = 6 := by
                  unfold own_ndN
                  rw [if_neg (by omega), if_neg (by omega), if_neg (by omega), if_neg (by omega), if_neg (by omega), if_pos (by omega)]
                refine ⟨?_, rfl⟩
                rw [show own_nd v = 6 from hk]
                decide
            ·
              refine Go.iload_n 28 d20_27 rfl rfl ?_
              refine Go.iload_n 29 d20_28 rfl rfl ?_
              refine Go.iadd 30 d20_29 rfl ?_
              refine Go.ireturn d20_30 rfl (by decide) (by decide) ?_
              simp only [own_lt32, own_negv hv, own_z0, own_m1, own_m2, own_m3, own_m4, own_m5, own_m6, own_m7, own_m8, own_m9] at c1 c3 c5 c7 c9 c11
              have hk : own_ndN v.toInt.toNat = 5 := by
                unfold own_ndN
                rw [if_neg (by omega), if_neg (by omega), if_neg (by omega), if_neg (by omega), if_pos (by omega)]
              refine ⟨?_, rfl⟩
              rw [show own_nd v = 5 from hk]
              decide
          ·
            refine Go.iload_n 28 d20_27 rfl rfl ?_
            refine Go.iload_n 29 d20_28 rfl rfl ?_
            refine Go.iadd 30 d20_29 rfl ?_
            refine Go.ireturn d20_30 rfl (by decide) (by decide) ?_
            simp only [own_lt32, own_negv hv, own_z0, own_m1, own_m2, own_m3, own_m4, own_m5, own_m6, own_m7, own_m8, own_m9] at c1 c3 c5 c7 c9
            have hk : own_ndN v.toInt.toNat = 4 := by
              unfold own_ndN
              rw [if_neg (by omega), if_neg (by omega), if_neg (by omega), if_pos (by omega)]
            refine ⟨?_, rfl⟩
            rw [show own_nd v = 4 from hk]
            decide
        ·
          refine Go.iload_n 28 d20_27 rfl rfl ?_
          refine Go.iload_n 29 d20_28 rfl rfl ?_
          refine Go.iadd 30 d20_29 rfl ?_
          refine Go.ireturn d20_30 rfl (by decide) (by decide) ?_
          simp only [own_lt32, own_negv hv, own_z0, own_m1, own_m2, own_m3, own_m4, own_m5, own_m6, own_m7, own_m8, own_m9] at c1 c3 c5 c7
          have hk : own_ndN v.toInt.toNat = 3 := by
            unfold own_ndN
            rw [if_neg (by omega), if_neg (by omega), if_pos (by omega)]
          refine ⟨?_, rfl⟩
          rw [show own_nd v = 3 from hk]
          decide
      ·
        refine Go.iload_n 28 d20_27 rfl rfl ?_
        refine Go.iload_n 29 d20_28 rfl rfl ?_
        refine Go.iadd 30 d20_29 rfl ?_
        refine Go.ireturn d20_30 rfl (by decide) (by decide) ?_
        simp only [own_lt32, own_negv hv, own_z0, own_m1, own_m2, own_m3, own_m4, own_m5, own_m6, own_m7, own_m8, own_m9] at c1 c3 c5
        have hk : own_ndN v.toInt.toNat = 2 := by
          unfold own_ndN
          rw [if_neg (by omega), if_pos (by omega)]
        refine ⟨?_, rfl⟩
        rw [show own_nd v = 2 from hk]
        decide
    ·
      refine Go.iload_n 28 d20_27 rfl rfl ?_
      refine Go.iload_n 29 d20_28 rfl rfl ?_
      refine Go.iadd 30 d20_29 rfl ?_
      refine Go.ireturn d20_30 rfl (by decide) (by decide) ?_
      simp only [own_lt32, own_negv hv, own_z0, own_m1, own_m2, own_m3, own_m4, own_m5, own_m6, own_m7, own_m8, own_m9] at c1 c3
      have hk : own_ndN v.toInt.toNat = 1 := by
        unfold own_ndN
        rw [if_pos (by omega)]
      refine ⟨?_, rfl⟩
      rw [show own_nd v = 1 from hk]
      decide

theorem d27_0 : decode method_5_code 0 = .ok (.iload_n 0, 1) := by decide +kernel
theorem d27_1 : decode method_5_code 1 = .ok (.bipush 10, 2) := by decide +kernel
theorem d27_3 : decode method_5_code 3 = .ok (.if_icmp .ge 5, 3) := by decide +kernel
theorem d27_6 : decode method_5_code 6 = .ok (.iconst 1, 1) := by decide +kernel
theorem d27_7 : decode method_5_code 7 = .ok (.ireturn, 1) := by decide +kernel
theorem d27_8 : decode method_5_code 8 = .ok (.iload_n 0, 1) := by decide +kernel
theorem d27_9 : decode method_5_code 9 = .ok (.bipush 100, 2) := by decide +kernel
theorem d27_11 : decode method_5_code 11 = .ok (.if_icmp .ge 5, 3) := by decide +kernel
theorem d27_14 : decode method_5_code 14 = .ok (.iconst 2, 1) := by decide +kernel
theorem d27_15 : decode method_5_code 15 = .ok (.ireturn, 1) := by decide +kernel
theorem d27_16 : decode method_5_code 16 = .ok (.iload_n 0, 1) := by decide +kernel
theorem d27_17 : decode method_5_code 17 = .ok (.sipush 1000, 3) := by decide +kernel
theorem d27_20 : decode method_5_code 20 = .ok (.if_icmp .ge 5, 3) := by decide +kernel
theorem d27_23 : decode method_5_code 23 = .ok (.iconst 3, 1) := by decide +kernel
theorem d27_24 : decode method_5_code 24 = .ok (.ireturn, 1) := by decide +kernel
theorem d27_25 : decode method_5_code 25 = .ok (.iload_n 0, 1) := by decide +kernel
theorem d27_26 : decode method_5_code 26 = .ok (.sipush 10000, 3) := by decide +kernel
theorem d27_29 : decode method_5_code 29 = .ok (.if_icmp .ge 5, 3) := by decide +kernel
theorem d27_32 : decode method_5_code 32 = .ok (.iconst 4, 1) := by decide +kernel
theorem d27_33 : decode method_5_code 33 = .ok (.ireturn, 1) := by decide +kernel
theorem d27_34 : decode method_5_code 34 = .ok (.iload_n 0, 1) := by decide +kernel
theorem d27_35 : decode method_5_code 35 = .ok (.ldc 45, 2) := by decide +kernel
theorem d27_37 : decode method_5_code 37 = .ok (.if_icmp .ge 5, 3) := by decide +kernel
theorem d27_40 : decode method_5_code 40 = .ok (.iconst 5, 1) := by decide +kernel
theorem d27_41 : decode method_5_code 41 = .ok (.ireturn, 1) := by decide +kernel
theorem d27_42 : decode method_5_code 42 = .ok (.iload_n 0, 1) := by decide +kernel
theorem d27_43 : decode method_5_code 43 = .ok (.ldc 46, 2) := by decide +kernel
theorem d27_45 : decode method_5_code 45 = .ok (.if_icmp .ge 6, 3) := by decide +kernel
theorem d27_48 : decode method_5_code 48 = .ok (.bipush 6, 2) := by decide +kernel
theorem d27_50 : decode method_5_code 50 = .ok (.ireturn, 1) := by decide +kernel
theorem d27_51 : decode method_5_code 51 = .ok (.iload_n 0, 1) := by decide +kernel
theorem d27_52 : decode method_5_code 52 = .ok (.ldc 47, 2) := by decide +kernel
theorem d27_54 : decode method_5_code 54 = .ok (.if_icmp .ge 6, 3) := by decide +kernel
theorem d27_57 : decode method_5_code 57 = .ok (.bipush 7, 2) := by decide +kernel
theorem d27_59 : decode method_5_code 59 = .ok (.ireturn, 1) := by decide +kernel
theorem d27_60 : decode method_5_code 60 = .ok (.iload_n 0, 1) := by decide +kernel
theorem d27_61 : decode method_5_code 61 = .ok (.ldc 48, 2) := by decide +kernel
theorem d27_63 : decode method_5_code 63 = .ok (.if_icmp .ge 6, 3) := by decide +kernel
theorem d27_66 : decode method_5_code 66 = .ok (.bipush 8, 2) := by decide +kernel
theorem d27_68 : decode method_5_code 68 = .ok (.ireturn, 1) := by decide +kernel
theorem d27_69 : decode method_5_code 69 = .ok (.iload_n 0, 1) := by decide +kernel
theorem d27_70 : decode method_5_code 70 = .ok (.ldc 49, 2) := by decide +kernel
theorem d27_72 : decode method_5_code 72 = .ok (.if_icmp .ge 6, 3) := by decide +kernel
theorem d27_75 : decode method_5_code 75 = .ok (.bipush 9, 2) := by decide +kernel
theorem d27_77 : decode method_5_code 77 = .ok (.ireturn, 1) := by decide +kernel
theorem d27_78 : decode method_5_code 78 = .ok (.bipush 10, 2) := by decide +kernel
theorem d27_80 : decode method_5_code 80 = .ok (.ireturn, 1) := by decide +kernel

theorem pd27 : parseMethodDescriptor "(I)I" = some ⟨[.int], some .int⟩ := by decide +kernel
theorem pl27 : plainFor (⟨"com/example/medianpoint/medianpoint/AnswerPrinterSiteNumbersPinLaw", "digits", "(I)I"⟩ : MethodName) = true := by first | exact plainFor_of_name (by first | (simp [plainName, overriddenIn]; done) | decide +kernel) | decide +kernel

theorem ef_k_dg (m : MethodId) (x0 : Int32) : entryFrame m #[(.int x0)] 1 = mkF m 0 #[.val (.int x0)] [] := by first | (simp [entryFrame, mkF, argsToLocals, Value.category]; done) | rfl

set_option maxRecDepth 65536 in
set_option maxHeartbeats 40000000 in
theorem k_dg {l : Launch} {Z : State} {a0 : Array Value} (hw : ∀ d ∈ tables_1, d.before a0 Z = true)  (h : Heap) (hz : Z.heap.size ≤ h.size) (v : Int32)  (hv : 0 < v.toInt)   : Go l Z (⟨"com/example/medianpoint/medianpoint/AnswerPrinterSiteNumbersPinLaw", "digits", "(I)I"⟩ : MethodName) method_5_code 1 (Option.some Jvm.ClassFile.FieldType.int) ({ frames := 0, cells := 0, slots := 0, locals := 0 } : Room) (QI fun rz h' => rz = ((own_nd v).toInt32) ∧ h' = h) 0 0 h 0 #[.val (.int v)] [] := by
  refine Go.iload_n 1 d27_0 rfl rfl ?_
  refine Go.bipush 3 (10) d27_1 (by decide) rfl ?_
  refine Go.icmp_ge 8 6 d27_3 (by decide) (by decide) rfl (fun c1 => ?_) (fun c1 => ?_)
  ·
    refine Go.iload_n 9 d27_8 rfl rfl ?_
    refine Go.bipush 11 (100) d27_9 (by decide) rfl ?_
    refine Go.icmp_ge 16 14 d27_11 (by decide) (by decide) rfl (fun c2 => ?_) (fun c2 => ?_)
    ·
      refine Go.iload_n 17 d27_16 rfl rfl ?_
      refine Go.sipush 20 (1000) d27_17 (by decide) rfl ?_
      refine Go.icmp_ge 25 23 d27_20 (by decide) (by decide) rfl (fun c3 => ?_) (fun c3 => ?_)
      ·
        refine Go.iload_n 26 d27_25 rfl rfl ?_
        refine Go.sipush 29 (10000) d27_26 (by decide) rfl ?_
        refine Go.icmp_ge 34 32 d27_29 (by decide) (by decide) rfl (fun c4 => ?_) (fun c4 => ?_)
        ·
          refine Go.iload_n 35 d27_34 rfl rfl ?_
          refine Go.ldc 37 d27_35 (tw176 hw) rfl ?_
          refine Go.icmp_ge 42 40 d27_37 (by decide) (by decide) rfl (fun c5 => ?_) (fun c5 => ?_)
          ·
            refine Go.iload_n 43 d27_42 rfl rfl ?_
            refine Go.ldc 45 d27_43 (tw177 hw) rfl ?_
            refine Go.icmp_ge 51 48 d27_45 (by decide) (by decide) rfl (fun c6 => ?_) (fun c6 => ?_)
            ·
              refine Go.iload_n 52 d27_51 rfl rfl ?_
              refine Go.ldc 54 d27_52 (tw178 hw) rfl ?_
              refine Go.icmp_ge 60 57 d27_54 (by decide) (by decide) rfl (fun c7 => ?_) (fun c7 => ?_)
              ·
                refine Go.iload_n 61 d27_60 rfl rfl ?_
                refine Go.ldc 63 d27_61 (tw179 hw) rfl ?_
                refine Go.icmp_ge 69 66 d27_63 (by decide) (by decide) rfl (fun c8 => ?_) (fun c8 => ?_)
                ·
                  refine Go.iload_n 70 d27_69 rfl rfl ?_
                  refine Go.ldc 72 d27_70 (tw180 hw) rfl ?_
                  refine Go.icmp_ge 78 75 d27_72 (by decide) (by decide) rfl (fun c9 => ?_) (fun c9 => ?_)
                  ·
                    refine Go.bipush 80 (10) d27_78 (by decide) rfl ?_
                    refine Go.ireturn d27_80 rfl (by decide) (by decide) ?_
                    simp only [own_lt32, own_z0, own_p1, own_p2, own_p3, own_p4, own_p5, own_p6, own_p7, own_p8, own_p9] at c1 c2 c3 c4 c5 c6 c7 c8 c9
                    have hk : own_ndN v.toInt.toNat = 10 := by
                      unfold own_ndN
                      rw [if_neg (by omega), if_neg (by omega), if_neg (by omega), if_neg (by omega), if_neg (by omega), if_neg (by omega), if_neg (by omega), if_neg (by omega), if_neg (by omega)]
                    refine ⟨?_, rfl⟩
                    rw [show own_nd v = 10 from hk]
                    decide
                  ·
                    refine Go.bipush 77 (9) d27_75 (by decide) rfl ?_
                    refine Go.ireturn d27_77 rfl (by decide) (by decide) ?_
                    simp only [own_lt32, own_z0, own_p1, own_p2, own_p3, own_p4, own_p5, own_p6, own_p7, own_p8, own_p9] at c1 c2 c3 c4 c5 c6 c7 c8 c9
                    have hk : own_ndN v.toInt.toNat = 9 := by
                      unfold own_ndN
                      rw [if_neg (by omega), if_neg (by omega), if_neg (by omega), if_neg (by omega), if_neg (by omega), if_neg (by omega), if_neg (by omega), if_neg (by omega), if_pos (by omega)]
                    refine ⟨?_, rfl⟩
                    rw [show own_nd v = 9 from hk]
                    decide
                ·
                  refine Go.bipush 68 (8) d27_66 (by decide) rfl ?_
                  refine Go.ireturn d27_68 rfl (by decide) (by decide) ?_
                  simp only [own_lt32, own_z0, own_p1, own_p2, own_p3, own_p4, own_p5, own_p6, own_p7, own_p8, own_p9] at c1 c2 c3 c4 c5 c6 c7 c8
                  have hk : own_ndN v.toInt.toNat = 8 := by
                    unfold own_ndN
                    rw [if_neg (by omega), if_neg (by omega), if_neg (by omega), if_neg (by omega), if_neg (by omega), if_neg (by omega), if_neg (by omega), if_pos (by omega)]
                  refine ⟨?_, rfl⟩
                  rw [show own_nd v = 8 from hk]
                  decide
              ·
                refine Go.bipush 59 (7) d27_57 (by decide) rfl ?_
                refine Go.ireturn d27_59 rfl (by decide) (by decide) ?_
                simp only [own_lt32, own_z0, own_p1, own_p2, own_p3, own_p4, own_p5, own_p6, own_p7, own_p8, own_p9] at c1 c2 c3 c4 c5 c6 c7
                have hk : own_ndN v.toInt.toNat = 7 := by
                  unfold own_ndN
                  rw [if_neg (by omega), if_neg (by omega), if_neg (by omega), if_neg (by omega), if_neg (by omega), if_neg (by omega), if_pos (by omega)]
                refine ⟨?_, rfl⟩
                rw [show own_nd v = 7 from hk]
                decide
            ·
              refine Go.bipush 50 (6) d27_48 (by decide) rfl ?_
              refine Go.ireturn d27_50 rfl (by decide) (by decide) ?_
              simp only [own_lt32, own_z0, own_p1, own_p2, own_p3, own_p4, own_p5, own_p6, own_p7, own_p8, own_p9] at c1 c2 c3 c4 c5 c6
              have hk : own_ndN v.toInt.toNat = 6 := by
                unfold own_ndN
                rw [if_neg (by omega), if_neg (by omega), if_neg (by omega), if_neg (by omega), if_neg (by omega), if_pos (by omega)]
              refine ⟨?_, rfl⟩
              rw [show own_nd v = 6 from hk]
              decide
          ·
            refine Go.iconst 41 (5) d27_40 (by decide) rfl ?_
            refine Go.ireturn d27_41 rfl (by decide) (by decide) ?_
            simp only [own_lt32, own_z0, own_p1, own_p2, own_p3, own_p4, own_p5, own_p6, own_p7, own_p8, own_p9] at c1 c2 c3 c4 c5
            have hk : own_ndN v.toInt.toNat = 5 := by
              unfold own_ndN
              rw [if_neg (by omega), if_neg (by omega), if_neg (by omega), if_neg (by omega), if_pos (by omega)]
            refine ⟨?_, rfl⟩
            rw [show own_nd v = 5 from hk]
            decide
        ·
          refine Go.iconst 33 (4) d27_32 (by decide) rfl ?_
          refine Go.ireturn d27_33 rfl (by decide) (by decide) ?_
          simp only [own_lt32, own_z0, own_p1, own_p2, own_p3, own_p4, own_p5, own_p6, own_p7, own_p8, own_p9] at c1 c2 c3 c4
          have hk : own_ndN v.toInt.toNat = 4 := by
            unfold own_ndN
            rw [if_neg (by omega), if_neg (by omega), if_neg (by omega), if_pos (by omega)]
          refine ⟨?_, rfl⟩
          rw [show own_nd v = 4 from hk]
          decide
      ·
        refine Go.iconst 24 (3) d27_23 (by decide) rfl ?_
        refine Go.ireturn d27_24 rfl (by decide) (by decide) ?_
        simp only [own_lt32, own_z0, own_p1, own_p2, own_p3, own_p4, own_p5, own_p6, own_p7, own_p8, own_p9] at c1 c2 c3
        have hk : own_ndN v.toInt.toNat = 3 := by
          unfold own_ndN
          rw [if_neg (by omega), if_neg (by omega), if_pos (by omega)]
        refine ⟨?_, rfl⟩
        rw [show own_nd v = 3 from hk]
        decide
    ·
      refine Go.iconst 15 (2) d27_14 (by decide) rfl ?_
      refine Go.ireturn d27_15 rfl (by decide) (by decide) ?_
      simp only [own_lt32, own_z0, own_p1, own_p2, own_p3, own_p4, own_p5, own_p6, own_p7, own_p8, own_p9] at c1 c2
      have hk : own_ndN v.toInt.toNat = 2 := by
        unfold own_ndN
        rw [if_neg (by omega), if_pos (by omega)]
      refine ⟨?_, rfl⟩
      rw [show own_nd v = 2 from hk]
      decide
  ·
    refine Go.iconst 7 (1) d27_6 (by decide) rfl ?_
    refine Go.ireturn d27_7 rfl (by decide) (by decide) ?_
    simp only [own_lt32, own_z0, own_p1, own_p2, own_p3, own_p4, own_p5, own_p6, own_p7, own_p8, own_p9] at c1
    have hk : own_ndN v.toInt.toNat = 1 := by
      unfold own_ndN
      rw [if_pos (by omega)]
    refine ⟨?_, rfl⟩
    rw [show own_nd v = 1 from hk]
    decide

theorem d22_0 : decode jdk_33_method_12_code 0 = .ok (.iload_n 1, 1) := by decide +kernel
theorem d22_1 : decode jdk_33_method_12_code 1 = .ok (.istore 5, 2) := by decide +kernel
theorem d22_3 : decode jdk_33_method_12_code 3 = .ok (.iload_n 0, 1) := by decide +kernel
theorem d22_4 : decode jdk_33_method_12_code 4 = .ok (.ifCond .ge 7, 3) := by decide +kernel
theorem d22_7 : decode jdk_33_method_12_code 7 = .ok (.iconst 1, 1) := by decide +kernel
theorem d22_8 : decode jdk_33_method_12_code 8 = .ok (.goto 4, 3) := by decide +kernel
theorem d22_11 : decode jdk_33_method_12_code 11 = .ok (.iconst 0, 1) := by decide +kernel
theorem d22_12 : decode jdk_33_method_12_code 12 = .ok (.istore 6, 2) := by decide +kernel
theorem d22_14 : decode jdk_33_method_12_code 14 = .ok (.iload 6, 2) := by decide +kernel
theorem d22_16 : decode jdk_33_method_12_code 16 = .ok (.ifCond .ne 6, 3) := by decide +kernel
theorem d22_19 : decode jdk_33_method_12_code 19 = .ok (.iload_n 0, 1) := by decide +kernel
theorem d22_20 : decode jdk_33_method_12_code 20 = .ok (.ineg, 1) := by decide +kernel
theorem d22_21 : decode jdk_33_method_12_code 21 = .ok (.istore_n 0, 1) := by decide +kernel
theorem d22_22 : decode jdk_33_method_12_code 22 = .ok (.iload_n 0, 1) := by decide +kernel
theorem d22_23 : decode jdk_33_method_12_code 23 = .ok (.bipush (-100), 2) := by decide +kernel
theorem d22_25 : decode jdk_33_method_12_code 25 = .ok (.if_icmp .gt 47, 3) := by decide +kernel
theorem d22_28 : decode jdk_33_method_12_code 28 = .ok (.iload_n 0, 1) := by decide +kernel
theorem d22_29 : decode jdk_33_method_12_code 29 = .ok (.bipush 100, 2) := by decide +kernel
theorem d22_31 : decode jdk_33_method_12_code 31 = .ok (.idiv, 1) := by decide +kernel
theorem d22_32 : decode jdk_33_method_12_code 32 = .ok (.istore_n 3, 1) := by decide +kernel
theorem d22_33 : decode jdk_33_method_12_code 33 = .ok (.iload_n 3, 1) := by decide +kernel
theorem d22_34 : decode jdk_33_method_12_code 34 = .ok (.bipush 100, 2) := by decide +kernel
theorem d22_36 : decode jdk_33_method_12_code 36 = .ok (.imul, 1) := by decide +kernel
theorem d22_37 : decode jdk_33_method_12_code 37 = .ok (.iload_n 0, 1) := by decide +kernel
theorem d22_38 : decode jdk_33_method_12_code 38 = .ok (.isub, 1) := by decide +kernel
theorem d22_39 : decode jdk_33_method_12_code 39 = .ok (.istore 4, 2) := by decide +kernel
theorem d22_41 : decode jdk_33_method_12_code 41 = .ok (.iload_n 3, 1) := by decide +kernel
theorem d22_42 : decode jdk_33_method_12_code 42 = .ok (.istore_n 0, 1) := by decide +kernel
theorem d22_43 : decode jdk_33_method_12_code 43 = .ok (.aload_n 2, 1) := by decide +kernel
theorem d22_44 : decode jdk_33_method_12_code 44 = .ok (.iinc 5 (-1), 3) := by decide +kernel
theorem d22_47 : decode jdk_33_method_12_code 47 = .ok (.iload 5, 2) := by decide +kernel
theorem d22_49 : decode jdk_33_method_12_code 49 = .ok (.getstatic 83, 3) := by decide +kernel
theorem d22_52 : decode jdk_33_method_12_code 52 = .ok (.iload 4, 2) := by decide +kernel
theorem d22_54 : decode jdk_33_method_12_code 54 = .ok (.baload, 1) := by decide +kernel
theorem d22_55 : decode jdk_33_method_12_code 55 = .ok (.bastore, 1) := by decide +kernel
theorem d22_56 : decode jdk_33_method_12_code 56 = .ok (.aload_n 2, 1) := by decide +kernel
theorem d22_57 : decode jdk_33_method_12_code 57 = .ok (.iinc 5 (-1), 3) := by decide +kernel
theorem d22_60 : decode jdk_33_method_12_code 60 = .ok (.iload 5, 2) := by decide +kernel
theorem d22_62 : decode jdk_33_method_12_code 62 = .ok (.getstatic 87, 3) := by decide +kernel
theorem d22_65 : decode jdk_33_method_12_code 65 = .ok (.iload 4, 2) := by decide +kernel
theorem d22_67 : decode jdk_33_method_12_code 67 = .ok (.baload, 1) := by decide +kernel
theorem d22_68 : decode jdk_33_method_12_code 68 = .ok (.bastore, 1) := by decide +kernel
theorem d22_69 : decode jdk_33_method_12_code 69 = .ok (.goto (-47), 3) := by decide +kernel
theorem d22_72 : decode jdk_33_method_12_code 72 = .ok (.aload_n 2, 1) := by decide +kernel
theorem d22_73 : decode jdk_33_method_12_code 73 = .ok (.iinc 5 (-1), 3) := by decide +kernel
theorem d22_76 : decode jdk_33_method_12_code 76 = .ok (.iload 5, 2) := by decide +kernel
theorem d22_78 : decode jdk_33_method_12_code 78 = .ok (.getstatic 83, 3) := by decide +kernel
theorem d22_81 : decode jdk_33_method_12_code 81 = .ok (.iload_n 0, 1) := by decide +kernel
theorem d22_82 : decode jdk_33_method_12_code 82 = .ok (.ineg, 1) := by decide +kernel
theorem d22_83 : decode jdk_33_method_12_code 83 = .ok (.baload, 1) := by decide +kernel
theorem d22_84 : decode jdk_33_method_12_code 84 = .ok (.bastore, 1) := by decide +kernel
theorem d22_85 : decode jdk_33_method_12_code 85 = .ok (.iload_n 0, 1) := by decide +kernel
theorem d22_86 : decode jdk_33_method_12_code 86 = .ok (.bipush (-9), 2) := by decide +kernel
theorem d22_88 : decode jdk_33_method_12_code 88 = .ok (.if_icmp .ge 16, 3) := by decide +kernel
theorem d22_91 : decode jdk_33_method_12_code 91 = .ok (.aload_n 2, 1) := by decide +kernel
theorem d22_92 : decode jdk_33_method_12_code 92 = .ok (.iinc 5 (-1), 3) := by decide +kernel
theorem d22_95 : decode jdk_33_method_12_code 95 = .ok (.iload 5, 2) := by decide +kernel
theorem d22_97 : decode jdk_33_method_12_code 97 = .ok (.getstatic 87, 3) := by decide +kernel
theorem d22_100 : decode jdk_33_method_12_code 100 = .ok (.iload_n 0, 1) := by decide +kernel
theorem d22_101 : decode jdk_33_method_12_code 101 = .ok (.ineg, 1) := by decide +kernel
theorem d22_102 : decode jdk_33_method_12_code 102 = .ok (.baload, 1) := by decide +kernel
theorem d22_103 : decode jdk_33_method_12_code 103 = .ok (.bastore, 1) := by decide +kernel
theorem d22_104 : decode jdk_33_method_12_code 104 = .ok (.iload 6, 2) := by decide +kernel
theorem d22_106 : decode jdk_33_method_12_code 106 = .ok (.ifCond .eq 12, 3) := by decide +kernel
theorem d22_109 : decode jdk_33_method_12_code 109 = .ok (.aload_n 2, 1) := by decide +kernel
theorem d22_110 : decode jdk_33_method_12_code 110 = .ok (.iinc 5 (-1), 3) := by decide +kernel
theorem d22_113 : decode jdk_33_method_12_code 113 = .ok (.iload 5, 2) := by decide +kernel
theorem d22_115 : decode jdk_33_method_12_code 115 = .ok (.bipush 45, 2) := by decide +kernel
theorem d22_117 : decode jdk_33_method_12_code 117 = .ok (.bastore, 1) := by decide +kernel
theorem d22_118 : decode jdk_33_method_12_code 118 = .ok (.iload 5, 2) := by decide +kernel
theorem d22_120 : decode jdk_33_method_12_code 120 = .ok (.ireturn, 1) := by decide +kernel

theorem pd22 : parseMethodDescriptor "(II[B)I" = some ⟨[.int, .int, (.array .byte)], some .int⟩ := by decide +kernel
theorem pl22 : plainFor (⟨"java/lang/Integer", "getChars", "(II[B)I"⟩ : MethodName) = true := by first | exact plainFor_of_name (by first | (simp [plainName, overriddenIn]; done) | decide +kernel) | decide +kernel

set_option maxRecDepth 65536 in
set_option maxHeartbeats 40000000 in
theorem k_gl {l : Launch} {Z : State} {a0 : Array Value} (hw : ∀ d ∈ tables_1, d.before a0 Z = true) (h : Heap) (b r1 r2 : Addr) (e : Int32) (TT : List Int32) (ge_b : Z.heap.size ≤ b) (ne1 : b ≠ r1) (ne2 : b ≠ r2) : ∀ (k : Nat) (u p : Nat) (i pos : Int32) (xs : List Int32) (u3 u4 : Slot) (h1 : Heap) (hz1 : Z.heap.size ≤ h1.size) (K1 : Keep h h1 [b]) (A1 : Ari Z h1 b .byte xs) (S1 : Sta Z h1 "java/lang/Integer" "DigitOnes" "[B" (.ref r1)) (T1 : Ari Z h1 r1 .byte own_ones) (S2 : Sta Z h1 "java/lang/Integer" "DigitTens" "[B" (.ref r2)) (T2 : Ari Z h1 r2 .byte own_tens) (hu3 : u3 = .unset ∨ ∃ v, u3 = .val v ∧ v.category = 1) (hu4 : u4 = .unset ∨ ∃ v, u4 = .val v ∧ v.category = 1) (hi : i.toInt = -(u : Int)) (hu : u < 100 ^ (k + 1)) (hub : u < 2147483648) (hpos : pos = p.toInt32) (hp : (own_decN k u).length ≤ p) (hpx : p ≤ xs.length) (hxl : xs.length ≤ 40) (hT : TT = xs.take (p - (own_decN k u).length) ++ own_decN k u ++ xs.drop p), Go l Z (⟨"java/lang/Integer", "getChars", "(II[B)I"⟩ : MethodName) jdk_33_method_12_code 7 (Option.some Jvm.ClassFile.FieldType.int) ({ frames := 0, cells := 0, slots := 0, locals := 0 } : Room) (QI fun rz h' => True ∧ Keep h h' [b] ∧ Ari Z h' b .byte TT) 0 0 h1 22 #[.val (.int i), .val (.int e), .val (.ref b), u3, u4, .val (.int pos), .val (.int (0 : Int32))] [] := by
  intro k
  induction k with
  | zero =>
    intro u p i pos xs u3 u4 h1 hz1 K1 A1 S1 T1 S2 T2 hu3 hu4 hi hu hub hpos hp hpx hxl hT
    refine Go.iload_n 23 d22_22 rfl rfl ?_
    refine Go.bipush 25 (-100) d22_23 (by decide) rfl ?_
    refine Go.icmp_gt 72 28 d22_25 (by decide) (by decide) rfl (fun c1 => ?_) (fun c1 => ?_)
    ·
      simp only [own_lt32, hi, own_m100] at c1
      have hu100 : u < 100 := by omega
      have hn := own_negix hi hu100
      have hl1 := own_decpos 0 u
      have hpos1 : pos + (-1 : Int32) = (p - 1).toInt32 := own_posd hpos (by omega) (by omega)
      refine Go.aload_n 73 d22_72 rfl rfl rfl ?_
      refine Go.iinc 76 (-1) #[.val (.int i), .val (.int e), .val (.ref b), u3, u4, .val (.int (pos + (-1 : Int32))), .val (.int (0 : Int32))] d22_73 (by decide) rfl rfl rfl ?_
      refine Go.iload 78 d22_76 rfl rfl ?_
      refine Go.getstatic 81 d22_78 (tw120 hw) S1 rfl ?_
      refine Go.iload_n 82 d22_81 rfl rfl ?_
      refine Go.ineg 83 d22_82 rfl ?_
      refine Go.baload (x := (own_d (u % 10))) (u) 84 d22_83 T1 hn.1 hn.2 (own_onesq hu100) rfl ?_
      refine Go.bastore ((p - 1)) ((xs.set (p - 1) (own_d (u % 10)))) 85 d22_84 A1 (by rw [hpos1]; exact own_lenn (by omega)) (by rw [hpos1]; exact own_lenN (by omega)) (by first | omega | (simp only [List.length_set]; omega)) (by rw [show (nar .byte (own_d (u % 10))) = (own_d (u % 10)) from own_nard (by omega)]) ge_b rfl (fun h2 W3 A4 => ?_)
      have f5 : Sta Z h2 "java/lang/Integer" "DigitOnes" "[B" (.ref r1) := S1.wr W3
      have f6 : Ari Z h2 r1 .byte own_ones := T1.other W3 (Ne.symm ne1)
      have f7 : Sta Z h2 "java/lang/Integer" "DigitTens" "[B" (.ref r2) := S2.wr W3
      have f8 : Ari Z h2 r2 .byte own_tens := T2.other W3 (Ne.symm ne2)
      have zs9 : Z.heap.size ≤ h2.size := W3.size ▸ hz1
      have kp10 : Keep h h2 [b] := K1.wr W3 (Or.inl (by simp))
      refine Go.iload_n 86 d22_85 rfl rfl ?_
      refine Go.bipush 88 (-9) d22_86 (by decide) rfl ?_
      refine Go.icmp_ge 104 91 d22_88 (by decide) (by decide) rfl (fun c11 => ?_) (fun c11 => ?_)
      ·
        refine Go.iload 106 d22_104 rfl rfl ?_
        refine Go.if_eq 118 109 d22_106 (by decide) (by decide) rfl (fun _ => ?_) (fun c => absurd c (by decide))
        refine Go.iload 120 d22_118 rfl rfl ?_
        refine Go.ireturn d22_120 rfl (by decide) (by decide) ?_
        simp only [own_lt32, hi, own_m09] at c11
        have e1 : own_decN 0 u = [own_d (u % 10)] := own_dec1 (by omega)
        rw [e1] at hT
        refine ⟨trivial, kp10, ?_⟩
        rw [hT]
        exact (own_fin1 (by omega) hpx) ▸ A4
      ·
        simp only [own_lt32, hi, own_m09] at c11
        have e2 : own_decN 0 u = [own_d (u / 10), own_d (u % 10)] := own_dec2 hu100 (by omega)
        have hl2 : (own_decN 0 u).length = 2 := by rw [e2]; rfl
        have hpos2 : pos + (-1 : Int32) + (-1 : Int32) = (p - 2).toInt32 := own_posd2 hpos (by omega) (by omega)
        refine Go.aload_n 92 d22_91 rfl rfl rfl ?_
        refine Go.iinc 95 (-1) #[.val (.int i), .val (.int e), .val (.ref b), u3, u4, .val (.int ((pos + (-1 : Int32)) + (-1 : Int32))), .val (.int (0 : Int32))] d22_92 (by decide) rfl rfl rfl ?_
        refine Go.iload 97 d22_95 rfl rfl ?_
        refine Go.getstatic 100 d22_97 (tw121 hw) f7 rfl ?_
        refine Go.iload_n 101 d22_100 rfl rfl ?_
        refine Go.ineg 102 d22_101 rfl ?_
        refine Go.baload (x := (own_d (u / 10))) (u) 103 d22_102 f8 hn.1 hn.2 (own_tensq hu100) rfl ?_
        refine Go.bastore ((p - 2)) (((xs.set (p - 1) (own_d (u % 10))).set (p - 2) (own_d (u / 10)))) 104 d22_103 A4 (by rw [hpos2]; exact own_lenn (by omega)) (by rw [hpos2]; exact own_lenN (by omega)) (by first | omega | (simp only [List.length_set]; omega)) (by rw [show (nar .byte (own_d (u / 10))) = (own_d (u / 10)) from own_nard (by omega)]) ge_b rfl (fun h13 W14 A15 => ?_)
        have f16 : Sta Z h13 "java/lang/Integer" "DigitOnes" "[B" (.ref r1) := f5.wr W14
        have f17 : Ari Z h13 r1 .byte own_ones := f6.other W14 (Ne.symm ne1)
        have f18 : Sta Z h13 "java/lang/Integer" "DigitTens" "[B" (.ref r2) := f7.wr W14
        have f19 : Ari Z h13 r2 .byte own_tens := f8.other W14 (Ne.symm ne2)
        have zs20 : Z.heap.size ≤ h13.size := W14.size ▸ zs9
        have kp21 : Keep h h13 [b] := kp10.wr W14 (Or.inl (by simp))
        refine Go.iload 106 d22_104 rfl rfl ?_
        refine Go.if_eq 118 109 d22_106 (by decide) (by decide) rfl (fun _ => ?_) (fun c => absurd c (by decide))
        refine Go.iload 120 d22_118 rfl rfl ?_
        refine Go.ireturn d22_120 rfl (by decide) (by decide) ?_
        rw [e2] at hT
        refine ⟨trivial, kp21, ?_⟩
        rw [hT]
        exact (own_fin2 (by omega) hpx) ▸ A15
    ·
      have hu1 : u < 100 := hu
      have cc := c1
      simp only [own_lt32, hi, own_m100] at cc
      omega
  | succ k ih =>
    intro u p i pos xs u3 u4 h1 hz1 K1 A1 S1 T1 S2 T2 hu3 hu4 hi hu hub hpos hp hpx hxl hT
    refine Go.iload_n 23 d22_22 rfl rfl ?_
    refine Go.bipush 25 (-100) d22_23 (by decide) rfl ?_
    refine Go.icmp_gt 72 28 d22_25 (by decide) (by decide) rfl (fun c1 => ?_) (fun c1 => ?_)
    ·
      simp only [own_lt32, hi, own_m100] at c1
      have hu100 : u < 100 := by omega
      have hn := own_negix hi hu100
      have hl1 := own_decpos (k + 1) u
      have hpos1 : pos + (-1 : Int32) = (p - 1).toInt32 := own_posd hpos (by omega) (by omega)
      refine Go.aload_n 73 d22_72 rfl rfl rfl ?_
      refine Go.iinc 76 (-1) #[.val (.int i), .val (.int e), .val (.ref b), u3, u4, .val (.int (pos + (-1 : Int32))), .val (.int (0 : Int32))] d22_73 (by decide) rfl rfl rfl ?_
      refine Go.iload 78 d22_76 rfl rfl ?_
      refine Go.getstatic 81 d22_78 (tw120 hw) S1 rfl ?_
      refine Go.iload_n 82 d22_81 rfl rfl ?_
      refine Go.ineg 83 d22_82 rfl ?_
      refine Go.baload (x := (own_d (u % 10))) (u) 84 d22_83 T1 hn.1 hn.2 (own_onesq hu100) rfl ?_
      refine Go.bastore ((p - 1)) ((xs.set (p - 1) (own_d (u % 10)))) 85 d22_84 A1 (by rw [hpos1]; exact own_lenn (by omega)) (by rw [hpos1]; exact own_lenN (by omega)) (by first | omega | (simp only [List.length_set]; omega)) (by rw [show (nar .byte (own_d (u % 10))) = (own_d (u % 10)) from own_nard (by omega)]) ge_b rfl (fun h2 W3 A4 => ?_)
      have f5 : Sta Z h2 "java/lang/Integer" "DigitOnes" "[B" (.ref r1) := S1.wr W3
      have f6 : Ari Z h2 r1 .byte own_ones := T1.other W3 (Ne.symm ne1)
      have f7 : Sta Z h2 "java/lang/Integer" "DigitTens" "[B" (.ref r2) := S2.wr W3
      have f8 : Ari Z h2 r2 .byte own_tens := T2.other W3 (Ne.symm ne2)
      have zs9 : Z.heap.size ≤ h2.size := W3.size ▸ hz1
      have kp10 : Keep h h2 [b] := K1.wr W3 (Or.inl (by simp))
      refine Go.iload_n 86 d22_85 rfl rfl ?_
      refine Go.bipush 88 (-9) d22_86 (by decide) rfl ?_
      refine Go.icmp_ge 104 91 d22_88 (by decide) (by decide) rfl (fun c11 => ?_) (fun c11 => ?_)
      ·
        refine Go.iload 106 d22_104 rfl rfl ?_
        refine Go.if_eq 118 109 d22_106 (by decide) (by decide) rfl (fun _ => ?_) (fun c => absurd c (by decide))
        refine Go.iload 120 d22_118 rfl rfl ?_
        refine Go.ireturn d22_120 rfl (by decide) (by decide) ?_
        simp only [own_lt32, hi, own_m09] at c11
        have e1 : own_decN (k + 1) u = [own_d (u % 10)] := own_dec1 (by omega)
        rw [e1] at hT
        refine ⟨trivial, kp10, ?_⟩
        rw [hT]
        exact (own_fin1 (by omega) hpx) ▸ A4
      ·
        simp only [own_lt32, hi, own_m09] at c11
        have e2 : own_decN (k + 1) u = [own_d (u / 10), own_d (u % 10)] := own_dec2 hu100 (by omega)
        have hl2 : (own_decN (k + 1) u).length = 2 := by rw [e2]; rfl
        have hpos2 : pos + (-1 : Int32) + (-1 : Int32) = (p - 2).toInt32 := own_posd2 hpos (by omega) (by omega)
        refine Go.aload_n 92 d22_91 rfl rfl rfl ?_
        refine Go.iinc 95 (-1) #[.val (.int i), .val (.int e), .val (.ref b), u3, u4, .val (.int ((pos + (-1 : Int32)) + (-1 : Int32))), .val (.int (0 : Int32))] d22_92 (by decide) rfl rfl rfl ?_
        refine Go.iload 97 d22_95 rfl rfl ?_
        refine Go.getstatic 100 d22_97 (tw121 hw) f7 rfl ?_
        refine Go.iload_n 101 d22_100 rfl rfl ?_
        refine Go.ineg 102 d22_101 rfl ?_
        refine Go.baload (x := (own_d (u / 10))) (u) 103 d22_102 f8 hn.1 hn.2 (own_tensq hu100) rfl ?_
        refine Go.bastore ((p - 2)) (((xs.set (p - 1) (own_d (u % 10))).set (p - 2) (own_d (u / 10)))) 104 d22_103 A4 (by rw [hpos2]; exact own_lenn (by omega)) (by rw [hpos2]; exact own_lenN (by omega)) (by first | omega | (simp only [List.length_set]; omega)) (by rw [show (nar .byte (own_d (u / 10))) = (own_d (u / 10)) from own_nard (by omega)]) ge_b rfl (fun h13 W14 A15 => ?_)
        have f16 : Sta Z h13 "java/lang/Integer" "DigitOnes" "[B" (.ref r1) := f5.wr W14
        have f17 : Ari Z h13 r1 .byte own_ones := f6.other W14 (Ne.symm ne1)
        have f18 : Sta Z h13 "java/lang/Integer" "DigitTens" "[B" (.ref r2) := f7.wr W14
        have f19 : Ari Z h13 r2 .byte own_tens := f8.other W14 (Ne.symm ne2)
        have zs20 : Z.heap.size ≤ h13.size := W14.size ▸ zs9
        have kp21 : Keep h h13 [b] := kp10.wr W14 (Or.inl (by simp))
        refine Go.iload 106 d22_104 rfl rfl ?_
        refine Go.if_eq 118 109 d22_106 (by decide) (by decide) rfl (fun _ => ?_) (fun c => absurd c (by decide))
        refine Go.iload 120 d22_118 rfl rfl ?_
        refine Go.ireturn d22_120 rfl (by decide) (by decide) ?_
        rw [e2] at hT
        refine ⟨trivial, kp21, ?_⟩
        rw [hT]
        exact (own_fin2 (by omega) hpx) ▸ A15
    ·
      have cc := c1
      simp only [own_lt32, hi, own_m100] at cc
      have hge : 100 ≤ u := by omega
      have hr := own_rix hi hub
      have hq := own_qv hi hub
      have eS := own_decS (k := k) hge
      have hl3 : (own_decN (k + 1) u).length = (own_decN k (u / 100)).length + 2 := by rw [eS, List.length_append]; rfl
      have hpos1 : pos + (-1 : Int32) = (p - 1).toInt32 := own_posd hpos (by omega) (by omega)
      have hpos2 : pos + (-1 : Int32) + (-1 : Int32) = (p - 2).toInt32 := own_posd2 hpos (by omega) (by omega)
      refine Go.iload_n 29 d22_28 rfl rfl ?_
      refine Go.bipush 31 (100) d22_29 (by decide) rfl ?_
      refine Go.idiv 32 d22_31 (by decide) rfl ?_
      refine Go.istoreNS 33 #[.val (.int i), .val (.int e), .val (.ref b), .val (.int (i / (100 : Int32))), u4, .val (.int pos), .val (.int (0 : Int32))] d22_32 rfl hu3 rfl rfl ?_
      refine Go.iload_n 34 d22_33 rfl rfl ?_
      refine Go.bipush 36 (100) d22_34 (by decide) rfl ?_
      refine Go.imul 37 d22_36 rfl ?_
      refine Go.iload_n 38 d22_37 rfl rfl ?_
      refine Go.isub 39 d22_38 rfl ?_
      refine Go.istoreS 41 #[.val (.int i), .val (.int e), .val (.ref b), .val (.int (i / (100 : Int32))), .val (.int (((i / (100 : Int32)) * (100 : Int32)) - i)), .val (.int pos), .val (.int (0 : Int32))] d22_39 rfl hu4 rfl rfl ?_
      refine Go.iload_n 42 d22_41 rfl rfl ?_
      refine Go.istore_n 43 #[.val (.int (i / (100 : Int32))), .val (.int e), .val (.ref b), .val (.int (i / (100 : Int32))), .val (.int (((i / (100 : Int32)) * (100 : Int32)) - i)), .val (.int pos), .val (.int (0 : Int32))] d22_42 rfl rfl ?_
      refine Go.aload_n 44 d22_43 rfl rfl rfl ?_
      refine Go.iinc 47 (-1) #[.val (.int (i / (100 : Int32))), .val (.int e), .val (.ref b), .val (.int (i / (100 : Int32))), .val (.int (((i / (100 : Int32)) * (100 : Int32)) - i)), .val (.int (pos + (-1 : Int32))), .val (.int (0 : Int32))] d22_44 (by decide) rfl rfl rfl ?_
      refine Go.iload 49 d22_47 rfl rfl ?_
      refine Go.getstatic 52 d22_49 (tw120 hw) S1 rfl ?_
      refine Go.iload 54 d22_52 rfl rfl ?_
      refine Go.baload (x := (own_d ((u % 100) % 10))) ((u % 100)) 55 d22_54 T1 hr.1 hr.2 (own_onesq (by omega)) rfl ?_
      refine Go.bastore ((p - 1)) ((xs.set (p - 1) (own_d (u % 100 % 10)))) 56 d22_55 A1 (by rw [hpos1]; exact own_lenn (by omega)) (by rw [hpos1]; exact own_lenN (by omega)) (by first | omega | (simp only [List.length_set]; omega)) (by rw [show (nar .byte (own_d ((u % 100) % 10))) = (own_d (u % 100 % 10)) from own_nard (by omega)]) ge_b rfl (fun h23 W24 A25 => ?_)
      have f26 : Sta Z h23 "java/lang/Integer" "DigitOnes" "[B" (.ref r1) := S1.wr W24
      have f27 : Ari Z h23 r1 .byte own_ones := T1.other W24 (Ne.symm ne1)
      have f28 : Sta Z h23 "java/lang/Integer" "DigitTens" "[B" (.ref r2) := S2.wr W24
      have f29 : Ari Z h23 r2 .byte own_tens := T2.other W24 (Ne.symm ne2)
      have zs30 : Z.heap.size ≤ h23.size := W24.size ▸ hz1
      have kp31 : Keep h h23 [b] := K1.wr W24 (Or.inl (by simp))
      refine Go.aload_n 57 d22_56 rfl rfl rfl ?_
      refine Go.iinc 60 (-1) #[.val (.int (i / (100 : Int32))), .val (.int e), .val (.ref b), .val (.int (i / (100 : Int32))), .val (.int (((i / (100 : Int32)) * (100 : Int32)) - i)), .val (.int ((pos + (-1 : Int32)) + (-1 : Int32))), .val (.int (0 : Int32))] d22_57 (by decide) rfl rfl rfl ?_
      refine Go.iload 62 d22_60 rfl rfl ?_
      refine Go.getstatic 65 d22_62 (tw121 hw) f28 rfl ?_
      refine Go.iload 67 d22_65 rfl rfl ?_
      refine Go.baload (x := (own_d ((u % 100) / 10))) ((u % 100)) 68 d22_67 f29 hr.1 hr.2 (own_tensq (by omega)) rfl ?_
      refine Go.bastore ((p - 2)) (((xs.set (p - 1) (own_d (u % 100 % 10))).set (p - 2) (own_d (u % 100 / 10)))) 69 d22_68 A25 (by rw [hpos2]; exact own_lenn (by omega)) (by rw [hpos2]; exact own_lenN (by omega)) (by first | omega | (simp only [List.length_set]; omega)) (by rw [show (nar .byte (own_d ((u % 100) / 10))) = (own_d (u % 100 / 10)) from own_nard (by omega)]) ge_b rfl (fun h32 W33 A34 => ?_)
      have f35 : Sta Z h32 "java/lang/Integer" "DigitOnes" "[B" (.ref r1) := f26.wr W33
      have f36 : Ari Z h32 r1 .byte own_ones := f27.other W33 (Ne.symm ne1)
      have f37 : Sta Z h32 "java/lang/Integer" "DigitTens" "[B" (.ref r2) := f28.wr W33
      have f38 : Ari Z h32 r2 .byte own_tens := f29.other W33 (Ne.symm ne2)
      have zs39 : Z.heap.size ≤ h32.size := W33.size ▸ zs30
      have kp40 : Keep h h32 [b] := kp31.wr W33 (Or.inl (by simp))
      refine Go.goto 22 d22_69 (by decide) (by decide) ?_
      rw [eS] at hT
      exact (ih (u / 100) (p - 2) _ _ _ _ _ h32 zs39 kp40 A34 f35 f36 f37 f38 (Or.inr ⟨_, rfl, rfl⟩) (Or.inr ⟨_, rfl, rfl⟩) hq (own_hu hu) (by omega) hpos2 (by omega) (by simp only [List.length_set]; omega) (by simp only [List.length_set]; exact hxl) (hT.trans (own_putstep (by omega) hpx))).le (by decide) (by decide)

theorem ef_k_gc (m : MethodId) (x0 : Int32) (x1 : Int32) (x2 : Addr) : entryFrame m #[(.int x0), (.int x1), (.ref x2)] 7 = mkF m 0 #[.val (.int x0), .val (.int x1), .val (.ref x2), .unset, .unset, .unset, .unset] [] := by first | (simp [entryFrame, mkF, argsToLocals, Value.category]; done) | rfl

set_option maxRecDepth 65536 in
set_option maxHeartbeats 40000000 in
theorem k_gc {l : Launch} {Z : State} {a0 : Array Value} (hw : ∀ d ∈ tables_1, d.before a0 Z = true) {xs : List Int32} {r1 : Addr} {r2 : Addr} {E : Nat} (h : Heap) (hz : Z.heap.size ≤ h.size) (v : Int32) (e : Int32) (b : Addr) (fa0 : Ari Z h b .byte xs) (fa1 : Sta Z h "java/lang/Integer" "DigitOnes" "[B" (.ref r1)) (fa2 : Ari Z h r1 .byte own_ones) (fa3 : Sta Z h "java/lang/Integer" "DigitTens" "[B" (.ref r2)) (fa4 : Ari Z h r2 .byte own_tens) (hv : 0 < v.toInt) (he : e = E.toInt32) (hlen : (own_dec v).length ≤ E) (hEx : E ≤ xs.length) (hxl : xs.length ≤ 40) (ge_b : Z.heap.size ≤ b) (ne_b_r1 : b ≠ r1) (ne_b_r2 : b ≠ r2) : Go l Z (⟨"java/lang/Integer", "getChars", "(II[B)I"⟩ : MethodName) jdk_33_method_12_code 7 (Option.some Jvm.ClassFile.FieldType.int) ({ frames := 0, cells := 0, slots := 0, locals := 0 } : Room) (QI fun rz h' => True ∧ Keep h h' [b] ∧ Ari Z h' b .byte (xs.take (E - (own_dec v).length) ++ own_dec v ++ xs.drop E)) 0 0 h 0 #[.val (.int v), .val (.int e), .val (.ref b), .unset, .unset, .unset, .unset] [] := by
  have kp0 : Keep h h [b] := Keep.refl _ _
  refine Go.iload_n 1 d22_0 rfl rfl ?_
  refine Go.istore 3 #[.val (.int v), .val (.int e), .val (.ref b), .unset, .unset, .val (.int e), .unset] d22_1 rfl rfl ?_
  refine Go.iload_n 4 d22_3 rfl rfl ?_
  refine Go.if_ge 11 7 d22_4 (by decide) (by decide) rfl (fun c1 => ?_) (fun c1 => ?_)
  ·
    refine Go.iconst 12 (0) d22_11 (by decide) rfl ?_
    refine Go.istore 14 #[.val (.int v), .val (.int e), .val (.ref b), .unset, .unset, .val (.int e), .val (.int (0 : Int32))] d22_12 rfl rfl ?_
    refine Go.iload 16 d22_14 rfl rfl ?_
    refine Go.if_ne 22 19 d22_16 (by decide) (by decide) rfl (fun c => absurd c (by decide)) (fun _ => ?_)
    refine Go.iload_n 20 d22_19 rfl rfl ?_
    refine Go.ineg 21 d22_20 rfl ?_
    refine Go.istore_n 22 #[.val (.int (-v)), .val (.int e), .val (.ref b), .unset, .unset, .val (.int e), .val (.int (0 : Int32))] d22_21 rfl rfl ?_
    exact (k_gl hw h b r1 r2 e (xs.take (E - (own_dec v).length) ++ own_dec v ++ xs.drop E) ge_b ne_b_r1 ne_b_r2 4 v.toInt.toNat E (-v) e xs .unset .unset h hz kp0 fa0 fa1 fa2 fa3 fa4 (Or.inl rfl) (Or.inl rfl) (own_negu hv) (own_u5 v) (own_u31 v) he hlen hEx hxl rfl).le (by decide) (by decide)
  ·
    exact absurd c1 (own_pos0 hv)

theorem d19_0 : decode jdk_68_method_32_code 0 = .ok (.aload_n 0, 1) := by decide +kernel
theorem d19_1 : decode jdk_68_method_32_code 1 = .ok (.getfield 79, 3) := by decide +kernel
theorem d19_4 : decode jdk_68_method_32_code 4 = .ok (.istore_n 2, 1) := by decide +kernel
theorem d19_5 : decode jdk_68_method_32_code 5 = .ok (.iload_n 2, 1) := by decide +kernel
theorem d19_6 : decode jdk_68_method_32_code 6 = .ok (.iload_n 1, 1) := by decide +kernel
theorem d19_7 : decode jdk_68_method_32_code 7 = .ok (.invokestatic 245, 3) := by decide +kernel
theorem d19_10 : decode jdk_68_method_32_code 10 = .ok (.iadd, 1) := by decide +kernel
theorem d19_11 : decode jdk_68_method_32_code 11 = .ok (.istore_n 3, 1) := by decide +kernel
theorem d19_12 : decode jdk_68_method_32_code 12 = .ok (.aload_n 0, 1) := by decide +kernel
theorem d19_13 : decode jdk_68_method_32_code 13 = .ok (.iload_n 3, 1) := by decide +kernel
theorem d19_14 : decode jdk_68_method_32_code 14 = .ok (.invokevirtual 100, 3) := by decide +kernel
theorem d19_17 : decode jdk_68_method_32_code 17 = .ok (.aload_n 0, 1) := by decide +kernel
theorem d19_18 : decode jdk_68_method_32_code 18 = .ok (.invokevirtual 83, 3) := by decide +kernel
theorem d19_21 : decode jdk_68_method_32_code 21 = .ok (.ifCond .eq 16, 3) := by decide +kernel
theorem d19_24 : decode jdk_68_method_32_code 24 = .ok (.iload_n 1, 1) := by decide +kernel
theorem d19_25 : decode jdk_68_method_32_code 25 = .ok (.iload_n 3, 1) := by decide +kernel
theorem d19_26 : decode jdk_68_method_32_code 26 = .ok (.aload_n 0, 1) := by decide +kernel
theorem d19_27 : decode jdk_68_method_32_code 27 = .ok (.getfield 15, 3) := by decide +kernel
theorem d19_30 : decode jdk_68_method_32_code 30 = .ok (.invokestatic 248, 3) := by decide +kernel
theorem d19_33 : decode jdk_68_method_32_code 33 = .ok (.pop, 1) := by decide +kernel
theorem d19_34 : decode jdk_68_method_32_code 34 = .ok (.goto 14, 3) := by decide +kernel
theorem d19_37 : decode jdk_68_method_32_code 37 = .ok (.iload_n 1, 1) := by decide +kernel
theorem d19_38 : decode jdk_68_method_32_code 38 = .ok (.iload_n 2, 1) := by decide +kernel
theorem d19_39 : decode jdk_68_method_32_code 39 = .ok (.iload_n 3, 1) := by decide +kernel
theorem d19_40 : decode jdk_68_method_32_code 40 = .ok (.aload_n 0, 1) := by decide +kernel
theorem d19_41 : decode jdk_68_method_32_code 41 = .ok (.getfield 15, 3) := by decide +kernel
theorem d19_44 : decode jdk_68_method_32_code 44 = .ok (.invokestatic 251, 3) := by decide +kernel
theorem d19_47 : decode jdk_68_method_32_code 47 = .ok (.pop, 1) := by decide +kernel
theorem d19_48 : decode jdk_68_method_32_code 48 = .ok (.aload_n 0, 1) := by decide +kernel
theorem d19_49 : decode jdk_68_method_32_code 49 = .ok (.iload_n 3, 1) := by decide +kernel
theorem d19_50 : decode jdk_68_method_32_code 50 = .ok (.putfield 79, 3) := by decide +kernel
theorem d19_53 : decode jdk_68_method_32_code 53 = .ok (.aload_n 0, 1) := by decide +kernel
theorem d19_54 : decode jdk_68_method_32_code 54 = .ok (.areturn, 1) := by decide +kernel

theorem pd19 : parseMethodDescriptor "(I)Ljava/lang/AbstractStringBuilder;" = some ⟨[.int], some (.object "java/lang/AbstractStringBuilder")⟩ := by decide +kernel
theorem pl19 : plainFor (⟨"java/lang/AbstractStringBuilder", "append", "(I)Ljava/lang/AbstractStringBuilder;"⟩ : MethodName) = true := by first | exact plainFor_of_name (by first | (simp [plainName, overriddenIn]; done) | decide +kernel) | decide +kernel

theorem ef_k_aiA (m : MethodId) (x0 : Addr) (x1 : Int32) : entryFrame m #[(.ref x0), (.int x1)] 4 = mkF m 0 #[.val (.ref x0), .val (.int x1), .unset, .unset] [] := by first | (simp [entryFrame, mkF, argsToLocals, Value.category]; done) | rfl

set_option maxRecDepth 65536 in
set_option maxHeartbeats 40000000 in
theorem k_aiA {l : Launch} {Z : State} {a0 : Array Value} (hw : ∀ d ∈ tables_1, d.before a0 Z = true) {am : Addr} {xs : List Int32} {cs : List Int32} {cz : Int32} {r1 : Addr} {r2 : Addr} (h : Heap) (hz : Z.heap.size ≤ h.size) (a : Addr) (v : Int32) (fa0 : Exa Z h a "java/lang/StringBuilder") (fa1 : Fld Z h a "java/lang/AbstractStringBuilder" "value" "[B" (.ref am)) (fa2 : Fld Z h a "java/lang/AbstractStringBuilder" "coder" "B" (.int (0 : Int32))) (fa3 : Fld Z h a "java/lang/AbstractStringBuilder" "count" "I" (.int (List.length cs).toInt32)) (fa4 : Ari Z h am .byte xs) (fa5 : Exa Z h am "[B") (fa6 : Sta Z h "java/lang/String" "COMPACT_STRINGS" "Z" (.int cz)) (fa7 : Sta Z h "java/lang/Integer" "DigitOnes" "[B" (.ref r1)) (fa8 : Ari Z h r1 .byte own_ones) (fa9 : Sta Z h "java/lang/Integer" "DigitTens" "[B" (.ref r2)) (fa10 : Ari Z h r2 .byte own_tens) (ok : own_cap xs cs) (hcz : ¬ cz = (0 : Int32)) (hv : 0 < v.toInt) (hn : cs.length + own_nd v ≤ 32) (o1 : r1 < Z.heap.size) (o2 : r2 < Z.heap.size) (ge_a : Z.heap.size ≤ a) (ge_am : Z.heap.size ≤ am) (ne_a_am : a ≠ am) (ne_am_r1 : am ≠ r1) (ne_am_r2 : am ≠ r2) (ne_a_r1 : a ≠ r1) (ne_a_r2 : a ≠ r2) : Go l Z (⟨"java/lang/AbstractStringBuilder", "append", "(I)Ljava/lang/AbstractStringBuilder;"⟩ : MethodName) jdk_68_method_32_code 4 (Option.some (Jvm.ClassFile.FieldType.object "java/lang/AbstractStringBuilder")) ({ frames := 4, cells := 1, slots := 34, locals := 100 } : Room) (QR fun rz h' => rz = .ref a ∧ Keep h h' [a, am] ∧ Exa Z h' a "java/lang/StringBuilder" ∧ Fld Z h' a "java/lang/AbstractStringBuilder" "coder" "B" (.int (0 : Int32)) ∧ Fld Z h' a "java/lang/AbstractStringBuilder" "count" "I" (.int (List.length (cs ++ own_dec v)).toInt32) ∧ (∃ am' : Addr, ∃ xs' : List Int32, Fld Z h' a "java/lang/AbstractStringBuilder" "value" "[B" (.ref am') ∧ Ari Z h' am' .byte xs' ∧ Exa Z h' am' "[B" ∧ a ≠ am' ∧ Z.heap.size ≤ am' ∧ own_cap xs' (cs ++ own_dec v) ∧ (am' = am ∨ h.size ≤ am'))) 0 0 h 0 #[.val (.ref a), .val (.int v), .unset, .unset] [] := by
  have kp0 : Keep h h [a, am] := Keep.refl _ _
  refine Go.aload_n 1 d19_0 rfl rfl rfl ?_
  refine Go.getfield 4 d19_1 (tw61 hw) fa3 rfl ?_
  refine Go.istore_n 5 #[.val (.ref a), .val (.int v), .val (.int (List.length cs).toInt32), .unset] d19_4 rfl rfl ?_
  refine Go.iload_n 6 d19_5 rfl rfl ?_
  refine Go.iload_n 7 d19_6 rfl rfl ?_
  refine Go.callSIp [.int v] [.int (List.length cs).toInt32] 10 d19_7 (tw107 hw) (tw108 hw) (tw109 hw) (tw110 hw) pl20 (by decide) (lenOf pd20 rfl) rfl (fun m => ef_k_sz m v) _ (k_sz hw h hz v (by assumption)) 1 rfl (Nat.le_of_eq rfl) (by decide) (by decide) (by decide) (by decide) rfl ?_
  refine Go.iadd 11 d19_10 rfl ?_
  refine Go.istore_n 12 #[.val (.ref a), .val (.int v), .val (.int (List.length cs).toInt32), .val (.int ((List.length cs).toInt32 + ((own_nd v).toInt32)))] d19_11 rfl rfl ?_
  refine Go.aload_n 13 d19_12 rfl rfl rfl ?_
  refine Go.iload_n 14 d19_13 rfl rfl ?_
  refine Go.callQV [.int ((List.length cs).toInt32 + ((own_nd v).toInt32))] [] 17 d19_14 (tw111 hw) (tw113 hw) (own_selp (tw50 hw) rfl (tw112 hw) (tw113 hw) (by decide)) (tw112 hw) (tw20 hw) (tw115 hw) fa0 pl21 (by decide) (lenOf pd21 rfl) rfl (fun m => ef_k_ens m a ((List.length cs).toInt32 + ((own_nd v).toInt32))) _ (k_ens (N := (cs.length + own_nd v)) hw h hz a (((List.length cs).toInt32 + ((own_nd v).toInt32))) fa0 fa1 fa2 fa3 fa4 fa5 (by assumption) (own_ladd (by omega)) hn ge_a ge_am ne_a_am) 0 rfl (Nat.le_of_eq rfl) (by decide) (by decide) (by decide) (by decide) rfl ?_
  rintro h5 ⟨p10, K6, f7, f8, f9⟩
  have f11 : Ari Z h5 am .byte xs := fa4.keep K6 (ninS (Ne.symm ne_a_am) nin0)
  have f12 : Exa Z h5 am "[B" := fa5.keep K6
  have f13 : Sta Z h5 "java/lang/String" "COMPACT_STRINGS" "Z" (.int cz) := own_staK fa6 K6 (allS (own_nost fa0) all0)
  have f14 : Sta Z h5 "java/lang/Integer" "DigitOnes" "[B" (.ref r1) := own_staK fa7 K6 (allS (own_nost fa0) all0)
  have f15 : Ari Z h5 r1 .byte own_ones := fa8.keep K6 (ninS (Ne.symm ne_a_r1) nin0)
  have f16 : Sta Z h5 "java/lang/Integer" "DigitTens" "[B" (.ref r2) := own_staK fa9 K6 (allS (own_nost fa0) all0)
  have f17 : Ari Z h5 r2 .byte own_tens := fa10.keep K6 (ninS (Ne.symm ne_a_r2) nin0)
  have zs18 : Z.heap.size ≤ h5.size := Nat.le_trans hz K6.1
  have kp19 : Keep h h5 [a, am] := kp0.trans K6 (allS (Or.inl (by simp)) all0)
  obtain ⟨am19, xs19, fe19, ar19, eb19, na19, ga19, ok19, px19_0, px19_1⟩ := p10
  have ne21 : am19 ≠ r1 := Nat.ne_of_gt (Nat.lt_of_lt_of_le o1 ga19)
  have ne22 : am19 ≠ r2 := Nat.ne_of_gt (Nat.lt_of_lt_of_le o2 ga19)
  refine Go.aload_n 18 d19_17 rfl rfl rfl ?_
  refine Go.callVIp [] [] 21 d19_18 (tw116 hw) (tw64 hw) (tw66 hw) (tw65 hw) (tw20 hw) (tw67 hw) f7 pl12 (by decide) (lenOf pd12 rfl) rfl (fun m => ef_k_l1 m a) _ (k_l1 hw h5 zs18 a f13 f8 (by assumption)) 0 rfl (Nat.le_of_eq rfl) (by decide) (by decide) (by decide) (by decide) rfl ?_
  refine Go.if_eq 37 24 d19_21 (by decide) (by decide) rfl (fun c => absurd c (by decide)) (fun _ => ?_)
  refine Go.iload_n 25 d19_24 rfl rfl ?_
  refine Go.iload_n 26 d19_25 rfl rfl ?_
  refine Go.aload_n 27 d19_26 rfl rfl rfl ?_
  refine Go.getfield 30 d19_27 (tw28 hw) fe19 rfl ?_
  refine Go.callSI [.int v, .int ((List.length cs).toInt32 + ((own_nd v).toInt32)), .ref am19] [] 33 d19_30 (tw117 hw) (tw118 hw) (tw109 hw) (tw119 hw) pl22 (by decide) (lenOf pd22 rfl) rfl (fun m => ef_k_gc m v ((List.length cs).toInt32 + ((own_nd v).toInt32)) am19) _ (k_gc (E := (cs.length + own_nd v)) hw h5 zs18 v (((List.length cs).toInt32 + ((own_nd v).toInt32))) am19 ar19 f14 f15 f16 f17 (by assumption) (own_ladd (by omega)) (by rw [own_declen hv]; omega) px19_0 (own_cap40 ok19) ga19 ne21 ne22) 0 rfl (Nat.le_of_eq rfl) (by decide) (by decide) (by decide) (by decide) rfl ?_
  rintro z27 h28 ⟨p31, K29, f30⟩
  have f32 : Sta Z h28 "java/lang/String" "COMPACT_STRINGS" "Z" (.int cz) := own_staK f13 K29 (allS (Ari.nostat ar19) all0)
  have f33 : Sta Z h28 "java/lang/Integer" "DigitOnes" "[B" (.ref r1) := own_staK f14 K29 (allS (Ari.nostat ar19) all0)
  have f34 : Ari Z h28 r1 .byte own_ones := f15.keep K29 (ninS (Ne.symm ne21) nin0)
  have f35 : Sta Z h28 "java/lang/Integer" "DigitTens" "[B" (.ref r2) := own_staK f16 K29 (allS (Ari.nostat ar19) all0)
  have f36 : Ari Z h28 r2 .byte own_tens := f17.keep K29 (ninS (Ne.symm ne22) nin0)
  have f37 : Exa Z h28 a "java/lang/StringBuilder" := f7.keep K29
  have f38 : Fld Z h28 a "java/lang/AbstractStringBuilder" "coder" "B" (.int (0 : Int32)) := f8.keep K29 (ninS na19 nin0)
  have f39 : Fld Z h28 a "java/lang/AbstractStringBuilder" "count" "I" (.int (List.length cs).toInt32) := f9.keep K29 (ninS na19 nin0)
  have f40 : Fld Z h28 a "java/lang/AbstractStringBuilder" "value" "[B" (.ref am19) := fe19.keep K29 (ninS na19 nin0)
  have f41 : Exa Z h28 am19 "[B" := eb19.keep K29
  have zs42 : Z.heap.size ≤ h28.size := Nat.le_trans zs18 K29.1
  have kp43 : Keep h h28 [a, am] := kp19.trans K29 (allS (px19_1.elim (fun e => e.symm ▸ (Or.inl (by simp))) (fun q => Or.inr (Nat.le_trans kp0.1 q))) all0)
  refine Go.pop 34 d19_33 rfl rfl ?_
  refine Go.goto 48 d19_34 (by decide) (by decide) ?_
  refine Go.aload_n 49 d19_48 rfl rfl rfl ?_
  refine Go.iload_n 50 d19_49 rfl rfl ?_
  refine Go.putfield (ty := .int) 53 d19_50 (tw61 hw) f39 f37 (Or.inl (tw62 hw)) (tw11 hw) (by decide) rfl rfl ge_a rfl (fun h44 W45 => ?_)
  have f46 : Sta Z h44 "java/lang/String" "COMPACT_STRINGS" "Z" (.int cz) := f32.wr W45
  have f47 : Sta Z h44 "java/lang/Integer" "DigitOnes" "[B" (.ref r1) := f33.wr W45
  have f48 : Ari Z h44 r1 .byte own_ones := f34.other W45 (Ne.symm ne_a_r1)
  have f49 : Sta Z h44 "java/lang/Integer" "DigitTens" "[B" (.ref r2) := f35.wr W45
  have f50 : Ari Z h44 r2 .byte own_tens := f36.other W45 (Ne.symm ne_a_r2)
  have f51 : Exa Z h44 a "java/lang/StringBuilder" := f37.wr W45
  have f52 : Fld Z h44 a "java/lang/AbstractStringBuilder" "coder" "B" (.int (0 : Int32)) := f38.other W45 (Or.inr (slot_ne (Or.inl (tw31 hw)) (Or.inl (tw62 hw)) (by decide) (by decide +kernel : parseFieldDescriptor "B" = some .byte) (by decide +kernel : parseFieldDescriptor "I" = some .int)))
  have f53 : Fld Z h44 a "java/lang/AbstractStringBuilder" "count" "I" (.int ((List.length cs).toInt32 + ((own_nd v).toInt32))) := f39.same W45
  have f54 : Fld Z h44 a "java/lang/AbstractStringBuilder" "value" "[B" (.ref am19) := f40.other W45 (Or.inr (slot_ne (Or.inl (tw29 hw)) (Or.inl (tw62 hw)) (by decide) (by decide +kernel : parseFieldDescriptor "[B" = some (.array .byte)) (by decide +kernel : parseFieldDescriptor "I" = some .int)))
  have f55 : Exa Z h44 am19 "[B" := f41.wr W45
  have f56 : Ari Z h44 am19 .byte (xs19.take ((cs.length + own_nd v) - (own_dec v).length) ++ own_dec v ++ xs19.drop (cs.length + own_nd v)) := f30.other W45 (Ne.symm na19)
  have zs57 : Z.heap.size ≤ h44.size := W45.size ▸ zs42
  have kp58 : Keep h h44 [a, am] := kp43.wr W45 (Or.inl (by simp))
  refine Go.aload_n 54 d19_53 rfl rfl rfl ?_
  refine Go.areturn d19_54 rfl rfl rfl (by decide) (by decide) ?_
  exact ⟨rfl, kp58, f51, f52, (by rw [own_ldec hv (by omega)]; exact f53), am19, _, f54, f56, f55, na19, ga19, own_capdec hv ok19 px19_0, px19_1⟩

theorem d18_0 : decode jdk_67_method_15_code 0 = .ok (.aload_n 0, 1) := by decide +kernel
theorem d18_1 : decode jdk_67_method_15_code 1 = .ok (.iload_n 1, 1) := by decide +kernel
theorem d18_2 : decode jdk_67_method_15_code 2 = .ok (.invokespecial 53, 3) := by decide +kernel
theorem d18_5 : decode jdk_67_method_15_code 5 = .ok (.pop, 1) := by decide +kernel
theorem d18_6 : decode jdk_67_method_15_code 6 = .ok (.aload_n 0, 1) := by decide +kernel
theorem d18_7 : decode jdk_67_method_15_code 7 = .ok (.areturn, 1) := by decide +kernel

theorem pd18 : parseMethodDescriptor "(I)Ljava/lang/StringBuilder;" = some ⟨[.int], some (.object "java/lang/StringBuilder")⟩ := by decide +kernel
theorem pl18 : plainFor (⟨"java/lang/StringBuilder", "append", "(I)Ljava/lang/StringBuilder;"⟩ : MethodName) = true := by first | exact plainFor_of_name (by first | (simp [plainName, overriddenIn]; done) | decide +kernel) | decide +kernel

theorem ef_k_ai (m : MethodId) (x0 : Addr) (x1 : Int32) : entryFrame m #[(.ref x0), (.int x1)] 2 = mkF m 0 #[.val (.ref x0), .val (.int x1)] [] := by first | (simp [entryFrame, mkF, argsToLocals, Value.category]; done) | rfl

set_option maxRecDepth 65536 in
set_option maxHeartbeats 40000000 in
theorem k_ai {l : Launch} {Z : State} {a0 : Array Value} (hw : ∀ d ∈ tables_1, d.before a0 Z = true) {am : Addr} {xs : List Int32} {cs : List Int32} {cz : Int32} {r1 : Addr} {r2 : Addr} (h : Heap) (hz : Z.heap.size ≤ h.size) (a : Addr) (v : Int32) (fa0 : Exa Z h a "java/lang/StringBuilder") (fa1 : Fld Z h a "java/lang/AbstractStringBuilder" "value" "[B" (.ref am)) (fa2 : Fld Z h a "java/lang/AbstractStringBuilder" "coder" "B" (.int (0 : Int32))) (fa3 : Fld Z h a "java/lang/AbstractStringBuilder" "count" "I" (.int (List.length cs).toInt32)) (fa4 : Ari Z h am .byte xs) (fa5 : Exa Z h am "[B") (fa6 : Sta Z h "java/lang/String" "COMPACT_STRINGS" "Z" (.int cz)) (fa7 : Sta Z h "java/lang/Integer" "DigitOnes" "[B" (.ref r1)) (fa8 : Ari Z h r1 .byte own_ones) (fa9 : Sta Z h "java/lang/Integer" "DigitTens" "[B" (.ref r2)) (fa10 : Ari Z h r2 .byte own_tens) (ok : own_cap xs cs) (hcz : ¬ cz = (0 : Int32)) (hv : 0 < v.toInt) (hn : cs.length + own_nd v ≤ 32) (o1 : r1 < Z.heap.size) (o2 : r2 < Z.heap.size) (ge_a : Z.heap.size ≤ a) (ge_am : Z.heap.size ≤ am) (ne_a_am : a ≠ am) (ne_am_r1 : am ≠ r1) (ne_am_r2 : am ≠ r2) (ne_a_r1 : a ≠ r1) (ne_a_r2 : a ≠ r2) : Go l Z (⟨"java/lang/StringBuilder", "append", "(I)Ljava/lang/StringBuilder;"⟩ : MethodName) jdk_67_method_15_code 2 (Option.some (Jvm.ClassFile.FieldType.object "java/lang/StringBuilder")) ({ frames := 5, cells := 1, slots := 34, locals := 120 } : Room) (QR fun rz h' => rz = .ref a ∧ Keep h h' [a, am] ∧ Exa Z h' a "java/lang/StringBuilder" ∧ Fld Z h' a "java/lang/AbstractStringBuilder" "coder" "B" (.int (0 : Int32)) ∧ Fld Z h' a "java/lang/AbstractStringBuilder" "count" "I" (.int (List.length (cs ++ own_dec v)).toInt32) ∧ (∃ am' : Addr, ∃ xs' : List Int32, Fld Z h' a "java/lang/AbstractStringBuilder" "value" "[B" (.ref am') ∧ Ari Z h' am' .byte xs' ∧ Exa Z h' am' "[B" ∧ a ≠ am' ∧ Z.heap.size ≤ am' ∧ own_cap xs' (cs ++ own_dec v) ∧ (am' = am ∨ h.size ≤ am'))) 0 0 h 0 #[.val (.ref a), .val (.int v)] [] := by
  have kp0 : Keep h h [a, am] := Keep.refl _ _
  refine Go.aload_n 1 d18_0 rfl rfl rfl ?_
  refine Go.iload_n 2 d18_1 rfl rfl ?_
  refine Go.callPRe [.int v] [] 5 d18_2 (by decide) (tw103 hw) (own_same (tw50 hw) rfl (tw104 hw) (by decide)) (tw59 hw) (tw104 hw) (tw20 hw) (tw106 hw) fa0 pl19 (by decide) (lenOf pd19 rfl) rfl (fun m => ef_k_aiA m a v) _ _ (k_aiA hw h hz a v fa0 fa1 fa2 fa3 fa4 fa5 fa6 fa7 fa8 fa9 fa10 (by assumption) (by assumption) (by assumption) (by assumption) (by assumption) (by assumption) ge_a ge_am ne_a_am ne_am_r1 ne_am_r2 ne_a_r1 ne_a_r2) 0 rfl (Nat.le_of_eq rfl) (by decide) (by decide) (by decide) (by decide) rfl ?_
  rintro h2 ⟨K3, f4, f5, f6, x7⟩
  have f8 : Exa Z h2 am "[B" := fa5.keep K3
  have f9 : Sta Z h2 "java/lang/String" "COMPACT_STRINGS" "Z" (.int cz) := own_staK fa6 K3 (allS (own_nost fa0) (allS (Ari.nostat fa4) all0))
  have f10 : Sta Z h2 "java/lang/Integer" "DigitOnes" "[B" (.ref r1) := own_staK fa7 K3 (allS (own_nost fa0) (allS (Ari.nostat fa4) all0))
  have f11 : Ari Z h2 r1 .byte own_ones := fa8.keep K3 (ninS (Ne.symm ne_a_r1) (ninS (Ne.symm ne_am_r1) nin0))
  have f12 : Sta Z h2 "java/lang/Integer" "DigitTens" "[B" (.ref r2) := own_staK fa9 K3 (allS (own_nost fa0) (allS (Ari.nostat fa4) all0))
  have f13 : Ari Z h2 r2 .byte own_tens := fa10.keep K3 (ninS (Ne.symm ne_a_r2) (ninS (Ne.symm ne_am_r2) nin0))
  have zs14 : Z.heap.size ≤ h2.size := Nat.le_trans hz K3.1
  have kp15 : Keep h h2 [a, am] := kp0.trans K3 (allS (Or.inl (by simp)) (allS (Or.inl (by simp)) all0))
  obtain ⟨am15, xs15, fe15, ar15, eb15, na15, ga15, ok15, px15_0⟩ := x7
  refine Go.pop 6 d18_5 rfl rfl ?_
  refine Go.aload_n 7 d18_6 rfl rfl rfl ?_
  refine Go.areturn d18_7 rfl rfl rfl (by decide) (by decide) ?_
  exact ⟨rfl, kp15, f4, f5, f6, am15, _, fe15, ar15, eb15, na15, ga15, ok15, px15_0⟩

theorem d4_0 : decode jdk_68_method_2_code 0 = .ok (.aload_n 0, 1) := by decide +kernel
theorem d4_1 : decode jdk_68_method_2_code 1 = .ok (.invokespecial 3, 3) := by decide +kernel
theorem d4_4 : decode jdk_68_method_2_code 4 = .ok (.getstatic 18, 3) := by decide +kernel
theorem d4_7 : decode jdk_68_method_2_code 7 = .ok (.ifCond .eq 18, 3) := by decide +kernel
theorem d4_10 : decode jdk_68_method_2_code 10 = .ok (.aload_n 0, 1) := by decide +kernel
theorem d4_11 : decode jdk_68_method_2_code 11 = .ok (.iload_n 1, 1) := by decide +kernel
theorem d4_12 : decode jdk_68_method_2_code 12 = .ok (.newarray .byte, 2) := by decide +kernel
theorem d4_14 : decode jdk_68_method_2_code 14 = .ok (.putfield 15, 3) := by decide +kernel
theorem d4_17 : decode jdk_68_method_2_code 17 = .ok (.aload_n 0, 1) := by decide +kernel
theorem d4_18 : decode jdk_68_method_2_code 18 = .ok (.iconst 0, 1) := by decide +kernel
theorem d4_19 : decode jdk_68_method_2_code 19 = .ok (.putfield 22, 3) := by decide +kernel
theorem d4_22 : decode jdk_68_method_2_code 22 = .ok (.goto 16, 3) := by decide +kernel
theorem d4_25 : decode jdk_68_method_2_code 25 = .ok (.aload_n 0, 1) := by decide +kernel
theorem d4_26 : decode jdk_68_method_2_code 26 = .ok (.iload_n 1, 1) := by decide +kernel
theorem d4_27 : decode jdk_68_method_2_code 27 = .ok (.invokestatic 26, 3) := by decide +kernel
theorem d4_30 : decode jdk_68_method_2_code 30 = .ok (.putfield 15, 3) := by decide +kernel
theorem d4_33 : decode jdk_68_method_2_code 33 = .ok (.aload_n 0, 1) := by decide +kernel
theorem d4_34 : decode jdk_68_method_2_code 34 = .ok (.iconst 1, 1) := by decide +kernel
theorem d4_35 : decode jdk_68_method_2_code 35 = .ok (.putfield 22, 3) := by decide +kernel
theorem d4_38 : decode jdk_68_method_2_code 38 = .ok (.return_, 1) := by decide +kernel

theorem pd4 : parseMethodDescriptor "(I)V" = some ⟨[.int], none⟩ := by decide +kernel
theorem pl4 : plainFor (⟨"java/lang/AbstractStringBuilder", "<init>", "(I)V"⟩ : MethodName) = true := by first | exact plainFor_of_name (by first | (simp [plainName, overriddenIn]; done) | decide +kernel) | decide +kernel

theorem ef_k_iA (m : MethodId) (x0 : Addr) (x1 : Int32) : entryFrame m #[(.ref x0), (.int x1)] 2 = mkF m 0 #[.val (.ref x0), .val (.int x1)] [] := by first | (simp [entryFrame, mkF, argsToLocals, Value.category]; done) | rfl

set_option maxRecDepth 65536 in
set_option maxHeartbeats 40000000 in
theorem k_iA {l : Launch} {Z : State} {a0 : Array Value} (hw : ∀ d ∈ tables_1, d.before a0 Z = true) {cz : Int32} (h : Heap) (hz : Z.heap.size ≤ h.size) (a : Addr) (fa0 : Exa Z h a "java/lang/StringBuilder") (fa1 : Fld Z h a "java/lang/AbstractStringBuilder" "value" "[B" (.null)) (fa2 : Fld Z h a "java/lang/AbstractStringBuilder" "coder" "B" (.int (0 : Int32))) (fa3 : Fld Z h a "java/lang/AbstractStringBuilder" "count" "I" (.int (0 : Int32))) (fa4 : Sta Z h "java/lang/String" "COMPACT_STRINGS" "Z" (.int cz)) (hcz : ¬ cz = (0 : Int32)) (ge_a : Z.heap.size ≤ a)  : Go l Z (⟨"java/lang/AbstractStringBuilder", "<init>", "(I)V"⟩ : MethodName) jdk_68_method_2_code 2 (Option.none : Option Jvm.ClassFile.FieldType) ({ frames := 1, cells := 1, slots := 16, locals := 16 } : Room) (QV fun h' => ∃ am : Addr, h.size ≤ am ∧ Keep h h' [a] ∧ Exa Z h' a "java/lang/StringBuilder" ∧ Fld Z h' a "java/lang/AbstractStringBuilder" "coder" "B" (.int (0 : Int32)) ∧ Fld Z h' a "java/lang/AbstractStringBuilder" "count" "I" (.int (0 : Int32)) ∧ Fld Z h' a "java/lang/AbstractStringBuilder" "value" "[B" (.ref am) ∧ Ari Z h' am .byte [0, 0, 0, 0, 0, 0, 0, 0, 0, 0, 0, 0, 0, 0, 0, 0] ∧ Exa Z h' am "[B") 0 0 h 0 #[.val (.ref a), .val (.int (16 : Int32))] [] := by
  have kp0 : Keep h h [a] := Keep.refl _ _
  refine Go.aload_n 1 d4_0 rfl rfl rfl ?_
  refine Go.initO 0 4 d4_1 (tw22 hw) (tw23 hw) (tw24 hw) rfl (by decide) (Nat.le_of_eq rfl) (by decide) rfl ?_
  refine Go.getstatic 7 d4_4 (tw25 hw) fa4 rfl ?_
  refine Go.if_eq 25 10 d4_7 (by decide) (by decide) rfl (fun c => absurd c hcz) (fun _ => ?_)
  refine Go.aload_n 11 d4_10 rfl rfl rfl ?_
  refine Go.iload_n 12 d4_11 rfl rfl ?_
  refine Go.newIE (cap := 16) (xs := [0, 0, 0, 0, 0, 0, 0, 0, 0, 0, 0, 0, 0, 0, 0, 0]) "[B" 14 d4_12 (tw27 hw) rfl (by decide) (by decide) (by decide) (by decide) rfl (by decide) (by decide) rfl (fun a2 h3 q4 E5 A6 Ex7 => ?_)
  have ne8 : a ≠ a2 := fun e => absurd fa0.lt (by rw [e, q4]; exact Nat.lt_irrefl _)
  have ge9 : Z.heap.size ≤ a2 := (Eq.symm q4) ▸ hz
  have fr10 : h.size ≤ a2 := by rw [q4]; exact kp0.1
  have f11 : Exa Z h3 a "java/lang/StringBuilder" := fa0.ext E5
  have f12 : Fld Z h3 a "java/lang/AbstractStringBuilder" "value" "[B" (.null) := fa1.ext E5
  have f13 : Fld Z h3 a "java/lang/AbstractStringBuilder" "coder" "B" (.int (0 : Int32)) := fa2.ext E5
  have f14 : Fld Z h3 a "java/lang/AbstractStringBuilder" "count" "I" (.int (0 : Int32)) := fa3.ext E5
  have f15 : Sta Z h3 "java/lang/String" "COMPACT_STRINGS" "Z" (.int cz) := fa4.ext E5
  have zs16 : Z.heap.size ≤ h3.size := Nat.le_trans hz E5.1
  have kp17 : Keep h h3 [a] := kp0.ext E5
  refine Go.putfield (ty := (.array .byte)) 17 d4_14 (tw28 hw) f12 f11 (Or.inl (tw29 hw)) (tw11 hw) (by decide) rfl rfl ge_a rfl (fun h18 W19 => ?_)
  have f20 : Exa Z h18 a "java/lang/StringBuilder" := f11.wr W19
  have f21 : Fld Z h18 a "java/lang/AbstractStringBuilder" "value" "[B" (.ref a2) := f12.same W19
  have f22 : Fld Z h18 a "java/lang/AbstractStringBuilder" "coder" "B" (.int (0 : Int32)) := f13.other W19 (Or.inr (slot_ne (Or.inl (tw31 hw)) (Or.inl (tw29 hw)) (by decide) (by decide +kernel : parseFieldDescriptor "B" = some .byte) (by decide +kernel : parseFieldDescriptor "[B" = some (.array .byte))))
  have f23 : Fld Z h18 a "java/lang/AbstractStringBuilder" "count" "I" (.int (0 : Int32)) := f14.other W19 (Or.inr (slot_ne (Or.inl (tw62 hw)) (Or.inl (tw29 hw)) (by decide) (by decide +kernel : parseFieldDescriptor "I" = some .int) (by decide +kernel : parseFieldDescriptor "[B" = some (.array .byte))))
  have f24 : Sta Z h18 "java/lang/String" "COMPACT_STRINGS" "Z" (.int cz) := f15.wr W19
  have f25 : Ari Z h18 a2 .byte [0, 0, 0, 0, 0, 0, 0, 0, 0, 0, 0, 0, 0, 0, 0, 0] := A6.other W19 (Ne.symm ne8)
  have f26 : Exa Z h18 a2 "[B" := Ex7.wr W19
  have zs27 : Z.heap.size ≤ h18.size := W19.size ▸ zs16
  have kp28 : Keep h h18 [a] := kp17.wr W19 (Or.inl (by simp))
  refine Go.aload_n 18 d4_17 rfl rfl rfl ?_
  refine Go.iconst 19 (0) d4_18 (by decide) rfl ?_
  refine Go.putfieldN (ty := .byte) (v' := .int (0 : Int32)) 22 d4_19 (tw30 hw) f22 f20 (Or.inl (tw31 hw)) (tw11 hw) (by decide) (by decide) (by decide) ge_a rfl (fun h29 W30 => ?_)
  have f31 : Exa Z h29 a "java/lang/StringBuilder" := f20.wr W30
  have f32 : Fld Z h29 a "java/lang/AbstractStringBuilder" "value" "[B" (.ref a2) := f21.other W30 (Or.inr (slot_ne (Or.inl (tw29 hw)) (Or.inl (tw31 hw)) (by decide) (by decide +kernel : parseFieldDescriptor "[B" = some (.array .byte)) (by decide +kernel : parseFieldDescriptor "B" = some .byte)))
  have f33 : Fld Z h29 a "java/lang/AbstractStringBuilder" "coder" "B" (.int (0 : Int32)) := f22.same W30
  have f34 : Fld Z h29 a "java/lang/AbstractStringBuilder" "count" "I" (.int (0 : Int32)) := f23.other W30 (Or.inr (slot_ne (Or.inl (tw62 hw)) (Or.inl (tw31 hw)) (by decide) (by decide +kernel : parseFieldDescriptor "I" = some .int) (by decide +kernel : parseFieldDescriptor "B" = some .byte)))
  have f35 : Sta Z h29 "java/lang/String" "COMPACT_STRINGS" "Z" (.int cz) := f24.wr W30
  have f36 : Ari Z h29 a2 .byte [0, 0, 0, 0, 0, 0, 0, 0, 0, 0, 0, 0, 0, 0, 0, 0] := f25.other W30 (Ne.symm ne8)
  have f37 : Exa Z h29 a2 "[B" := f26.wr W30
  have zs38 : Z.heap.size ≤ h29.size := W30.size ▸ zs27
  have kp39 : Keep h h29 [a] := kp28.wr W30 (Or.inl (by simp))
  refine Go.goto 38 d4_22 (by decide) (by decide) ?_
  refine Go.vreturn d4_38 rfl (by decide) (by decide) ?_
  exact ⟨a2, fr10, kp39, f31, f33, f34, f32, f36, f37⟩

theorem d3_0 : decode jdk_67_method_1_code 0 = .ok (.aload_n 0, 1) := by decide +kernel
theorem d3_1 : decode jdk_67_method_1_code 1 = .ok (.bipush 16, 2) := by decide +kernel
theorem d3_3 : decode jdk_67_method_1_code 3 = .ok (.invokespecial 1, 3) := by decide +kernel
theorem d3_6 : decode jdk_67_method_1_code 6 = .ok (.return_, 1) := by decide +kernel

theorem pd3 : parseMethodDescriptor "()V" = some ⟨[], none⟩ := by decide +kernel
theorem pl3 : plainFor (⟨"java/lang/StringBuilder", "<init>", "()V"⟩ : MethodName) = true := by first | exact plainFor_of_name (by first | (simp [plainName, overriddenIn]; done) | decide +kernel) | decide +kernel

theorem ef_k_i (m : MethodId) (x0 : Addr) : entryFrame m #[(.ref x0)] 1 = mkF m 0 #[.val (.ref x0)] [] := by first | (simp [entryFrame, mkF, argsToLocals, Value.category]; done) | rfl

set_option maxRecDepth 65536 in
set_option maxHeartbeats 40000000 in
theorem k_i {l : Launch} {Z : State} {a0 : Array Value} (hw : ∀ d ∈ tables_1, d.before a0 Z = true) {cz : Int32} (h : Heap) (hz : Z.heap.size ≤ h.size) (a : Addr) (fa0 : Exa Z h a "java/lang/StringBuilder") (fa1 : Fld Z h a "java/lang/AbstractStringBuilder" "value" "[B" (.null)) (fa2 : Fld Z h a "java/lang/AbstractStringBuilder" "coder" "B" (.int (0 : Int32))) (fa3 : Fld Z h a "java/lang/AbstractStringBuilder" "count" "I" (.int (0 : Int32))) (fa4 : Sta Z h "java/lang/String" "COMPACT_STRINGS" "Z" (.int cz)) (hcz : ¬ cz = (0 : Int32)) (ge_a : Z.heap.size ≤ a)  : Go l Z (⟨"java/lang/StringBuilder", "<init>", "()V"⟩ : MethodName) jdk_67_method_1_code 1 (Option.none : Option Jvm.ClassFile.FieldType) ({ frames := 2, cells := 1, slots := 16, locals := 40 } : Room) (QV fun h' => ∃ am : Addr, h.size ≤ am ∧ Keep h h' [a] ∧ Exa Z h' a "java/lang/StringBuilder" ∧ Fld Z h' a "java/lang/AbstractStringBuilder" "coder" "B" (.int (0 : Int32)) ∧ Fld Z h' a "java/lang/AbstractStringBuilder" "count" "I" (.int (0 : Int32)) ∧ Fld Z h' a "java/lang/AbstractStringBuilder" "value" "[B" (.ref am) ∧ Ari Z h' am .byte [0, 0, 0, 0, 0, 0, 0, 0, 0, 0, 0, 0, 0, 0, 0, 0] ∧ Exa Z h' am "[B") 0 0 h 0 #[.val (.ref a)] [] := by
  have kp0 : Keep h h [a] := Keep.refl _ _
  refine Go.aload_n 1 d3_0 rfl rfl rfl ?_
  refine Go.bipush 3 (16) d3_1 (by decide) rfl ?_
  refine Go.callC [.int (16 : Int32)] [] 6 d3_3 rfl (tw16 hw) (tw17 hw) (tw20 hw) (tw21 hw) pl4 (by decide) (lenOf pd4 rfl) rfl (fun m => ef_k_iA m a (16 : Int32)) _ (k_iA hw h hz a fa0 fa1 fa2 fa3 fa4 (by assumption) ge_a) 0 rfl (Nat.le_of_eq rfl) (by decide) (by decide) (by decide) (by decide) rfl ?_
  rintro h2 ⟨a4, g5, K3, f6, f7, f8, f9, f10, f11⟩
  have ne12 : a ≠ a4 := Nat.ne_of_lt (Nat.lt_of_lt_of_le fa0.lt g5)
  have ge13 : Z.heap.size ≤ a4 := Nat.le_trans hz g5
  have fr14 : h.size ≤ a4 := Nat.le_trans kp0.1 g5
  have f15 : Sta Z h2 "java/lang/String" "COMPACT_STRINGS" "Z" (.int cz) := own_staK fa4 K3 (allS (own_nost fa0) all0)
  have zs16 : Z.heap.size ≤ h2.size := Nat.le_trans hz K3.1
  have kp17 : Keep h h2 [a] := kp0.trans K3 (allS (Or.inl (by simp)) all0)
  refine Go.vreturn d3_6 rfl (by decide) (by decide) ?_
  exact ⟨a4, fr14, kp17, f6, f7, f8, f9, f10, f11⟩

theorem d15_0 : decode jdk_65_method_131_code 0 = .ok (.iload_n 1, 1) := by decide +kernel
theorem d15_1 : decode jdk_65_method_131_code 1 = .ok (.iload_n 0, 1) := by decide +kernel
theorem d15_2 : decode jdk_65_method_131_code 2 = .ok (.if_icmp .ge 35, 3) := by decide +kernel
theorem d15_5 : decode jdk_65_method_131_code 5 = .ok (.new 43, 3) := by decide +kernel
theorem d15_8 : decode jdk_65_method_131_code 8 = .ok (.dup, 1) := by decide +kernel
theorem d15_9 : decode jdk_65_method_131_code 9 = .ok (.new 45, 3) := by decide +kernel
theorem d15_12 : decode jdk_65_method_131_code 12 = .ok (.dup, 1) := by decide +kernel
theorem d15_13 : decode jdk_65_method_131_code 13 = .ok (.invokespecial 47, 3) := by decide +kernel
theorem d15_16 : decode jdk_65_method_131_code 16 = .ok (.iload_n 0, 1) := by decide +kernel
theorem d15_17 : decode jdk_65_method_131_code 17 = .ok (.invokevirtual 54, 3) := by decide +kernel
theorem d15_20 : decode jdk_65_method_131_code 20 = .ok (.ldc_w 337, 3) := by decide +kernel
theorem d15_23 : decode jdk_65_method_131_code 23 = .ok (.invokevirtual 50, 3) := by decide +kernel
theorem d15_26 : decode jdk_65_method_131_code 26 = .ok (.iload_n 1, 1) := by decide +kernel
theorem d15_27 : decode jdk_65_method_131_code 27 = .ok (.invokevirtual 54, 3) := by decide +kernel
theorem d15_30 : decode jdk_65_method_131_code 30 = .ok (.invokevirtual 61, 3) := by decide +kernel
theorem d15_33 : decode jdk_65_method_131_code 33 = .ok (.invokespecial 65, 3) := by decide +kernel
theorem d15_36 : decode jdk_65_method_131_code 36 = .ok (.athrow, 1) := by decide +kernel
theorem d15_37 : decode jdk_65_method_131_code 37 = .ok (.return_, 1) := by decide +kernel

theorem pd15 : parseMethodDescriptor "(II)V" = some ⟨[.int, .int], none⟩ := by decide +kernel
theorem pl15 : plainFor (⟨"java/util/Arrays", "checkLength", "(II)V"⟩ : MethodName) = true := by first | exact plainFor_of_name (by first | (simp [plainName, overriddenIn]; done) | decide +kernel) | decide +kernel

theorem ef_k_cl (m : MethodId) (x0 : Int32) (x1 : Int32) : entryFrame m #[(.int x0), (.int x1)] 2 = mkF m 0 #[.val (.int x0), .val (.int x1)] [] := by first | (simp [entryFrame, mkF, argsToLocals, Value.category]; done) | rfl

set_option maxRecDepth 65536 in
set_option maxHeartbeats 40000000 in
theorem k_cl {l : Launch} {Z : State} {a0 : Array Value} (hw : ∀ d ∈ tables_1, d.before a0 Z = true)  (h : Heap) (hz : Z.heap.size ≤ h.size) (n : Int32)  (hn : ¬ n < (0 : Int32))   : Go l Z (⟨"java/util/Arrays", "checkLength", "(II)V"⟩ : MethodName) jdk_65_method_131_code 2 (Option.none : Option Jvm.ClassFile.FieldType) ({ frames := 0, cells := 0, slots := 0, locals := 0 } : Room) (QV fun h' => h' = h) 0 0 h 0 #[.val (.int (0 : Int32)), .val (.int n)] [] := by
  refine Go.iload_n 1 d15_0 rfl rfl ?_
  refine Go.iload_n 2 d15_1 rfl rfl ?_
  refine Go.icmp_ge 37 5 d15_2 (by decide) (by decide) rfl (fun c1 => ?_) (fun c1 => ?_)
  ·
    refine Go.vreturn d15_37 rfl (by decide) (by decide) ?_
    rfl
  ·
    exact absurd c1 hn

theorem d14_0 : decode jdk_65_method_133_code 0 = .ok (.iload_n 1, 1) := by decide +kernel
theorem d14_1 : decode jdk_65_method_133_code 1 = .ok (.iload_n 2, 1) := by decide +kernel
theorem d14_2 : decode jdk_65_method_133_code 2 = .ok (.invokestatic 343, 3) := by decide +kernel
theorem d14_5 : decode jdk_65_method_133_code 5 = .ok (.iload_n 2, 1) := by decide +kernel
theorem d14_6 : decode jdk_65_method_133_code 6 = .ok (.iload_n 1, 1) := by decide +kernel
theorem d14_7 : decode jdk_65_method_133_code 7 = .ok (.isub, 1) := by decide +kernel
theorem d14_8 : decode jdk_65_method_133_code 8 = .ok (.istore_n 3, 1) := by decide +kernel
theorem d14_9 : decode jdk_65_method_133_code 9 = .ok (.iload_n 3, 1) := by decide +kernel
theorem d14_10 : decode jdk_65_method_133_code 10 = .ok (.newarray .byte, 2) := by decide +kernel
theorem d14_12 : decode jdk_65_method_133_code 12 = .ok (.astore 4, 2) := by decide +kernel
theorem d14_14 : decode jdk_65_method_133_code 14 = .ok (.aload_n 0, 1) := by decide +kernel
theorem d14_15 : decode jdk_65_method_133_code 15 = .ok (.iload_n 1, 1) := by decide +kernel
theorem d14_16 : decode jdk_65_method_133_code 16 = .ok (.aload 4, 2) := by decide +kernel
theorem d14_18 : decode jdk_65_method_133_code 18 = .ok (.iconst 0, 1) := by decide +kernel
theorem d14_19 : decode jdk_65_method_133_code 19 = .ok (.aload_n 0, 1) := by decide +kernel
theorem d14_20 : decode jdk_65_method_133_code 20 = .ok (.arraylength, 1) := by decide +kernel
theorem d14_21 : decode jdk_65_method_133_code 21 = .ok (.iload_n 1, 1) := by decide +kernel
theorem d14_22 : decode jdk_65_method_133_code 22 = .ok (.isub, 1) := by decide +kernel
theorem d14_23 : decode jdk_65_method_133_code 23 = .ok (.iload_n 3, 1) := by decide +kernel
theorem d14_24 : decode jdk_65_method_133_code 24 = .ok (.invokestatic 304, 3) := by decide +kernel
theorem d14_27 : decode jdk_65_method_133_code 27 = .ok (.invokestatic 150, 3) := by decide +kernel
theorem d14_30 : decode jdk_65_method_133_code 30 = .ok (.aload 4, 2) := by decide +kernel
theorem d14_32 : decode jdk_65_method_133_code 32 = .ok (.areturn, 1) := by decide +kernel

theorem pd14 : parseMethodDescriptor "([BII)[B" = some ⟨[(.array .byte), .int, .int], some (.array .byte)⟩ := by decide +kernel
theorem pl14 : plainFor (⟨"java/util/Arrays", "copyOfRangeByte", "([BII)[B"⟩ : MethodName) = true := by first | exact plainFor_of_name (by first | (simp [plainName, overriddenIn]; done) | decide +kernel) | decide +kernel

theorem ef_k_crb (m : MethodId) (x0 : Addr) (x1 : Int32) (x2 : Int32) : entryFrame m #[(.ref x0), (.int x1), (.int x2)] 5 = mkF m 0 #[.val (.ref x0), .val (.int x1), .val (.int x2), .unset, .unset] [] := by first | (simp [entryFrame, mkF, argsToLocals, Value.category]; done) | rfl

set_option maxRecDepth 65536 in
set_option maxHeartbeats 40000000 in
theorem k_crb {l : Launch} {Z : State} {a0 : Array Value} (hw : ∀ d ∈ tables_1, d.before a0 Z = true) {xs : List Int32} {cs : List Int32} (h : Heap) (hz : Z.heap.size ≤ h.size) (a : Addr) (n : Int32) (fa0 : Ari Z h a .byte xs) (hn : n = (List.length cs).toInt32) (hpre : cs <+: xs) (hxl : xs.length ≤ 34) (hf : ∀ x ∈ xs, fits .byte (.int x) = true)   : Go l Z (⟨"java/util/Arrays", "copyOfRangeByte", "([BII)[B"⟩ : MethodName) jdk_65_method_133_code 5 (Option.some (Jvm.ClassFile.FieldType.array Jvm.ClassFile.FieldType.byte)) ({ frames := 1, cells := 1, slots := 34, locals := 48 } : Room) (QR fun rz h' => ∃ r : Addr, rz = .ref r ∧ h.size ≤ r ∧ Keep h h' [] ∧ Ari Z h' r .byte cs) 0 0 h 0 #[.val (.ref a), .val (.int (0 : Int32)), .val (.int n), .unset, .unset] [] := by
  have kp0 : Keep h h [] := Keep.refl _ _
  refine Go.iload_n 1 d14_0 rfl rfl ?_
  refine Go.iload_n 2 d14_1 rfl rfl ?_
  refine Go.callSVp [.int (0 : Int32), .int n] [] 5 d14_2 (tw77 hw) (tw78 hw) (tw72 hw) (tw79 hw) pl15 (by decide) (lenOf pd15 rfl) rfl (fun m => ef_k_cl m (0 : Int32) n) (k_cl hw h hz n (own_nN hn hpre hxl).1) 0 rfl (Nat.le_of_eq rfl) (by decide) (by decide) (by decide) (by decide) rfl ?_
  refine Go.iload_n 6 d14_5 rfl rfl ?_
  refine Go.iload_n 7 d14_6 rfl rfl ?_
  refine Go.isub 8 d14_7 rfl ?_
  rw [own_sub0]
  refine Go.istore_n 9 #[.val (.ref a), .val (.int (0 : Int32)), .val (.int n), .val (.int n), .unset] d14_8 rfl rfl ?_
  refine Go.iload_n 10 d14_9 rfl rfl ?_
  refine Go.newIE (cap := 34) (xs := (List.replicate (Int32.toNatClampNeg n) 0)) "[B" 12 d14_10 (tw27 hw) rfl (by decide) (own_nN hn hpre hxl).1 (by rw [(own_nN hn hpre hxl).2]; have := hpre.length_le; omega) (by decide) rfl (by decide) (by decide) rfl (fun a4 h5 q6 E7 A8 Ex9 => ?_)
  have ne10 : a ≠ a4 := fun e => absurd fa0.lt (by rw [e, q6]; exact Nat.lt_irrefl _)
  have ge11 : Z.heap.size ≤ a4 := (Eq.symm q6) ▸ hz
  have fr12 : h.size ≤ a4 := by rw [q6]; exact kp0.1
  have f13 : Ari Z h5 a .byte xs := fa0.ext E7
  have zs14 : Z.heap.size ≤ h5.size := Nat.le_trans hz E7.1
  have kp15 : Keep h h5 [] := kp0.ext E7
  refine Go.astore 14 #[.val (.ref a), .val (.int (0 : Int32)), .val (.int n), .val (.int n), .val (.ref a4)] d14_12 rfl rfl rfl ?_
  refine Go.aload_n 15 d14_14 rfl rfl rfl ?_
  refine Go.iload_n 16 d14_15 rfl rfl ?_
  refine Go.aload 18 d14_16 rfl rfl rfl ?_
  refine Go.iconst 19 (0) d14_18 (by decide) rfl ?_
  refine Go.aload_n 20 d14_19 rfl rfl rfl ?_
  refine Go.arraylength (z := (List.length xs).toInt32) 21 d14_20 f13 rfl rfl ?_
  refine Go.iload_n 22 d14_21 rfl rfl ?_
  refine Go.isub 23 d14_22 rfl ?_
  rw [own_sub0]
  refine Go.iload_n 24 d14_23 rfl rfl ?_
  refine Go.callSIp [.int (List.length xs).toInt32, .int n] [.int (0 : Int32), .ref a4, .int (0 : Int32), .ref a] 27 d14_24 (tw80 hw) (tw81 hw) (tw82 hw) (tw83 hw) pl16 (by decide) (lenOf pd16 rfl) rfl (fun m => ef_k_min m (List.length xs).toInt32 n) _ (k_min hw h5 zs14 ((List.length xs).toInt32) n) 4 rfl (Nat.le_of_eq rfl) (by decide) (by decide) (by decide) (by decide) rfl ?_
  refine Go.arraycopy (W := 0) 0 0 cs.length 30 d14_27 (tw84 hw) (tw87 hw) (tw85 hw) (tw86 hw) f13 A8 hf (fun x hx => by rw [List.eq_of_mem_replicate hx]; exact own_fit0) rfl (by decide) (by decide) (own_minr hn hpre hxl).1 (by decide) (by decide) (own_minr hn hpre hxl).2 (by have := hpre.length_le; omega) (by rw [List.length_replicate, (own_nN hn hpre hxl).2]; omega) (ys' := cs) (own_copyr hn hpre hxl) ge11 rfl (by decide) (Nat.le_of_eq rfl) (by decide) rfl (fun h19 K20 A21 => ?_)
  have f22 : Ari Z h19 a .byte xs := f13.keep K20 (ninS ne10 nin0)
  have f23 : Exa Z h19 a4 "[B" := Ex9.keep K20
  have zs24 : Z.heap.size ≤ h19.size := Nat.le_trans zs14 K20.1
  have kp25 : Keep h h19 [] := kp15.trans K20 (allS (Or.inr fr12) all0)
  refine Go.aload 32 d14_30 rfl rfl rfl ?_
  refine Go.areturn d14_32 rfl rfl rfl (by decide) (by decide) ?_
  exact ⟨a4, rfl, fr12, kp25, A21⟩

theorem d13_0 : decode jdk_65_method_132_code 0 = .ok (.iload_n 1, 1) := by decide +kernel
theorem d13_1 : decode jdk_65_method_132_code 1 = .ok (.ifCond .ne 9, 3) := by decide +kernel
theorem d13_4 : decode jdk_65_method_132_code 4 = .ok (.iload_n 2, 1) := by decide +kernel
theorem d13_5 : decode jdk_65_method_132_code 5 = .ok (.aload_n 0, 1) := by decide +kernel
theorem d13_6 : decode jdk_65_method_132_code 6 = .ok (.arraylength, 1) := by decide +kernel
theorem d13_7 : decode jdk_65_method_132_code 7 = .ok (.if_icmp .eq 10, 3) := by decide +kernel
theorem d13_10 : decode jdk_65_method_132_code 10 = .ok (.aload_n 0, 1) := by decide +kernel
theorem d13_11 : decode jdk_65_method_132_code 11 = .ok (.iload_n 1, 1) := by decide +kernel
theorem d13_12 : decode jdk_65_method_132_code 12 = .ok (.iload_n 2, 1) := by decide +kernel
theorem d13_13 : decode jdk_65_method_132_code 13 = .ok (.invokestatic 339, 3) := by decide +kernel
theorem d13_16 : decode jdk_65_method_132_code 16 = .ok (.areturn, 1) := by decide +kernel
theorem d13_17 : decode jdk_65_method_132_code 17 = .ok (.aload_n 0, 1) := by decide +kernel
theorem d13_18 : decode jdk_65_method_132_code 18 = .ok (.invokevirtual 310, 3) := by decide +kernel
theorem d13_21 : decode jdk_65_method_132_code 21 = .ok (.checkcast 311, 3) := by decide +kernel
theorem d13_24 : decode jdk_65_method_132_code 24 = .ok (.areturn, 1) := by decide +kernel

theorem pd13 : parseMethodDescriptor "([BII)[B" = some ⟨[(.array .byte), .int, .int], some (.array .byte)⟩ := by decide +kernel
theorem pl13 : plainFor (⟨"java/util/Arrays", "copyOfRange", "([BII)[B"⟩ : MethodName) = true := by first | exact plainFor_of_name (by first | (simp [plainName, overriddenIn]; done) | decide +kernel) | decide +kernel

theorem ef_k_cr (m : MethodId) (x0 : Addr) (x1 : Int32) (x2 : Int32) : entryFrame m #[(.ref x0), (.int x1), (.int x2)] 3 = mkF m 0 #[.val (.ref x0), .val (.int x1), .val (.int x2)] [] := by first | (simp [entryFrame, mkF, argsToLocals, Value.category]; done) | rfl

set_option maxRecDepth 65536 in
set_option maxHeartbeats 40000000 in
theorem k_cr {l : Launch} {Z : State} {a0 : Array Value} (hw : ∀ d ∈ tables_1, d.before a0 Z = true) {xs : List Int32} {cs : List Int32} (h : Heap) (hz : Z.heap.size ≤ h.size) (a : Addr) (n : Int32) (fa0 : Ari Z h a .byte xs) (fa1 : Exa Z h a "[B") (hn : n = (List.length cs).toInt32) (hpre : cs <+: xs) (hxl : xs.length ≤ 34) (hf : ∀ x ∈ xs, fits .byte (.int x) = true)   : Go l Z (⟨"java/util/Arrays", "copyOfRange", "([BII)[B"⟩ : MethodName) jdk_65_method_132_code 3 (Option.some (Jvm.ClassFile.FieldType.array Jvm.ClassFile.FieldType.byte)) ({ frames := 2, cells := 1, slots := 34, locals := 80 } : Room) (QR fun rz h' => ∃ r : Addr, rz = .ref r ∧ h.size ≤ r ∧ Keep h h' [] ∧ Ari Z h' r .byte cs) 0 0 h 0 #[.val (.ref a), .val (.int (0 : Int32)), .val (.int n)] [] := by
  have kp0 : Keep h h [] := Keep.refl _ _
  refine Go.iload_n 1 d13_0 rfl rfl ?_
  refine Go.if_ne 10 4 d13_1 (by decide) (by decide) rfl (fun c => absurd c (by decide)) (fun _ => ?_)
  refine Go.iload_n 5 d13_4 rfl rfl ?_
  refine Go.aload_n 6 d13_5 rfl rfl rfl ?_
  refine Go.arraylength (z := (List.length xs).toInt32) 7 d13_6 fa0 rfl rfl ?_
  refine Go.icmp_eq 17 10 d13_7 (by decide) (by decide) rfl (fun c2 => ?_) (fun c2 => ?_)
  ·
    refine Go.aload_n 18 d13_17 rfl rfl rfl ?_
    refine Go.clone (W := 0) 34 21 d13_18 (tw201 hw) (tw202 hw) (tw206 hw) (tw204 hw) (tw205 hw) (tw207 hw) fa0 fa1 hf rfl (by decide) (Nat.le_of_eq rfl) (by decide) hxl (by decide) (by decide) rfl (fun a3 h4 q5 E6 A7 Ex8 => ?_)
    have ne9 : a ≠ a3 := fun e => absurd fa0.lt (by rw [e, q5]; exact Nat.lt_irrefl _)
    have ge10 : Z.heap.size ≤ a3 := (Eq.symm q5) ▸ hz
    have fr11 : h.size ≤ a3 := by rw [q5]; exact kp0.1
    have f12 : Ari Z h4 a .byte xs := fa0.ext E6
    have f13 : Exa Z h4 a "[B" := fa1.ext E6
    have zs14 : Z.heap.size ≤ h4.size := Nat.le_trans hz E6.1
    have kp15 : Keep h h4 [] := kp0.ext E6
    refine Go.cast 24 d13_21 (tw208 hw) (Ins.self Ex8) rfl ?_
    refine Go.areturn d13_24 rfl rfl rfl (by decide) (by decide) ?_
    exact ⟨a3, rfl, fr11, kp15, ((own_eqlen hn hpre hxl c2) ▸ A7)⟩
  ·
    refine Go.aload_n 11 d13_10 rfl rfl rfl ?_
    refine Go.iload_n 12 d13_11 rfl rfl ?_
    refine Go.iload_n 13 d13_12 rfl rfl ?_
    refine Go.callSR [.ref a, .int (0 : Int32), .int n] [] 16 d13_13 (tw74 hw) (tw75 hw) (tw72 hw) (tw76 hw) pl14 (by decide) (lenOf pd14 rfl) rfl (fun m => ef_k_crb m a (0 : Int32) n) _ (k_crb (cs := cs) hw h hz a n fa0 (by assumption) (by assumption) (by assumption) (by assumption)) 0 rfl (Nat.le_of_eq rfl) (by decide) (by decide) (by decide) (by decide) rfl ?_
    rintro z16 h17 ⟨a19, rfl, g20, K18, f21⟩
    have ne22 : a ≠ a19 := Nat.ne_of_lt (Nat.lt_of_lt_of_le fa0.lt g20)
    have ge23 : Z.heap.size ≤ a19 := Nat.le_trans hz g20
    have fr24 : h.size ≤ a19 := Nat.le_trans kp0.1 g20
    have f25 : Ari Z h17 a .byte xs := fa0.keep K18 nin0
    have f26 : Exa Z h17 a "[B" := fa1.keep K18
    have zs27 : Z.heap.size ≤ h17.size := Nat.le_trans hz K18.1
    have kp28 : Keep h h17 [] := kp0.trans K18 all0
    refine Go.areturn d13_16 rfl rfl rfl (by decide) (by decide) ?_
    exact ⟨a19, rfl, fr24, kp28, f21⟩

theorem d8_0 : decode jdk_42_method_150_code 0 = .ok (.aload_n 0, 1) := by decide +kernel
theorem d8_1 : decode jdk_42_method_150_code 1 = .ok (.invokespecial 1, 3) := by decide +kernel
theorem d8_4 : decode jdk_42_method_150_code 4 = .ok (.aload_n 1, 1) := by decide +kernel
theorem d8_5 : decode jdk_42_method_150_code 5 = .ok (.invokevirtual 552, 3) := by decide +kernel
theorem d8_8 : decode jdk_42_method_150_code 8 = .ok (.astore_n 3, 1) := by decide +kernel
theorem d8_9 : decode jdk_42_method_150_code 9 = .ok (.aload_n 1, 1) := by decide +kernel
theorem d8_10 : decode jdk_42_method_150_code 10 = .ok (.invokevirtual 549, 3) := by decide +kernel
theorem d8_13 : decode jdk_42_method_150_code 13 = .ok (.istore 4, 2) := by decide +kernel
theorem d8_15 : decode jdk_42_method_150_code 15 = .ok (.aload_n 1, 1) := by decide +kernel
theorem d8_16 : decode jdk_42_method_150_code 16 = .ok (.invokevirtual 1047, 3) := by decide +kernel
theorem d8_19 : decode jdk_42_method_150_code 19 = .ok (.ifCond .eq 22, 3) := by decide +kernel
theorem d8_22 : decode jdk_42_method_150_code 22 = .ok (.aload_n 0, 1) := by decide +kernel
theorem d8_23 : decode jdk_42_method_150_code 23 = .ok (.iconst 0, 1) := by decide +kernel
theorem d8_24 : decode jdk_42_method_150_code 24 = .ok (.putfield 15, 3) := by decide +kernel
theorem d8_27 : decode jdk_42_method_150_code 27 = .ok (.aload_n 0, 1) := by decide +kernel
theorem d8_28 : decode jdk_42_method_150_code 28 = .ok (.aload_n 3, 1) := by decide +kernel
theorem d8_29 : decode jdk_42_method_150_code 29 = .ok (.iconst 0, 1) := by decide +kernel
theorem d8_30 : decode jdk_42_method_150_code 30 = .ok (.iload 4, 2) := by decide +kernel
theorem d8_32 : decode jdk_42_method_150_code 32 = .ok (.invokestatic 54, 3) := by decide +kernel
theorem d8_35 : decode jdk_42_method_150_code 35 = .ok (.putfield 9, 3) := by decide +kernel
theorem d8_38 : decode jdk_42_method_150_code 38 = .ok (.goto 59, 3) := by decide +kernel
theorem d8_41 : decode jdk_42_method_150_code 41 = .ok (.getstatic 38, 3) := by decide +kernel
theorem d8_44 : decode jdk_42_method_150_code 44 = .ok (.ifCond .eq 35, 3) := by decide +kernel
theorem d8_47 : decode jdk_42_method_150_code 47 = .ok (.aload_n 1, 1) := by decide +kernel
theorem d8_48 : decode jdk_42_method_150_code 48 = .ok (.getfield 1048, 3) := by decide +kernel
theorem d8_51 : decode jdk_42_method_150_code 51 = .ok (.ifCond .eq 28, 3) := by decide +kernel
theorem d8_54 : decode jdk_42_method_150_code 54 = .ok (.aload_n 0, 1) := by decide +kernel
theorem d8_55 : decode jdk_42_method_150_code 55 = .ok (.aload_n 3, 1) := by decide +kernel
theorem d8_56 : decode jdk_42_method_150_code 56 = .ok (.iconst 0, 1) := by decide +kernel
theorem d8_57 : decode jdk_42_method_150_code 57 = .ok (.iload 4, 2) := by decide +kernel
theorem d8_59 : decode jdk_42_method_150_code 59 = .ok (.invokestatic 1051, 3) := by decide +kernel
theorem d8_62 : decode jdk_42_method_150_code 62 = .ok (.putfield 9, 3) := by decide +kernel
theorem d8_65 : decode jdk_42_method_150_code 65 = .ok (.aload_n 0, 1) := by decide +kernel
theorem d8_66 : decode jdk_42_method_150_code 66 = .ok (.aload_n 0, 1) := by decide +kernel
theorem d8_67 : decode jdk_42_method_150_code 67 = .ok (.getfield 9, 3) := by decide +kernel
theorem d8_70 : decode jdk_42_method_150_code 70 = .ok (.iload 4, 2) := by decide +kernel
theorem d8_72 : decode jdk_42_method_150_code 72 = .ok (.invokestatic 47, 3) := by decide +kernel
theorem d8_75 : decode jdk_42_method_150_code 75 = .ok (.putfield 15, 3) := by decide +kernel
theorem d8_78 : decode jdk_42_method_150_code 78 = .ok (.return_, 1) := by decide +kernel
theorem d8_79 : decode jdk_42_method_150_code 79 = .ok (.aload_n 0, 1) := by decide +kernel
theorem d8_80 : decode jdk_42_method_150_code 80 = .ok (.iconst 1, 1) := by decide +kernel
theorem d8_81 : decode jdk_42_method_150_code 81 = .ok (.putfield 15, 3) := by decide +kernel
theorem d8_84 : decode jdk_42_method_150_code 84 = .ok (.aload_n 0, 1) := by decide +kernel
theorem d8_85 : decode jdk_42_method_150_code 85 = .ok (.aload_n 3, 1) := by decide +kernel
theorem d8_86 : decode jdk_42_method_150_code 86 = .ok (.iconst 0, 1) := by decide +kernel
theorem d8_87 : decode jdk_42_method_150_code 87 = .ok (.iload 4, 2) := by decide +kernel
theorem d8_89 : decode jdk_42_method_150_code 89 = .ok (.iconst 1, 1) := by decide +kernel
theorem d8_90 : decode jdk_42_method_150_code 90 = .ok (.ishl, 1) := by decide +kernel
theorem d8_91 : decode jdk_42_method_150_code 91 = .ok (.invokestatic 54, 3) := by decide +kernel
theorem d8_94 : decode jdk_42_method_150_code 94 = .ok (.putfield 9, 3) := by decide +kernel
theorem d8_97 : decode jdk_42_method_150_code 97 = .ok (.return_, 1) := by decide +kernel

theorem pd8 : parseMethodDescriptor "(Ljava/lang/AbstractStringBuilder;Ljava/lang/Void;)V" = some ⟨[(.object "java/lang/AbstractStringBuilder"), (.object "java/lang/Void")], none⟩ := by decide +kernel
theorem pl8 : plainFor (⟨"java/lang/String", "<init>", "(Ljava/lang/AbstractStringBuilder;Ljava/lang/Void;)V"⟩ : MethodName) = true := by first | exact plainFor_of_name (by first | (simp [plainName, overriddenIn]; done) | decide +kernel) | decide +kernel

theorem ef_k_sA (m : MethodId) (x0 : Addr) (x1 : Addr) (x2 : Unit) : entryFrame m #[(.ref x0), (.ref x1), .null] 5 = mkF m 0 #[.val (.ref x0), .val (.ref x1), .val .null, .unset, .unset] [] := by first | (simp [entryFrame, mkF, argsToLocals, Value.category]; done) | rfl

set_option maxRecDepth 65536 in
set_option maxHeartbeats 40000000 in
theorem k_sA {l : Launch} {Z : State} {a0 : Array Value} (hw : ∀ d ∈ tables_1, d.before a0 Z = true) {am : Addr} {xs : List Int32} {cs : List Int32} {cz : Int32} (h : Heap) (hz : Z.heap.size ≤ h.size) (s : Addr) (a : Addr) (nul : Unit) (fa0 : Exa Z h s "java/lang/String") (fa1 : Fld Z h s "java/lang/String" "value" "[B" (.null)) (fa2 : Fld Z h s "java/lang/String" "coder" "B" (.int (0 : Int32))) (fa3 : Exa Z h a "java/lang/StringBuilder") (fa4 : Fld Z h a "java/lang/AbstractStringBuilder" "value" "[B" (.ref am)) (fa5 : Fld Z h a "java/lang/AbstractStringBuilder" "coder" "B" (.int (0 : Int32))) (fa6 : Fld Z h a "java/lang/AbstractStringBuilder" "count" "I" (.int (List.length cs).toInt32)) (fa7 : Ari Z h am .byte xs) (fa8 : Exa Z h am "[B") (fa9 : Sta Z h "java/lang/String" "COMPACT_STRINGS" "Z" (.int cz)) (ok : own_cap xs cs) (hcz : ¬ cz = (0 : Int32)) (ge_s : Z.heap.size ≤ s) (ne_s_a : s ≠ a) (ne_s_am : s ≠ am) : Go l Z (⟨"java/lang/String", "<init>", "(Ljava/lang/AbstractStringBuilder;Ljava/lang/Void;)V"⟩ : MethodName) jdk_42_method_150_code 5 (Option.none : Option Jvm.ClassFile.FieldType) ({ frames := 3, cells := 1, slots := 34, locals := 112 } : Room) (QV fun h' => ∃ t : Addr, h.size ≤ t ∧ Keep h h' [s] ∧ Exa Z h' s "java/lang/String" ∧ Fld Z h' s "java/lang/String" "value" "[B" (.ref t) ∧ Fld Z h' s "java/lang/String" "coder" "B" (.int (0 : Int32)) ∧ Ari Z h' t .byte cs) 0 0 h 0 #[.val (.ref s), .val (.ref a), .val (.null), .unset, .unset] [] := by
  have kp0 : Keep h h [s] := Keep.refl _ _
  refine Go.aload_n 1 d8_0 rfl rfl rfl ?_
  refine Go.initO 0 4 d8_1 (tw46 hw) (tw23 hw) (tw24 hw) rfl (by decide) (Nat.le_of_eq rfl) (by decide) rfl ?_
  refine Go.aload_n 5 d8_4 rfl rfl rfl ?_
  refine Go.callVRp [] [] 8 d8_5 (tw47 hw) (tw48 hw) (tw50 hw) (tw49 hw) (tw20 hw) (tw51 hw) fa3 pl9 (by decide) (lenOf pd9 rfl) rfl (fun m => ef_k_gv m a) _ (k_gv hw h hz a fa4) 0 rfl (Nat.le_of_eq rfl) (by decide) (by decide) (by decide) (by decide) rfl ?_
  refine Go.astore_n 9 #[.val (.ref s), .val (.ref a), .val (.null), .val (.ref am), .unset] d8_8 rfl rfl rfl ?_
  refine Go.aload_n 10 d8_9 rfl rfl rfl ?_
  refine Go.callOIp [] [] 13 d8_10 (tw52 hw) (tw53 hw) (tw55 hw) (tw50 hw) rfl (tw56 hw) (tw12 hw) (tw57 hw) fa3 pl10 (by decide) (lenOf pd10 rfl) rfl (fun m => ef_k_len m a) _ (k_len hw h hz a fa3 fa6) 0 rfl (Nat.le_of_eq rfl) (by decide) (by decide) (by decide) (by decide) rfl ?_
  refine Go.istore 15 #[.val (.ref s), .val (.ref a), .val (.null), .val (.ref am), .val (.int (List.length cs).toInt32)] d8_13 rfl rfl ?_
  refine Go.aload_n 16 d8_15 rfl rfl rfl ?_
  refine Go.callVIp [] [] 19 d8_16 (tw63 hw) (tw64 hw) (tw66 hw) (tw65 hw) (tw20 hw) (tw67 hw) fa3 pl12 (by decide) (lenOf pd12 rfl) rfl (fun m => ef_k_l1 m a) _ (k_l1 hw h hz a fa9 fa5 (by assumption)) 0 rfl (Nat.le_of_eq rfl) (by decide) (by decide) (by decide) (by decide) rfl ?_
  refine Go.if_eq 41 22 d8_19 (by decide) (by decide) rfl (fun c => absurd c (by decide)) (fun _ => ?_)
  refine Go.aload_n 23 d8_22 rfl rfl rfl ?_
  refine Go.iconst 24 (0) d8_23 (by decide) rfl ?_
  refine Go.putfieldN (ty := .byte) (v' := .int (0 : Int32)) 27 d8_24 (tw68 hw) fa2 fa0 (Or.inr ⟨(tw69 hw), rfl, rfl⟩) (tw38 hw) (by decide) (by decide) (by decide) ge_s rfl (fun h11 W12 => ?_)
  have f13 : Exa Z h11 s "java/lang/String" := fa0.wr W12
  have f14 : Fld Z h11 s "java/lang/String" "value" "[B" (.null) := fa1.other W12 (Or.inr (slot_ne (Or.inr (tw89 hw)) (Or.inr (tw69 hw)) (by decide) (by decide +kernel : parseFieldDescriptor "[B" = some (.array .byte)) (by decide +kernel : parseFieldDescriptor "B" = some .byte)))
  have f15 : Fld Z h11 s "java/lang/String" "coder" "B" (.int (0 : Int32)) := fa2.same W12
  have f16 : Exa Z h11 a "java/lang/StringBuilder" := fa3.wr W12
  have f17 : Fld Z h11 a "java/lang/AbstractStringBuilder" "value" "[B" (.ref am) := fa4.other W12 (Or.inl (Ne.symm ne_s_a))
  have f18 : Fld Z h11 a "java/lang/AbstractStringBuilder" "coder" "B" (.int (0 : Int32)) := fa5.other W12 (Or.inl (Ne.symm ne_s_a))
  have f19 : Fld Z h11 a "java/lang/AbstractStringBuilder" "count" "I" (.int (List.length cs).toInt32) := fa6.other W12 (Or.inl (Ne.symm ne_s_a))
  have f20 : Ari Z h11 am .byte xs := fa7.other W12 (Ne.symm ne_s_am)
  have f21 : Exa Z h11 am "[B" := fa8.wr W12
  have f22 : Sta Z h11 "java/lang/String" "COMPACT_STRINGS" "Z" (.int cz) := fa9.wr W12
  have zs23 : Z.heap.size ≤ h11.size := W12.size ▸ hz
  have kp24 : Keep h h11 [s] := kp0.wr W12 (Or.inl (by simp))
  refine Go.aload_n 28 d8_27 rfl rfl rfl ?_
  refine Go.aload_n 29 d8_28 rfl rfl rfl ?_
  refine Go.iconst 30 (0) d8_29 (by decide) rfl ?_
  refine Go.iload 32 d8_30 rfl rfl ?_
  refine Go.callSR [.ref am, .int (0 : Int32), .int (List.length cs).toInt32] [.ref s] 35 d8_32 (tw70 hw) (tw71 hw) (tw72 hw) (tw73 hw) pl13 (by decide) (lenOf pd13 rfl) rfl (fun m => ef_k_cr m am (0 : Int32) (List.length cs).toInt32) _ (k_cr (cs := cs) hw h11 zs23 am ((List.length cs).toInt32) f20 f21 rfl ok.1 (own_cap34 ok) ok.2.2) 1 rfl (Nat.le_of_eq rfl) (by decide) (by decide) (by decide) (by decide) rfl ?_
  rintro z25 h26 ⟨a28, rfl, g29, K27, f30⟩
  have ne31 : s ≠ a28 := Nat.ne_of_lt (Nat.lt_of_lt_of_le f13.lt g29)
  have ne32 : a ≠ a28 := Nat.ne_of_lt (Nat.lt_of_lt_of_le f16.lt g29)
  have ne33 : am ≠ a28 := Nat.ne_of_lt (Nat.lt_of_lt_of_le f20.lt g29)
  have ge34 : Z.heap.size ≤ a28 := Nat.le_trans zs23 g29
  have fr35 : h.size ≤ a28 := Nat.le_trans kp24.1 g29
  have f36 : Exa Z h26 s "java/lang/String" := f13.keep K27
  have f37 : Fld Z h26 s "java/lang/String" "value" "[B" (.null) := f14.keep K27 nin0
  have f38 : Fld Z h26 s "java/lang/String" "coder" "B" (.int (0 : Int32)) := f15.keep K27 nin0
  have f39 : Exa Z h26 a "java/lang/StringBuilder" := f16.keep K27
  have f40 : Fld Z h26 a "java/lang/AbstractStringBuilder" "value" "[B" (.ref am) := f17.keep K27 nin0
  have f41 : Fld Z h26 a "java/lang/AbstractStringBuilder" "coder" "B" (.int (0 : Int32)) := f18.keep K27 nin0
  have f42 : Fld Z h26 a "java/lang/AbstractStringBuilder" "count" "I" (.int (List.length cs).toInt32) := f19.keep K27 nin0
  have f43 : Ari Z h26 am .byte xs := f20.keep K27 nin0
  have f44 : Exa Z h26 am "[B" := f21.keep K27
  have f45 : Sta Z h26 "java/lang/String" "COMPACT_STRINGS" "Z" (.int cz) := own_staK f22 K27 all0
  have zs46 : Z.heap.size ≤ h26.size := Nat.le_trans zs23 K27.1
  have kp47 : Keep h h26 [s] := kp24.trans K27 all0
  refine Go.putfield (ty := (.array .byte)) 38 d8_35 (tw88 hw) f37 f36 (Or.inr ⟨(tw89 hw), rfl, rfl⟩) (tw38 hw) (by decide) rfl rfl ge_s rfl (fun h48 W49 => ?_)
  have f50 : Exa Z h48 s "java/lang/String" := f36.wr W49
  have f51 : Fld Z h48 s "java/lang/String" "value" "[B" (.ref a28) := f37.same W49
  have f52 : Fld Z h48 s "java/lang/String" "coder" "B" (.int (0 : Int32)) := f38.other W49 (Or.inr (slot_ne (Or.inr (tw69 hw)) (Or.inr (tw89 hw)) (by decide) (by decide +kernel : parseFieldDescriptor "B" = some .byte) (by decide +kernel : parseFieldDescriptor "[B" = some (.array .byte))))
  have f53 : Exa Z h48 a "java/lang/StringBuilder" := f39.wr W49
  have f54 : Fld Z h48 a "java/lang/AbstractStringBuilder" "value" "[B" (.ref am) := f40.other W49 (Or.inl (Ne.symm ne_s_a))
  have f55 : Fld Z h48 a "java/lang/AbstractStringBuilder" "coder" "B" (.int (0 : Int32)) := f41.other W49 (Or.inl (Ne.symm ne_s_a))
  have f56 : Fld Z h48 a "java/lang/AbstractStringBuilder" "count" "I" (.int (List.length cs).toInt32) := f42.other W49 (Or.inl (Ne.symm ne_s_a))
  have f57 : Ari Z h48 am .byte xs := f43.other W49 (Ne.symm ne_s_am)
  have f58 : Exa Z h48 am "[B" := f44.wr W49
  have f59 : Sta Z h48 "java/lang/String" "COMPACT_STRINGS" "Z" (.int cz) := f45.wr W49
  have f60 : Ari Z h48 a28 .byte cs := f30.other W49 (Ne.symm ne31)
  have zs61 : Z.heap.size ≤ h48.size := W49.size ▸ zs46
  have kp62 : Keep h h48 [s] := kp47.wr W49 (Or.inl (by simp))
  refine Go.goto 97 d8_38 (by decide) (by decide) ?_
  refine Go.vreturn d8_97 rfl (by decide) (by decide) ?_
  exact ⟨a28, fr35, kp62, f50, f51, f52, f60⟩

theorem d7_0 : decode jdk_42_method_53_code 0 = .ok (.aload_n 0, 1) := by decide +kernel
theorem d7_1 : decode jdk_42_method_53_code 1 = .ok (.aload_n 1, 1) := by decide +kernel
theorem d7_2 : decode jdk_42_method_53_code 2 = .ok (.aconst_null, 1) := by decide +kernel
theorem d7_3 : decode jdk_42_method_53_code 3 = .ok (.invokespecial 489, 3) := by decide +kernel
theorem d7_6 : decode jdk_42_method_53_code 6 = .ok (.return_, 1) := by decide +kernel

theorem pd7 : parseMethodDescriptor "(Ljava/lang/StringBuilder;)V" = some ⟨[(.object "java/lang/StringBuilder")], none⟩ := by decide +kernel
theorem pl7 : plainFor (⟨"java/lang/String", "<init>", "(Ljava/lang/StringBuilder;)V"⟩ : MethodName) = true := by first | exact plainFor_of_name (by first | (simp [plainName, overriddenIn]; done) | decide +kernel) | decide +kernel

theorem ef_k_s (m : MethodId) (x0 : Addr) (x1 : Addr) : entryFrame m #[(.ref x0), (.ref x1)] 2 = mkF m 0 #[.val (.ref x0), .val (.ref x1)] [] := by first | (simp [entryFrame, mkF, argsToLocals, Value.category]; done) | rfl

set_option maxRecDepth 65536 in
set_option maxHeartbeats 40000000 in
theorem k_s {l : Launch} {Z : State} {a0 : Array Value} (hw : ∀ d ∈ tables_1, d.before a0 Z = true) {am : Addr} {xs : List Int32} {cs : List Int32} {cz : Int32} (h : Heap) (hz : Z.heap.size ≤ h.size) (s : Addr) (a : Addr) (fa0 : Exa Z h s "java/lang/String") (fa1 : Fld Z h s "java/lang/String" "value" "[B" (.null)) (fa2 : Fld Z h s "java/lang/String" "coder" "B" (.int (0 : Int32))) (fa3 : Exa Z h a "java/lang/StringBuilder") (fa4 : Fld Z h a "java/lang/AbstractStringBuilder" "value" "[B" (.ref am)) (fa5 : Fld Z h a "java/lang/AbstractStringBuilder" "coder" "B" (.int (0 : Int32))) (fa6 : Fld Z h a "java/lang/AbstractStringBuilder" "count" "I" (.int (List.length cs).toInt32)) (fa7 : Ari Z h am .byte xs) (fa8 : Exa Z h am "[B") (fa9 : Sta Z h "java/lang/String" "COMPACT_STRINGS" "Z" (.int cz)) (ok : own_cap xs cs) (hcz : ¬ cz = (0 : Int32)) (ge_s : Z.heap.size ≤ s) (ne_s_a : s ≠ a) (ne_s_am : s ≠ am) : Go l Z (⟨"java/lang/String", "<init>", "(Ljava/lang/StringBuilder;)V"⟩ : MethodName) jdk_42_method_53_code 2 (Option.none : Option Jvm.ClassFile.FieldType) ({ frames := 4, cells := 1, slots := 34, locals := 132 } : Room) (QV fun h' => ∃ t : Addr, h.size ≤ t ∧ Keep h h' [s] ∧ Exa Z h' s "java/lang/String" ∧ Fld Z h' s "java/lang/String" "value" "[B" (.ref t) ∧ Fld Z h' s "java/lang/String" "coder" "B" (.int (0 : Int32)) ∧ Ari Z h' t .byte cs) 0 0 h 0 #[.val (.ref s), .val (.ref a)] [] := by
  have kp0 : Keep h h [s] := Keep.refl _ _
  refine Go.aload_n 1 d7_0 rfl rfl rfl ?_
  refine Go.aload_n 2 d7_1 rfl rfl rfl ?_
  refine Go.aconst_null 3 d7_2 rfl ?_
  refine Go.callC [.ref a, .null] [] 6 d7_3 rfl (tw43 hw) (tw44 hw) (tw26 hw) (tw45 hw) pl8 (by decide) (lenOf pd8 rfl) rfl (fun m => ef_k_sA m s a ()) _ (k_sA (cs := cs) hw h hz s a () fa0 fa1 fa2 fa3 fa4 fa5 fa6 fa7 fa8 fa9 (by assumption) (by assumption) ge_s ne_s_a ne_s_am) 0 rfl (Nat.le_of_eq rfl) (by decide) (by decide) (by decide) (by decide) rfl ?_
  rintro h2 ⟨a4, g5, K3, f6, f7, f8, f9⟩
  have ne10 : s ≠ a4 := Nat.ne_of_lt (Nat.lt_of_lt_of_le fa0.lt g5)
  have ne11 : a ≠ a4 := Nat.ne_of_lt (Nat.lt_of_lt_of_le fa3.lt g5)
  have ne12 : am ≠ a4 := Nat.ne_of_lt (Nat.lt_of_lt_of_le fa7.lt g5)
  have ge13 : Z.heap.size ≤ a4 := Nat.le_trans hz g5
  have fr14 : h.size ≤ a4 := Nat.le_trans kp0.1 g5
  have f15 : Exa Z h2 a "java/lang/StringBuilder" := fa3.keep K3
  have f16 : Fld Z h2 a "java/lang/AbstractStringBuilder" "value" "[B" (.ref am) := fa4.keep K3 (ninS (Ne.symm ne_s_a) nin0)
  have f17 : Fld Z h2 a "java/lang/AbstractStringBuilder" "coder" "B" (.int (0 : Int32)) := fa5.keep K3 (ninS (Ne.symm ne_s_a) nin0)
  have f18 : Fld Z h2 a "java/lang/AbstractStringBuilder" "count" "I" (.int (List.length cs).toInt32) := fa6.keep K3 (ninS (Ne.symm ne_s_a) nin0)
  have f19 : Ari Z h2 am .byte xs := fa7.keep K3 (ninS (Ne.symm ne_s_am) nin0)
  have f20 : Exa Z h2 am "[B" := fa8.keep K3
  have f21 : Sta Z h2 "java/lang/String" "COMPACT_STRINGS" "Z" (.int cz) := own_staK fa9 K3 (allS (own_nost fa0) all0)
  have zs22 : Z.heap.size ≤ h2.size := Nat.le_trans hz K3.1
  have kp23 : Keep h h2 [s] := kp0.trans K3 (allS (Or.inl (by simp)) all0)
  refine Go.vreturn d7_6 rfl (by decide) (by decide) ?_
  exact ⟨a4, fr14, kp23, f6, f7, f8, f9⟩

theorem d6_0 : decode jdk_67_method_42_code 0 = .ok (.new 18, 3) := by decide +kernel
theorem d6_3 : decode jdk_67_method_42_code 3 = .ok (.dup, 1) := by decide +kernel
theorem d6_4 : decode jdk_67_method_42_code 4 = .ok (.aload_n 0, 1) := by decide +kernel
theorem d6_5 : decode jdk_67_method_42_code 5 = .ok (.invokespecial 137, 3) := by decide +kernel
theorem d6_8 : decode jdk_67_method_42_code 8 = .ok (.areturn, 1) := by decide +kernel

theorem pd6 : parseMethodDescriptor "()Ljava/lang/String;" = some ⟨[], some (.object "java/lang/String")⟩ := by decide +kernel
theorem pl6 : plainFor (⟨"java/lang/StringBuilder", "toString", "()Ljava/lang/String;"⟩ : MethodName) = true := by first | exact plainFor_of_name (by first | (simp [plainName, overriddenIn]; done) | decide +kernel) | decide +kernel

theorem ef_k_ts (m : MethodId) (x0 : Addr) : entryFrame m #[(.ref x0)] 1 = mkF m 0 #[.val (.ref x0)] [] := by first | (simp [entryFrame, mkF, argsToLocals, Value.category]; done) | rfl

set_option maxRecDepth 65536 in
set_option maxHeartbeats 40000000 in
theorem k_ts {l : Launch} {Z : State} {a0 : Array Value} (hw : ∀ d ∈ tables_1, d.before a0 Z = true) {am : Addr} {xs : List Int32} {cs : List Int32} {cz : Int32} (h : Heap) (hz : Z.heap.size ≤ h.size) (a : Addr) (fa0 : Exa Z h a "java/lang/StringBuilder") (fa1 : Fld Z h a "java/lang/AbstractStringBuilder" "value" "[B" (.ref am)) (fa2 : Fld Z h a "java/lang/AbstractStringBuilder" "coder" "B" (.int (0 : Int32))) (fa3 : Fld Z h a "java/lang/AbstractStringBuilder" "count" "I" (.int (List.length cs).toInt32)) (fa4 : Ari Z h am .byte xs) (fa5 : Exa Z h am "[B") (fa6 : Sta Z h "java/lang/String" "COMPACT_STRINGS" "Z" (.int cz)) (ok : own_cap xs cs) (hcz : ¬ cz = (0 : Int32))   : Go l Z (⟨"java/lang/StringBuilder", "toString", "()Ljava/lang/String;"⟩ : MethodName) jdk_67_method_42_code 1 (Option.some (Jvm.ClassFile.FieldType.object "java/lang/String")) ({ frames := 5, cells := 2, slots := 38, locals := 150 } : Room) (QR fun rz h' => ∃ s t : Addr, rz = .ref s ∧ h.size ≤ s ∧ h.size ≤ t ∧ s ≠ t ∧ Keep h h' [] ∧ Exa Z h' s "java/lang/String" ∧ Fld Z h' s "java/lang/String" "value" "[B" (.ref t) ∧ Fld Z h' s "java/lang/String" "coder" "B" (.int (0 : Int32)) ∧ Ari Z h' t .byte cs) 0 0 h 0 #[.val (.ref a)] [] := by
  have kp0 : Keep h h [] := Keep.refl _ _
  refine Go.new 3 d6_0 (tw37 hw) (tw38 hw) (tw26 hw) (by decide) (by decide) rfl (fun a1 h2 q3 E4 A5 D6 => ?_)
  have ne7 : a ≠ a1 := fun e => absurd fa0.lt (by rw [e, q3]; exact Nat.lt_irrefl _)
  have ne8 : am ≠ a1 := fun e => absurd fa4.lt (by rw [e, q3]; exact Nat.lt_irrefl _)
  have ge9 : Z.heap.size ≤ a1 := (Eq.symm q3) ▸ hz
  have fr10 : h.size ≤ a1 := by rw [q3]; exact kp0.1
  have f11 : Exa Z h2 a "java/lang/StringBuilder" := fa0.ext E4
  have f12 : Fld Z h2 a "java/lang/AbstractStringBuilder" "value" "[B" (.ref am) := fa1.ext E4
  have f13 : Fld Z h2 a "java/lang/AbstractStringBuilder" "coder" "B" (.int (0 : Int32)) := fa2.ext E4
  have f14 : Fld Z h2 a "java/lang/AbstractStringBuilder" "count" "I" (.int (List.length cs).toInt32) := fa3.ext E4
  have f15 : Ari Z h2 am .byte xs := fa4.ext E4
  have f16 : Exa Z h2 am "[B" := fa5.ext E4
  have f17 : Sta Z h2 "java/lang/String" "COMPACT_STRINGS" "Z" (.int cz) := fa6.ext E4
  have zs18 : Z.heap.size ≤ h2.size := Nat.le_trans hz E4.1
  have kp19 : Keep h h2 [] := kp0.ext E4
  have f20 : Fld Z h2 a1 "java/lang/String" "coder" "B" (.int (0 : Int32)) := D6 (Or.inr (tw69 hw)) (ty := .byte) (by decide)
  have f21 : Fld Z h2 a1 "java/lang/String" "value" "[B" (.null) := D6 (Or.inr (tw89 hw)) (ty := (.array .byte)) (by decide)
  refine Go.dup 4 d6_3 rfl rfl ?_
  refine Go.aload_n 5 d6_4 rfl rfl rfl ?_
  refine Go.callC [.ref a] [.ref a1] 8 d6_5 rfl (tw39 hw) (tw40 hw) (tw26 hw) (tw42 hw) pl7 (by decide) (lenOf pd7 rfl) rfl (fun m => ef_k_s m a1 a) _ (k_s (cs := cs) hw h2 zs18 a1 a A5 f21 f20 f11 f12 f13 f14 f15 f16 f17 (by assumption) (by assumption) ge9 (Ne.symm ne7) (Ne.symm ne8)) 1 rfl (Nat.le_of_eq rfl) (by decide) (by decide) (by decide) (by decide) rfl ?_
  rintro h23 ⟨a25, g26, K24, f27, f28, f29, f30⟩
  have ne31 : a ≠ a25 := Nat.ne_of_lt (Nat.lt_of_lt_of_le f11.lt g26)
  have ne32 : am ≠ a25 := Nat.ne_of_lt (Nat.lt_of_lt_of_le f15.lt g26)
  have ne33 : a1 ≠ a25 := Nat.ne_of_lt (Nat.lt_of_lt_of_le A5.lt g26)
  have ge34 : Z.heap.size ≤ a25 := Nat.le_trans zs18 g26
  have fr35 : h.size ≤ a25 := Nat.le_trans kp19.1 g26
  have f36 : Exa Z h23 a "java/lang/StringBuilder" := f11.keep K24
  have f37 : Fld Z h23 a "java/lang/AbstractStringBuilder" "value" "[B" (.ref am) := f12.keep K24 (ninS ne7 nin0)
  have f38 : Fld Z h23 a "java/lang/AbstractStringBuilder" "coder" "B" (.int (0 : Int32)) := f13.keep K24 (ninS ne7 nin0)
  have f39 : Fld Z h23 a "java/lang/AbstractStringBuilder" "count" "I" (.int (List.length cs).toInt32) := f14.keep K24 (ninS ne7 nin0)
  have f40 : Ari Z h23 am .byte xs := f15.keep K24 (ninS ne8 nin0)
  have f41 : Exa Z h23 am "[B" := f16.keep K24
  have f42 : Sta Z h23 "java/lang/String" "COMPACT_STRINGS" "Z" (.int cz) := own_staK f17 K24 (allS (own_nost A5) all0)
  have zs43 : Z.heap.size ≤ h23.size := Nat.le_trans zs18 K24.1
  have kp44 : Keep h h23 [] := kp19.trans K24 (allS (Or.inr fr10) all0)
  refine Go.areturn d6_8 rfl rfl rfl (by decide) (by decide) ?_
  exact ⟨a1, a25, rfl, fr10, fr35, ne33, kp44, f27, f28, f29, f30⟩

theorem d2_0 : decode prog_2_method_3_code 0 = .ok (.new 40, 3) := by decide +kernel
theorem d2_3 : decode prog_2_method_3_code 3 = .ok (.dup, 1) := by decide +kernel
theorem d2_4 : decode prog_2_method_3_code 4 = .ok (.invokespecial 42, 3) := by decide +kernel
theorem d2_7 : decode prog_2_method_3_code 7 = .ok (.astore_n 1, 1) := by decide +kernel
theorem d2_8 : decode prog_2_method_3_code 8 = .ok (.aload_n 0, 1) := by decide +kernel
theorem d2_9 : decode prog_2_method_3_code 9 = .ok (.astore_n 2, 1) := by decide +kernel
theorem d2_10 : decode prog_2_method_3_code 10 = .ok (.aload_n 2, 1) := by decide +kernel
theorem d2_11 : decode prog_2_method_3_code 11 = .ok (.arraylength, 1) := by decide +kernel
theorem d2_12 : decode prog_2_method_3_code 12 = .ok (.istore_n 3, 1) := by decide +kernel
theorem d2_13 : decode prog_2_method_3_code 13 = .ok (.iconst 0, 1) := by decide +kernel
theorem d2_14 : decode prog_2_method_3_code 14 = .ok (.istore 4, 2) := by decide +kernel
theorem d2_16 : decode prog_2_method_3_code 16 = .ok (.iload 4, 2) := by decide +kernel
theorem d2_18 : decode prog_2_method_3_code 18 = .ok (.iload_n 3, 1) := by decide +kernel
theorem d2_19 : decode prog_2_method_3_code 19 = .ok (.if_icmp .ge 38, 3) := by decide +kernel
theorem d2_22 : decode prog_2_method_3_code 22 = .ok (.aload_n 2, 1) := by decide +kernel
theorem d2_23 : decode prog_2_method_3_code 23 = .ok (.iload 4, 2) := by decide +kernel
theorem d2_25 : decode prog_2_method_3_code 25 = .ok (.iaload, 1) := by decide +kernel
theorem d2_26 : decode prog_2_method_3_code 26 = .ok (.istore 5, 2) := by decide +kernel
theorem d2_28 : decode prog_2_method_3_code 28 = .ok (.aload_n 1, 1) := by decide +kernel
theorem d2_29 : decode prog_2_method_3_code 29 = .ok (.invokevirtual 43, 3) := by decide +kernel
theorem d2_32 : decode prog_2_method_3_code 32 = .ok (.ifCond .le 10, 3) := by decide +kernel
theorem d2_35 : decode prog_2_method_3_code 35 = .ok (.aload_n 1, 1) := by decide +kernel
theorem d2_36 : decode prog_2_method_3_code 36 = .ok (.bipush 32, 2) := by decide +kernel
theorem d2_38 : decode prog_2_method_3_code 38 = .ok (.invokevirtual 47, 3) := by decide +kernel
theorem d2_41 : decode prog_2_method_3_code 41 = .ok (.pop, 1) := by decide +kernel
theorem d2_42 : decode prog_2_method_3_code 42 = .ok (.aload_n 1, 1) := by decide +kernel
theorem d2_43 : decode prog_2_method_3_code 43 = .ok (.iload 5, 2) := by decide +kernel
theorem d2_45 : decode prog_2_method_3_code 45 = .ok (.iconst 1, 1) := by decide +kernel
theorem d2_46 : decode prog_2_method_3_code 46 = .ok (.iadd, 1) := by decide +kernel
theorem d2_47 : decode prog_2_method_3_code 47 = .ok (.invokevirtual 51, 3) := by decide +kernel
theorem d2_50 : decode prog_2_method_3_code 50 = .ok (.pop, 1) := by decide +kernel
theorem d2_51 : decode prog_2_method_3_code 51 = .ok (.iinc 4 1, 3) := by decide +kernel
theorem d2_54 : decode prog_2_method_3_code 54 = .ok (.goto (-38), 3) := by decide +kernel
theorem d2_57 : decode prog_2_method_3_code 57 = .ok (.aload_n 1, 1) := by decide +kernel
theorem d2_58 : decode prog_2_method_3_code 58 = .ok (.invokevirtual 54, 3) := by decide +kernel
theorem d2_61 : decode prog_2_method_3_code 61 = .ok (.areturn, 1) := by decide +kernel

theorem pd2 : parseMethodDescriptor "([I)Ljava/lang/String;" = some ⟨[(.array .int)], some (.object "java/lang/String")⟩ := by decide +kernel
theorem pl2 : plainFor (⟨"com/example/medianpoint/medianpoint/AnswerPrinter", "siteNumbers", "([I)Ljava/lang/String;"⟩ : MethodName) = true := by first | exact plainFor_of_name (by first | (simp [plainName, overriddenIn]; done) | decide +kernel) | decide +kernel

theorem ef_k_sn0 (m : MethodId) (x0 : Addr) : entryFrame m #[(.ref x0)] 6 = mkF m 0 #[.val (.ref x0), .unset, .unset, .unset, .unset, .unset] [] := by first | (simp [entryFrame, mkF, argsToLocals, Value.category]; done) | rfl

set_option maxRecDepth 65536 in
set_option maxHeartbeats 40000000 in
theorem k_sn0 {l : Launch} {Z : State} {a0 : Array Value} (hw : ∀ d ∈ tables_1, d.before a0 Z = true) {cz : Int32} {r1 : Addr} {r2 : Addr} (h : Heap) (hz : Z.heap.size ≤ h.size) (r : Addr) (fa0 : Ari Z h r .int []) (fa1 : Sta Z h "java/lang/String" "COMPACT_STRINGS" "Z" (.int cz)) (fa2 : Sta Z h "java/lang/Integer" "DigitOnes" "[B" (.ref r1)) (fa3 : Ari Z h r1 .byte own_ones) (fa4 : Sta Z h "java/lang/Integer" "DigitTens" "[B" (.ref r2)) (fa5 : Ari Z h r2 .byte own_tens) (hcz : ¬ cz = (0 : Int32)) (o1 : r1 < Z.heap.size) (o2 : r2 < Z.heap.size)   : Go l Z (⟨"com/example/medianpoint/medianpoint/AnswerPrinter", "siteNumbers", "([I)Ljava/lang/String;"⟩ : MethodName) prog_2_method_3_code 6 (Option.some (Jvm.ClassFile.FieldType.object "java/lang/String")) ({ frames := 6, cells := 12, slots := 240, locals := 170 } : Room) (QR fun rz h' => ∃ s t : Addr, rz = .ref s ∧ h.size ≤ s ∧ h.size ≤ t ∧ s ≠ t ∧ Keep h h' [] ∧ Exa Z h' s "java/lang/String" ∧ Fld Z h' s "java/lang/String" "value" "[B" (.ref t) ∧ Fld Z h' s "java/lang/String" "coder" "B" (.int (0 : Int32)) ∧ Ari Z h' t .byte []) 0 0 h 0 #[.val (.ref r), .unset, .unset, .unset, .unset, .unset] [] := by
  have kp0 : Keep h h [] := Keep.refl _ _
  refine Go.new 3 d2_0 (tw10 hw) (tw11 hw) (tw12 hw) (by decide) (by decide) rfl (fun a1 h2 q3 E4 A5 D6 => ?_)
  have ne7 : r ≠ a1 := fun e => absurd fa0.lt (by rw [e, q3]; exact Nat.lt_irrefl _)
  have ne8 : r1 ≠ a1 := fun e => absurd fa3.lt (by rw [e, q3]; exact Nat.lt_irrefl _)
  have ne9 : r2 ≠ a1 := fun e => absurd fa5.lt (by rw [e, q3]; exact Nat.lt_irrefl _)
  have ge10 : Z.heap.size ≤ a1 := (Eq.symm q3) ▸ hz
  have fr11 : h.size ≤ a1 := by rw [q3]; exact kp0.1
  have f12 : Ari Z h2 r .int [] := fa0.ext E4
  have f13 : Sta Z h2 "java/lang/String" "COMPACT_STRINGS" "Z" (.int cz) := fa1.ext E4
  have f14 : Sta Z h2 "java/lang/Integer" "DigitOnes" "[B" (.ref r1) := fa2.ext E4
  have f15 : Ari Z h2 r1 .byte own_ones := fa3.ext E4
  have f16 : Sta Z h2 "java/lang/Integer" "DigitTens" "[B" (.ref r2) := fa4.ext E4
  have f17 : Ari Z h2 r2 .byte own_tens := fa5.ext E4
  have zs18 : Z.heap.size ≤ h2.size := Nat.le_trans hz E4.1
  have kp19 : Keep h h2 [] := kp0.ext E4
  have f20 : Fld Z h2 a1 "java/lang/AbstractStringBuilder" "value" "[B" (.null) := D6 (Or.inl (tw29 hw)) (ty := (.array .byte)) (by decide)
  have f21 : Fld Z h2 a1 "java/lang/AbstractStringBuilder" "coder" "B" (.int (0 : Int32)) := D6 (Or.inl (tw31 hw)) (ty := .byte) (by decide)
  have f22 : Fld Z h2 a1 "java/lang/AbstractStringBuilder" "count" "I" (.int (0 : Int32)) := D6 (Or.inl (tw62 hw)) (ty := .int) (by decide)
  refine Go.dup 4 d2_3 rfl rfl ?_
  refine Go.callC [] [.ref a1] 7 d2_4 rfl (tw13 hw) (tw14 hw) (tw12 hw) (tw15 hw) pl3 (by decide) (lenOf pd3 rfl) rfl (fun m => ef_k_i m a1) _ (k_i hw h2 zs18 a1 A5 f20 f21 f22 f13 (by assumption) ge10) 1 rfl (Nat.le_of_eq rfl) (by decide) (by decide) (by decide) (by decide) rfl ?_
  rintro h24 ⟨a26, g27, K25, f28, f29, f30, f31, f32, f33⟩
  have ne34 : r ≠ a26 := Nat.ne_of_lt (Nat.lt_of_lt_of_le f12.lt g27)
  have ne35 : r1 ≠ a26 := Nat.ne_of_lt (Nat.lt_of_lt_of_le f15.lt g27)
  have ne36 : r2 ≠ a26 := Nat.ne_of_lt (Nat.lt_of_lt_of_le f17.lt g27)
  have ne37 : a1 ≠ a26 := Nat.ne_of_lt (Nat.lt_of_lt_of_le A5.lt g27)
  have ge38 : Z.heap.size ≤ a26 := Nat.le_trans zs18 g27
  have fr39 : h.size ≤ a26 := Nat.le_trans kp19.1 g27
  have f40 : Ari Z h24 r .int [] := f12.keep K25 (ninS ne7 nin0)
  have f41 : Sta Z h24 "java/lang/String" "COMPACT_STRINGS" "Z" (.int cz) := own_staK f13 K25 (allS (own_nost A5) all0)
  have f42 : Sta Z h24 "java/lang/Integer" "DigitOnes" "[B" (.ref r1) := own_staK f14 K25 (allS (own_nost A5) all0)
  have f43 : Ari Z h24 r1 .byte own_ones := f15.keep K25 (ninS ne8 nin0)
  have f44 : Sta Z h24 "java/lang/Integer" "DigitTens" "[B" (.ref r2) := own_staK f16 K25 (allS (own_nost A5) all0)
  have f45 : Ari Z h24 r2 .byte own_tens := f17.keep K25 (ninS ne9 nin0)
  have zs46 : Z.heap.size ≤ h24.size := Nat.le_trans zs18 K25.1
  have kp47 : Keep h h24 [] := kp19.trans K25 (allS (Or.inr fr11) all0)
  have ne48 : a26 ≠ r1 := Nat.ne_of_gt (Nat.lt_of_lt_of_le o1 ge38)
  have ne49 : a26 ≠ r2 := Nat.ne_of_gt (Nat.lt_of_lt_of_le o2 ge38)
  refine Go.astore_n 8 #[.val (.ref r), .val (.ref a1), .unset, .unset, .unset, .unset] d2_7 rfl rfl rfl ?_
  refine Go.aload_n 9 d2_8 rfl rfl rfl ?_
  refine Go.astore_n 10 #[.val (.ref r), .val (.ref a1), .val (.ref r), .unset, .unset, .unset] d2_9 rfl rfl rfl ?_
  refine Go.aload_n 11 d2_10 rfl rfl rfl ?_
  refine Go.arraylength (z := (0 : Int32)) 12 d2_11 f40 (by decide : Nat.toInt32 0 = (0 : Int32)) rfl ?_
  refine Go.istore_n 13 #[.val (.ref r), .val (.ref a1), .val (.ref r), .val (.int (0 : Int32)), .unset, .unset] d2_12 rfl rfl ?_
  refine Go.iconst 14 (0) d2_13 (by decide) rfl ?_
  refine Go.istore 16 #[.val (.ref r), .val (.ref a1), .val (.ref r), .val (.int (0 : Int32)), .val (.int (0 : Int32)), .unset] d2_14 rfl rfl ?_
  refine Go.iload 18 d2_16 rfl rfl ?_
  refine Go.iload_n 19 d2_18 rfl rfl ?_
  refine Go.icmp_ge 57 22 d2_19 (by decide) (by decide) rfl (fun _ => ?_) (fun c => absurd c (by decide))
  refine Go.aload_n 58 d2_57 rfl rfl rfl ?_
  refine Go.callVR [] [] 61 d2_58 (tw32 hw) (tw33 hw) (tw35 hw) (tw34 hw) (tw12 hw) (tw36 hw) f28 pl6 (by decide) (lenOf pd6 rfl) rfl (fun m => ef_k_ts m a1) _ (k_ts (cs := []) hw h24 zs46 a1 f28 f31 f29 f30 f32 f33 f41 own_capinit (by assumption)) 0 rfl (Nat.le_of_eq rfl) (by decide) (by decide) (by decide) (by decide) rfl ?_
  rintro z51 h52 ⟨a54, a55, rfl, g56, g57, ne58, K53, f59, f60, f61, f62⟩
  have ne63 : r ≠ a54 := Nat.ne_of_lt (Nat.lt_of_lt_of_le f40.lt g56)
  have ne64 : r1 ≠ a54 := Nat.ne_of_lt (Nat.lt_of_lt_of_le f43.lt g56)
  have ne65 : r2 ≠ a54 := Nat.ne_of_lt (Nat.lt_of_lt_of_le f45.lt g56)
  have ne66 : a1 ≠ a54 := Nat.ne_of_lt (Nat.lt_of_lt_of_le f28.lt g56)
  have ne67 : a26 ≠ a54 := Nat.ne_of_lt (Nat.lt_of_lt_of_le f32.lt g56)
  have ge68 : Z.heap.size ≤ a54 := Nat.le_trans zs46 g56
  have fr69 : h.size ≤ a54 := Nat.le_trans kp47.1 g56
  have ne70 : r ≠ a55 := Nat.ne_of_lt (Nat.lt_of_lt_of_le f40.lt g57)
  have ne71 : r1 ≠ a55 := Nat.ne_of_lt (Nat.lt_of_lt_of_le f43.lt g57)
  have ne72 : r2 ≠ a55 := Nat.ne_of_lt (Nat.lt_of_lt_of_le f45.lt g57)
  have ne73 : a1 ≠ a55 := Nat.ne_of_lt (Nat.lt_of_lt_of_le f28.lt g57)
  have ne74 : a26 ≠ a55 := Nat.ne_of_lt (Nat.lt_of_lt_of_le f32.lt g57)
  have ge75 : Z.heap.size ≤ a55 := Nat.le_trans zs46 g57
  have fr76 : h.size ≤ a55 := Nat.le_trans kp47.1 g57
  have f77 : Ari Z h52 r .int [] := f40.keep K53 nin0
  have f78 : Sta Z h52 "java/lang/String" "COMPACT_STRINGS" "Z" (.int cz) := own_staK f41 K53 all0
  have f79 : Sta Z h52 "java/lang/Integer" "DigitOnes" "[B" (.ref r1) := own_staK f42 K53 all0
  have f80 : Ari Z h52 r1 .byte own_ones := f43.keep K53 nin0
  have f81 : Sta Z h52 "java/lang/Integer" "DigitTens" "[B" (.ref r2) := own_staK f44 K53 all0
  have f82 : Ari Z h52 r2 .byte own_tens := f45.keep K53 nin0
  have f83 : Exa Z h52 a1 "java/lang/StringBuilder" := f28.keep K53
  have f84 : Fld Z h52 a1 "java/lang/AbstractStringBuilder" "coder" "B" (.int (0 : Int32)) := f29.keep K53 nin0
  have f85 : Fld Z h52 a1 "java/lang/AbstractStringBuilder" "count" "I" (.int (0 : Int32)) := f30.keep K53 nin0
  have f86 : Fld Z h52 a1 "java/lang/AbstractStringBuilder" "value" "[B" (.ref a26) := f31.keep K53 nin0
  have f87 : Ari Z h52 a26 .byte [0, 0, 0, 0, 0, 0, 0, 0, 0, 0, 0, 0, 0, 0, 0, 0] := f32.keep K53 nin0
  have f88 : Exa Z h52 a26 "[B" := f33.keep K53
  have zs89 : Z.heap.size ≤ h52.size := Nat.le_trans zs46 K53.1
  have kp90 : Keep h h52 [] := kp47.trans K53 all0
  refine Go.areturn d2_61 rfl rfl rfl (by decide) (by decide) ?_
  exact ⟨a54, a55, rfl, fr69, fr76, ne58, kp90, f59, f60, f61, f62⟩

theorem ef_k_sn1 (m : MethodId) (x0 : Addr) : entryFrame m #[(.ref x0)] 6 = mkF m 0 #[.val (.ref x0), .unset, .unset, .unset, .unset, .unset] [] := by first | (simp [entryFrame, mkF, argsToLocals, Value.category]; done) | rfl

set_option maxRecDepth 65536 in
set_option maxHeartbeats 40000000 in
theorem k_sn1 {l : Launch} {Z : State} {a0 : Array Value} (hw : ∀ d ∈ tables_1, d.before a0 Z = true) {cz : Int32} {r1 : Addr} {r2 : Addr} {s0 : Int32} (h : Heap) (hz : Z.heap.size ≤ h.size) (r : Addr) (fa0 : Ari Z h r .int [s0]) (fa1 : Sta Z h "java/lang/String" "COMPACT_STRINGS" "Z" (.int cz)) (fa2 : Sta Z h "java/lang/Integer" "DigitOnes" "[B" (.ref r1)) (fa3 : Ari Z h r1 .byte own_ones) (fa4 : Sta Z h "java/lang/Integer" "DigitTens" "[B" (.ref r2)) (fa5 : Ari Z h r2 .byte own_tens) (hcz : ¬ cz = (0 : Int32)) (o1 : r1 < Z.heap.size) (o2 : r2 < Z.heap.size) (hv0 : 0 < (s0 + (1 : Int32)).toInt)   : Go l Z (⟨"com/example/medianpoint/medianpoint/AnswerPrinter", "siteNumbers", "([I)Ljava/lang/String;"⟩ : MethodName) prog_2_method_3_code 6 (Option.some (Jvm.ClassFile.FieldType.object "java/lang/String")) ({ frames := 6, cells := 12, slots := 240, locals := 170 } : Room) (QR fun rz h' => ∃ s t : Addr, rz = .ref s ∧ h.size ≤ s ∧ h.size ≤ t ∧ s ≠ t ∧ Keep h h' [] ∧ Exa Z h' s "java/lang/String" ∧ Fld Z h' s "java/lang/String" "value" "[B" (.ref t) ∧ Fld Z h' s "java/lang/String" "coder" "B" (.int (0 : Int32)) ∧ Ari Z h' t .byte ([] ++ own_dec (s0 + (1 : Int32)))) 0 0 h 0 #[.val (.ref r), .unset, .unset, .unset, .unset, .unset] [] := by
  have kp0 : Keep h h [] := Keep.refl _ _
  have hd0 := own_nd10 (s0 + (1 : Int32))
  have hm0 := own_nd1 (s0 + (1 : Int32))
  refine Go.new 3 d2_0 (tw10 hw) (tw11 hw) (tw12 hw) (by decide) (by decide) rfl (fun a1 h2 q3 E4 A5 D6 => ?_)
  have ne7 : r ≠ a1 := fun e => absurd fa0.lt (by rw [e, q3]; exact Nat.lt_irrefl _)
  have ne8 : r1 ≠ a1 := fun e => absurd fa3.lt (by rw [e, q3]; exact Nat.lt_irrefl _)
  have ne9 : r2 ≠ a1 := fun e => absurd fa5.lt (by rw [e, q3]; exact Nat.lt_irrefl _)
  have ge10 : Z.heap.size ≤ a1 := (Eq.symm q3) ▸ hz
  have fr11 : h.size ≤ a1 := by rw [q3]; exact kp0.1
  have f12 : Ari Z h2 r .int [s0] := fa0.ext E4
  have f13 : Sta Z h2 "java/lang/String" "COMPACT_STRINGS" "Z" (.int cz) := fa1.ext E4
  have f14 : Sta Z h2 "java/lang/Integer" "DigitOnes" "[B" (.ref r1) := fa2.ext E4
  have f15 : Ari Z h2 r1 .byte own_ones := fa3.ext E4
  have f16 : Sta Z h2 "java/lang/Integer" "DigitTens" "[B" (.ref r2) := fa4.ext E4
  have f17 : Ari Z h2 r2 .byte own_tens := fa5.ext E4
  have zs18 : Z.heap.size ≤ h2.size := Nat.le_trans hz E4.1
  have kp19 : Keep h h2 [] := kp0.ext E4
  have f20 : Fld Z h2 a1 "java/lang/AbstractStringBuilder" "value" "[B" (.null) := D6 (Or.inl (tw29 hw)) (ty := (.array .byte)) (by decide)
  have f21 : Fld Z h2 a1 "java/lang/AbstractStringBuilder" "coder" "B" (.int (0 : Int32)) := D6 (Or.inl (tw31 hw)) (ty := .byte) (by decide)
  have f22 : Fld Z h2 a1 "java/lang/AbstractStringBuilder" "count" "I" (.int (0 : Int32)) := D6 (Or.inl (tw62 hw)) (ty := .int) (by decide)
  refine Go.dup 4 d2_3 rfl rfl ?_
  refine Go.callC [] [.ref a1] 7 d2_4 rfl (tw13 hw) (tw14 hw) (tw12 hw) (tw15 hw) pl3 (by decide) (lenOf pd3 rfl) rfl (fun m => ef_k_i m a1) _ (k_i hw h2 zs18 a1 A5 f20 f21 f22 f13 (by assumption) ge10) 1 rfl (Nat.le_of_eq rfl) (by decide) (by decide) (by decide) (by decide) rfl ?_
  rintro h24 ⟨a26, g27, K25, f28, f29, f30, f31, f32, f33⟩
  have ne34 : r ≠ a26 := Nat.ne_of_lt (Nat.lt_of_lt_of_le f12.lt g27)
  have ne35 : r1 ≠ a26 := Nat.ne_of_lt (Nat.lt_of_lt_of_le f15.lt g27)
  have ne36 : r2 ≠ a26 := Nat.ne_of_lt (Nat.lt_of_lt_of_le f17.lt g27)
  have ne37 : a1 ≠ a26 := Nat.ne_of_lt (Nat.lt_of_lt_of_le A5.lt g27)
  have ge38 : Z.heap.size ≤ a26 := Nat.le_trans zs18 g27
  have fr39 : h.size ≤ a26 := Nat.le_trans kp19.1 g27
  have f40 : Ari Z h24 r .int [s0] := f12.keep K25 (ninS ne7 nin0)
  have f41 : Sta Z h24 "java/lang/String" "COMPACT_STRINGS" "Z" (.int cz) := own_staK f13 K25 (allS (own_nost A5) all0)
  have f42 : Sta Z h24 "java/lang/Integer" "DigitOnes" "[B" (.ref r1) := own_staK f14 K25 (allS (own_nost A5) all0)
  have f43 : Ari Z h24 r1 .byte own_ones := f15.keep K25 (ninS ne8 nin0)
  have f44 : Sta Z h24 "java/lang/Integer" "DigitTens" "[B" (.ref r2) := own_staK f16 K25 (allS (own_nost A5) all0)
  have f45 : Ari Z h24 r2 .byte own_tens := f17.keep K25 (ninS ne9 nin0)
  have zs46 : Z.heap.size ≤ h24.size := Nat.le_trans zs18 K25.1
  have kp47 : Keep h h24 [] := kp19.trans K25 (allS (Or.inr fr11) all0)
  have ne48 : a26 ≠ r1 := Nat.ne_of_gt (Nat.lt_of_lt_of_le o1 ge38)
  have ne49 : a26 ≠ r2 := Nat.ne_of_gt (Nat.lt_of_lt_of_le o2 ge38)
  refine Go.astore_n 8 #[.val (.ref r), .val (.ref a1), .unset, .unset, .unset, .unset] d2_7 rfl rfl rfl ?_
  refine Go.aload_n 9 d2_8 rfl rfl rfl ?_
  refine Go.astore_n 10 #[.val (.ref r), .val (.ref a1), .val (.ref r), .unset, .unset, .unset] d2_9 rfl rfl rfl ?_
  refine Go.aload_n 11 d2_10 rfl rfl rfl ?_
  refine Go.arraylength (z := (1 : Int32)) 12 d2_11 f40 (by decide : Nat.toInt32 1 = (1 : Int32)) rfl ?_
  refine Go.istore_n 13 #[.val (.ref r), .val (.ref a1), .val (.ref r), .val (.int (1 : Int32)), .unset, .unset] d2_12 rfl rfl ?_
  refine Go.iconst 14 (0) d2_13 (by decide) rfl ?_
  refine Go.istore 16 #[.val (.ref r), .val (.ref a1), .val (.ref r), .val (.int (1 : Int32)), .val (.int (0 : Int32)), .unset] d2_14 rfl rfl ?_
  refine Go.iload 18 d2_16 rfl rfl ?_
  refine Go.iload_n 19 d2_18 rfl rfl ?_
  refine Go.icmp_ge 57 22 d2_19 (by decide) (by decide) rfl (fun c => absurd c (by decide)) (fun _ => ?_)
  refine Go.aload_n 23 d2_22 rfl rfl rfl ?_
  refine Go.iload 25 d2_23 rfl rfl ?_
  refine Go.iaload (x := s0) (0) 26 d2_25 f40 (by decide) (by decide) rfl rfl ?_
  refine Go.istore 28 #[.val (.ref r), .val (.ref a1), .val (.ref r), .val (.int (1 : Int32)), .val (.int (0 : Int32)), .val (.int s0)] d2_26 rfl rfl ?_
  refine Go.aload_n 29 d2_28 rfl rfl rfl ?_
  refine Go.callVIp [] [] 32 d2_29 (tw95 hw) (tw96 hw) (tw97 hw) (tw56 hw) (tw12 hw) (tw57 hw) f28 pl10 (by decide) (lenOf pd10 rfl) rfl (fun m => ef_k_len m a1) _ (k_len hw h24 zs46 a1 f28 f30) 0 rfl (Nat.le_of_eq rfl) (by decide) (by decide) (by decide) (by decide) rfl ?_
  refine Go.if_le 42 35 d2_32 (by decide) (by decide) rfl (fun _ => ?_) (fun c => absurd c (by decide))
  have f55 : Fld Z h24 a1 "java/lang/AbstractStringBuilder" "count" "I" (.int (List.length ([] : List Int32)).toInt32) := own_l0.symm ▸ f30
  refine Go.aload_n 43 d2_42 rfl rfl rfl ?_
  refine Go.iload 45 d2_43 rfl rfl ?_
  refine Go.iconst 46 (1) d2_45 (by decide) rfl ?_
  refine Go.iadd 47 d2_46 rfl ?_
  refine Go.callVRe [.int (s0 + (1 : Int32))] [] 50 d2_47 (tw98 hw) (tw99 hw) (tw101 hw) (tw100 hw) (tw12 hw) (tw102 hw) f28 pl18 (by decide) (lenOf pd18 rfl) rfl (fun m => ef_k_ai m a1 (s0 + (1 : Int32))) _ _ (k_ai (cs := []) hw h24 zs46 a1 ((s0 + (1 : Int32))) f28 f31 f29 f55 f32 f33 f41 f42 f43 f44 f45 own_capinit (by assumption) hv0 (by simp only [List.length_append, List.length_cons, List.length_nil, own_declen hv0]; omega) (by assumption) (by assumption) ge10 ge38 ne37 ne48 ne49 (Ne.symm ne8) (Ne.symm ne9)) 0 rfl (Nat.le_of_eq rfl) (by decide) (by decide) (by decide) (by decide) rfl ?_
  rintro h57 ⟨K58, f59, f60, f61, x62⟩
  have f63 : Ari Z h57 r .int [s0] := f40.keep K58 (ninS ne7 (ninS ne34 nin0))
  have f64 : Sta Z h57 "java/lang/String" "COMPACT_STRINGS" "Z" (.int cz) := own_staK f41 K58 (allS (own_nost f28) (allS (Ari.nostat f32) all0))
  have f65 : Sta Z h57 "java/lang/Integer" "DigitOnes" "[B" (.ref r1) := own_staK f42 K58 (allS (own_nost f28) (allS (Ari.nostat f32) all0))
  have f66 : Ari Z h57 r1 .byte own_ones := f43.keep K58 (ninS ne8 (ninS ne35 nin0))
  have f67 : Sta Z h57 "java/lang/Integer" "DigitTens" "[B" (.ref r2) := own_staK f44 K58 (allS (own_nost f28) (allS (Ari.nostat f32) all0))
  have f68 : Ari Z h57 r2 .byte own_tens := f45.keep K58 (ninS ne9 (ninS ne36 nin0))
  have f69 : Exa Z h57 a26 "[B" := f33.keep K58
  have zs70 : Z.heap.size ≤ h57.size := Nat.le_trans zs46 K58.1
  have kp71 : Keep h h57 [] := kp47.trans K58 (allS (Or.inr fr11) (allS (Or.inr fr39) all0))
  obtain ⟨am71, xs71, fe71, ar71, eb71, na71, ga71, ok71, px71_0⟩ := x62
  have ne73 : am71 ≠ r1 := Nat.ne_of_gt (Nat.lt_of_lt_of_le o1 ga71)
  have ne74 : am71 ≠ r2 := Nat.ne_of_gt (Nat.lt_of_lt_of_le o2 ga71)
  refine Go.pop 51 d2_50 rfl rfl ?_
  refine Go.iinc 54 (1) #[.val (.ref r), .val (.ref a1), .val (.ref r), .val (.int (1 : Int32)), .val (.int ((0 : Int32) + (1 : Int32))), .val (.int s0)] d2_51 (by decide) rfl rfl rfl ?_
  refine Go.goto 16 d2_54 (by decide) (by decide) ?_
  refine Go.iload 18 d2_16 rfl rfl ?_
  refine Go.iload_n 19 d2_18 rfl rfl ?_
  refine Go.icmp_ge 57 22 d2_19 (by decide) (by decide) rfl (fun _ => ?_) (fun c => absurd c (by decide))
  refine Go.aload_n 58 d2_57 rfl rfl rfl ?_
  refine Go.callVR [] [] 61 d2_58 (tw32 hw) (tw33 hw) (tw35 hw) (tw34 hw) (tw12 hw) (tw36 hw) f59 pl6 (by decide) (lenOf pd6 rfl) rfl (fun m => ef_k_ts m a1) _ (k_ts (cs := ([] ++ own_dec (s0 + (1 : Int32)))) hw h57 zs70 a1 f59 fe71 f60 f61 ar71 eb71 f64 ok71 (by assumption)) 0 rfl (Nat.le_of_eq rfl) (by decide) (by decide) (by decide) (by decide) rfl ?_
  rintro z76 h77 ⟨a79, a80, rfl, g81, g82, ne83, K78, f84, f85, f86, f87⟩
  have ne88 : r ≠ a79 := Nat.ne_of_lt (Nat.lt_of_lt_of_le f63.lt g81)
  have ne89 : r1 ≠ a79 := Nat.ne_of_lt (Nat.lt_of_lt_of_le f66.lt g81)
  have ne90 : r2 ≠ a79 := Nat.ne_of_lt (Nat.lt_of_lt_of_le f68.lt g81)
  have ne91 : a1 ≠ a79 := Nat.ne_of_lt (Nat.lt_of_lt_of_le f59.lt g81)
  have ne92 : am71 ≠ a79 := Nat.ne_of_lt (Nat.lt_of_lt_of_le ar71.lt g81)
  have ge93 : Z.heap.size ≤ a79 := Nat.le_trans zs70 g81
  have fr94 : h.size ≤ a79 := Nat.le_trans kp71.1 g81
  have ne95 : r ≠ a80 := Nat.ne_of_lt (Nat.lt_of_lt_of_le f63.lt g82)
  have ne96 : r1 ≠ a80 := Nat.ne_of_lt (Nat.lt_of_lt_of_le f66.lt g82)
  have ne97 : r2 ≠ a80 := Nat.ne_of_lt (Nat.lt_of_lt_of_le f68.lt g82)
  have ne98 : a1 ≠ a80 := Nat.ne_of_lt (Nat.lt_of_lt_of_le f59.lt g82)
  have ne99 : am71 ≠ a80 := Nat.ne_of_lt (Nat.lt_of_lt_of_le ar71.lt g82)
  have ge100 : Z.heap.size ≤ a80 := Nat.le_trans zs70 g82
  have fr101 : h.size ≤ a80 := Nat.le_trans kp71.1 g82
  have f102 : Ari Z h77 r .int [s0] := f63.keep K78 nin0
  have f103 : Sta Z h77 "java/lang/String" "COMPACT_STRINGS" "Z" (.int cz) := own_staK f64 K78 all0
  have f104 : Sta Z h77 "java/lang/Integer" "DigitOnes" "[B" (.ref r1) := own_staK f65 K78 all0
  have f105 : Ari Z h77 r1 .byte own_ones := f66.keep K78 nin0
  have f106 : Sta Z h77 "java/lang/Integer" "DigitTens" "[B" (.ref r2) := own_staK f67 K78 all0
  have f107 : Ari Z h77 r2 .byte own_tens := f68.keep K78 nin0
  have f108 : Exa Z h77 a1 "java/lang/StringBuilder" := f59.keep K78
  have f109 : Fld Z h77 a1 "java/lang/AbstractStringBuilder" "coder" "B" (.int (0 : Int32)) := f60.keep K78 nin0
  have f110 : Fld Z h77 a1 "java/lang/AbstractStringBuilder" "count" "I" (.int (List.length ([] ++ own_dec (s0 + (1 : Int32)))).toInt32) := f61.keep K78 nin0
  have f111 : Fld Z h77 a1 "java/lang/AbstractStringBuilder" "value" "[B" (.ref am71) := fe71.keep K78 nin0
  have f112 : Ari Z h77 am71 .byte xs71 := ar71.keep K78 nin0
  have f113 : Exa Z h77 am71 "[B" := eb71.keep K78
  have zs114 : Z.heap.size ≤ h77.size := Nat.le_trans zs70 K78.1
  have kp115 : Keep h h77 [] := kp71.trans K78 all0
  refine Go.areturn d2_61 rfl rfl rfl (by decide) (by decide) ?_
  exact ⟨a79, a80, rfl, fr94, fr101, ne83, kp115, f84, f85, f86, f87⟩

theorem ef_k_sn2 (m : MethodId) (x0 : Addr) : entryFrame m #[(.ref x0)] 6 = mkF m 0 #[.val (.ref x0), .unset, .unset, .unset, .unset, .unset] [] := by first | (simp [entryFrame, mkF, argsToLocals, Value.category]; done) | rfl

set_option maxRecDepth 65536 in
set_option maxHeartbeats 40000000 in
theorem k_sn2 {l : Launch} {Z : State} {a0 : Array Value} (hw : ∀ d ∈ tables_1, d.before a0 Z = true) {cz : Int32} {r1 : Addr} {r2 : Addr} {s0 : Int32} {s1 : Int32} (h : Heap) (hz : Z.heap.size ≤ h.size) (r : Addr) (fa0 : Ari Z h r .int [s0, s1]) (fa1 : Sta Z h "java/lang/String" "COMPACT_STRINGS" "Z" (.int cz)) (fa2 : Sta Z h "java/lang/Integer" "DigitOnes" "[B" (.ref r1)) (fa3 : Ari Z h r1 .byte own_ones) (fa4 : Sta Z h "java/lang/Integer" "DigitTens" "[B" (.ref r2)) (fa5 : Ari Z h r2 .byte own_tens) (hcz : ¬ cz = (0 : Int32)) (o1 : r1 < Z.heap.size) (o2 : r2 < Z.heap.size) (hv0 : 0 < (s0 + (1 : Int32)).toInt) (hv1 : 0 < (s1 + (1 : Int32)).toInt)   : Go l Z (⟨"com/example/medianpoint/medianpoint/AnswerPrinter", "siteNumbers", "([I)Ljava/lang/String;"⟩ : MethodName) prog_2_method_3_code 6 (Option.some (Jvm.ClassFile.FieldType.object "java/lang/String")) ({ frames := 6, cells := 12, slots := 240, locals := 170 } : Room) (QR fun rz h' => ∃ s t : Addr, rz = .ref s ∧ h.size ≤ s ∧ h.size ≤ t ∧ s ≠ t ∧ Keep h h' [] ∧ Exa Z h' s "java/lang/String" ∧ Fld Z h' s "java/lang/String" "value" "[B" (.ref t) ∧ Fld Z h' s "java/lang/String" "coder" "B" (.int (0 : Int32)) ∧ Ari Z h' t .byte ((([] ++ own_dec (s0 + (1 : Int32))) ++ [(32 : Int32)]) ++ own_dec (s1 + (1 : Int32)))) 0 0 h 0 #[.val (.ref r), .unset, .unset, .unset, .unset, .unset] [] := by
  have kp0 : Keep h h [] := Keep.refl _ _
  have hd0 := own_nd10 (s0 + (1 : Int32))
  have hd1 := own_nd10 (s1 + (1 : Int32))
  have hm0 := own_nd1 (s0 + (1 : Int32))
  have hm1 := own_nd1 (s1 + (1 : Int32))
  refine Go.new 3 d2_0 (tw10 hw) (tw11 hw) (tw12 hw) (by decide) (by decide) rfl (fun a1 h2 q3 E4 A5 D6 => ?_)
  have ne7 : r ≠ a1 := fun e => absurd fa0.lt (by rw [e, q3]; exact Nat.lt_irrefl _)
  have ne8 : r1 ≠ a1 := fun e => absurd fa3.lt (by rw [e, q3]; exact Nat.lt_irrefl _)
  have ne9 : r2 ≠ a1 := fun e => absurd fa5.lt (by rw [e, q3]; exact Nat.lt_irrefl _)
  have ge10 : Z.heap.size ≤ a1 := (Eq.symm q3) ▸ hz
  have fr11 : h.size ≤ a1 := by rw [q3]; exact kp0.1
  have f12 : Ari Z h2 r .int [s0, s1] := fa0.ext E4
  have f13 : Sta Z h2 "java/lang/String" "COMPACT_STRINGS" "Z" (.int cz) := fa1.ext E4
  have f14 : Sta Z h2 "java/lang/Integer" "DigitOnes" "[B" (.ref r1) := fa2.ext E4
  have f15 : Ari Z h2 r1 .byte own_ones := fa3.ext E4
  have f16 : Sta Z h2 "java/lang/Integer" "DigitTens" "[B" (.ref r2) := fa4.ext E4
  have f17 : Ari Z h2 r2 .byte own_tens := fa5.ext E4
  have zs18 : Z.heap.size ≤ h2.size := Nat.le_trans hz E4.1
  have kp19 : Keep h h2 [] := kp0.ext E4
  have f20 : Fld Z h2 a1 "java/lang/AbstractStringBuilder" "value" "[B" (.null) := D6 (Or.inl (tw29 hw)) (ty := (.array .byte)) (by decide)
  have f21 : Fld Z h2 a1 "java/lang/AbstractStringBuilder" "coder" "B" (.int (0 : Int32)) := D6 (Or.inl (tw31 hw)) (ty := .byte) (by decide)
  have f22 : Fld Z h2 a1 "java/lang/AbstractStringBuilder" "count" "I" (.int (0 : Int32)) := D6 (Or.inl (tw62 hw)) (ty := .int) (by decide)
  refine Go.dup 4 d2_3 rfl rfl ?_
  refine Go.callC [] [.ref a1] 7 d2_4 rfl (tw13 hw) (tw14 hw) (tw12 hw) (tw15 hw) pl3 (by decide) (lenOf pd3 rfl) rfl (fun m => ef_k_i m a1) _ (k_i hw h2 zs18 a1 A5 f20 f21 f22 f13 (by assumption) ge10) 1 rfl (Nat.le_of_eq rfl) (by decide) (by decide) (by decide) (by decide) rfl ?_
  rintro h24 ⟨a26, g27, K25, f28, f29, f30, f31, f32, f33⟩
  have ne34 : r ≠ a26 := Nat.ne_of_lt (Nat.lt_of_lt_of_le f12.lt g27)
  have ne35 : r1 ≠ a26 := Nat.ne_of_lt (Nat.lt_of_lt_of_le f15.lt g27)
  have ne36 : r2 ≠ a26 := Nat.ne_of_lt (Nat.lt_of_lt_of_le f17.lt g27)
  have ne37 : a1 ≠ a26 := Nat.ne_of_lt (Nat.lt_of_lt_of_le A5.lt g27)
  have ge38 : Z.heap.size ≤ a26 := Nat.le_trans zs18 g27
  have fr39 : h.size ≤ a26 := Nat.le_trans kp19.1 g27
  have f40 : Ari Z h24 r .int [s0, s1] := f12.keep K25 (ninS ne7 nin0)
  have f41 : Sta Z h24 "java/lang/String" "COMPACT_STRINGS" "Z" (.int cz) := own_staK f13 K25 (allS (own_nost A5) all0)
  have f42 : Sta Z h24 "java/lang/Integer" "DigitOnes" "[B" (.ref r1) := own_staK f14 K25 (allS (own_nost A5) all0)
  have f43 : Ari Z h24 r1 .byte own_ones := f15.keep K25 (ninS ne8 nin0)
  have f44 : Sta Z h24 "java/lang/Integer" "DigitTens" "[B" (.ref r2) := own_staK f16 K25 (allS (own_nost A5) all0)
  have f45 : Ari Z h24 r2 .byte own_tens := f17.keep K25 (ninS ne9 nin0)
  have zs46 : Z.heap.size ≤ h24.size := Nat.le_trans zs18 K25.1
  have kp47 : Keep h h24 [] := kp19.trans K25 (allS (Or.inr fr11) all0)
  have ne48 : a26 ≠ r1 := Nat.ne_of_gt (Nat.lt_of_lt_of_le o1 ge38)
  have ne49 : a26 ≠ r2 := Nat.ne_of_gt (Nat.lt_of_lt_of_le o2 ge38)
  refine Go.astore_n 8 #[.val (.ref r), .val (.ref a1), .unset, .unset, .unset, .unset] d2_7 rfl rfl rfl ?_
  refine Go.aload_n 9 d2_8 rfl rfl rfl ?_
  refine Go.astore_n 10 #[.val (.ref r), .val (.ref a1), .val (.ref r), .unset, .unset, .unset] d2_9 rfl rfl rfl ?_
  refine Go.aload_n 11 d2_10 rfl rfl rfl ?_
  refine Go.arraylength (z := (2 : Int32)) 12 d2_11 f40 (by decide : Nat.toInt32 2 = (2 : Int32)) rfl ?_
  refine Go.istore_n 13 #[.val (.ref r), .val (.ref a1), .val (.ref r), .val (.int (2 : Int32)), .unset, .unset] d2_12 rfl rfl ?_
  refine Go.iconst 14 (0) d2_13 (by decide) rfl ?_
  refine Go.istore 16 #[.val (.ref r), .val (.ref a1), .val (.ref r), .val (.int (2 : Int32)), .val (.int (0 : Int32)), .unset] d2_14 rfl rfl ?_
  refine Go.iload 18 d2_16 rfl rfl ?_
  refine Go.iload_n 19 d2_18 rfl rfl ?_
  refine Go.icmp_ge 57 22 d2_19 (by decide) (by decide) rfl (fun c => absurd c (by decide)) (fun _ => ?_)
  refine Go.aload_n 23 d2_22 rfl rfl rfl ?_
  refine Go.iload 25 d2_23 rfl rfl ?_
  refine Go.iaload (x := s0) (0) 26 d2_25 f40 (by decide) (by decide) rfl rfl ?_
  refine Go.istore 28 #[.val (.ref r), .val (.ref a1), .val (.ref r), .val (.int (2 : Int32)), .val (.int (0 : Int32)), .val (.int s0)] d2_26 rfl rfl ?_
  refine Go.aload_n 29 d2_28 rfl rfl rfl ?_
  refine Go.callVIp [] [] 32 d2_29 (tw95 hw) (tw96 hw) (tw97 hw) (tw56 hw) (tw12 hw) (tw57 hw) f28 pl10 (by decide) (lenOf pd10 rfl) rfl (fun m => ef_k_len m a1) _ (k_len hw h24 zs46 a1 f28 f30) 0 rfl (Nat.le_of_eq rfl) (by decide) (by decide) (by decide) (by decide) rfl ?_
  refine Go.if_le 42 35 d2_32 (by decide) (by decide) rfl (fun _ => ?_) (fun c => absurd c (by decide))
  have f55 : Fld Z h24 a1 "java/lang/AbstractStringBuilder" "count" "I" (.int (List.length ([] : List Int32)).toInt32) := own_l0.symm ▸ f30
  refine Go.aload_n 43 d2_42 rfl rfl rfl ?_
  refine Go.iload 45 d2_43 rfl rfl ?_
  refine Go.iconst 46 (1) d2_45 (by decide) rfl ?_
  refine Go.iadd 47 d2_46 rfl ?_
  refine Go.callVRe [.int (s0 + (1 : Int32))] [] 50 d2_47 (tw98 hw) (tw99 hw) (tw101 hw) (tw100 hw) (tw12 hw) (tw102 hw) f28 pl18 (by decide) (lenOf pd18 rfl) rfl (fun m => ef_k_ai m a1 (s0 + (1 : Int32))) _ _ (k_ai (cs := []) hw h24 zs46 a1 ((s0 + (1 : Int32))) f28 f31 f29 f55 f32 f33 f41 f42 f43 f44 f45 own_capinit (by assumption) hv0 (by simp only [List.length_append, List.length_cons, List.length_nil, own_declen hv0, own_declen hv1]; omega) (by assumption) (by assumption) ge10 ge38 ne37 ne48 ne49 (Ne.symm ne8) (Ne.symm ne9)) 0 rfl (Nat.le_of_eq rfl) (by decide) (by decide) (by decide) (by decide) rfl ?_
  rintro h57 ⟨K58, f59, f60, f61, x62⟩
  have f63 : Ari Z h57 r .int [s0, s1] := f40.keep K58 (ninS ne7 (ninS ne34 nin0))
  have f64 : Sta Z h57 "java/lang/String" "COMPACT_STRINGS" "Z" (.int cz) := own_staK f41 K58 (allS (own_nost f28) (allS (Ari.nostat f32) all0))
  have f65 : Sta Z h57 "java/lang/Integer" "DigitOnes" "[B" (.ref r1) := own_staK f42 K58 (allS (own_nost f28) (allS (Ari.nostat f32) all0))
  have f66 : Ari Z h57 r1 .byte own_ones := f43.keep K58 (ninS ne8 (ninS ne35 nin0))
  have f67 : Sta Z h57 "java/lang/Integer" "DigitTens" "[B" (.ref r2) := own_staK f44 K58 (allS (own_nost f28) (allS (Ari.nostat f32) all0))
  have f68 : Ari Z h57 r2 .byte own_tens := f45.keep K58 (ninS ne9 (ninS ne36 nin0))
  have f69 : Exa Z h57 a26 "[B" := f33.keep K58
  have zs70 : Z.heap.size ≤ h57.size := Nat.le_trans zs46 K58.1
  have kp71 : Keep h h57 [] := kp47.trans K58 (allS (Or.inr fr11) (allS (Or.inr fr39) all0))
  obtain ⟨am71, xs71, fe71, ar71, eb71, na71, ga71, ok71, px71_0⟩ := x62
  have ne73 : am71 ≠ r1 := Nat.ne_of_gt (Nat.lt_of_lt_of_le o1 ga71)
  have ne74 : am71 ≠ r2 := Nat.ne_of_gt (Nat.lt_of_lt_of_le o2 ga71)
  refine Go.pop 51 d2_50 rfl rfl ?_
  refine Go.iinc 54 (1) #[.val (.ref r), .val (.ref a1), .val (.ref r), .val (.int (2 : Int32)), .val (.int ((0 : Int32) + (1 : Int32))), .val (.int s0)] d2_51 (by decide) rfl rfl rfl ?_
  refine Go.goto 16 d2_54 (by decide) (by decide) ?_
  refine Go.iload 18 d2_16 rfl rfl ?_
  refine Go.iload_n 19 d2_18 rfl rfl ?_
  refine Go.icmp_ge 57 22 d2_19 (by decide) (by decide) rfl (fun c => absurd c (by decide)) (fun _ => ?_)
  refine Go.aload_n 23 d2_22 rfl rfl rfl ?_
  refine Go.iload 25 d2_23 rfl rfl ?_
  refine Go.iaload (x := s1) (1) 26 d2_25 f63 (by decide) (by decide) rfl rfl ?_
  refine Go.istore 28 #[.val (.ref r), .val (.ref a1), .val (.ref r), .val (.int (2 : Int32)), .val (.int ((0 : Int32) + (1 : Int32))), .val (.int s1)] d2_26 rfl rfl ?_
  refine Go.aload_n 29 d2_28 rfl rfl rfl ?_
  refine Go.callVIp [] [] 32 d2_29 (tw95 hw) (tw96 hw) (tw97 hw) (tw56 hw) (tw12 hw) (tw57 hw) f59 pl10 (by decide) (lenOf pd10 rfl) rfl (fun m => ef_k_len m a1) _ (k_len hw h57 zs70 a1 f59 f61) 0 rfl (Nat.le_of_eq rfl) (by decide) (by decide) (by decide) (by decide) rfl ?_
  refine Go.if_le 42 35 d2_32 (by decide) (by decide) rfl (fun c79 => ?_) (fun c79 => ?_)
  ·
    exact absurd (own_lpos (by simp only [List.length_append, List.length_cons, List.length_nil, own_declen hv0, own_declen hv1]; omega) (by simp only [List.length_append, List.length_cons, List.length_nil, own_declen hv0, own_declen hv1]; omega)) c79
  ·
    refine Go.aload_n 36 d2_35 rfl rfl rfl ?_
    refine Go.bipush 38 (32) d2_36 (by decide) rfl ?_
    refine Go.callVRe [.int (32 : Int32)] [] 41 d2_38 (tw122 hw) (tw123 hw) (tw125 hw) (tw124 hw) (tw12 hw) (tw126 hw) f59 pl23 (by decide) (lenOf pd23 rfl) rfl (fun m => ef_k_ac m a1 (32 : Int32)) _ _ (k_ac (cs := ([] ++ own_dec (s0 + (1 : Int32)))) hw h57 zs70 a1 f59 fe71 f60 f61 ar71 eb71 f64 ok71 (by assumption) (by simp only [List.length_append, List.length_cons, List.length_nil, own_declen hv0, own_declen hv1]; omega) ge10 ga71 na71) 0 rfl (Nat.le_of_eq rfl) (by decide) (by decide) (by decide) (by decide) rfl ?_
    rintro h81 ⟨K82, f83, f84, f85, x86⟩
    have f87 : Ari Z h81 r .int [s0, s1] := f63.keep K82 (ninS ne7 (ninS (own_nea f63 ar71 (by decide)) nin0))
    have f88 : Sta Z h81 "java/lang/String" "COMPACT_STRINGS" "Z" (.int cz) := own_staK f64 K82 (allS (own_nost f59) (allS (Ari.nostat ar71) all0))
    have f89 : Sta Z h81 "java/lang/Integer" "DigitOnes" "[B" (.ref r1) := own_staK f65 K82 (allS (own_nost f59) (allS (Ari.nostat ar71) all0))
    have f90 : Ari Z h81 r1 .byte own_ones := f66.keep K82 (ninS ne8 (ninS (Ne.symm ne73) nin0))
    have f91 : Sta Z h81 "java/lang/Integer" "DigitTens" "[B" (.ref r2) := own_staK f67 K82 (allS (own_nost f59) (allS (Ari.nostat ar71) all0))
    have f92 : Ari Z h81 r2 .byte own_tens := f68.keep K82 (ninS ne9 (ninS (Ne.symm ne74) nin0))
    have f93 : Exa Z h81 am71 "[B" := eb71.keep K82
    have zs94 : Z.heap.size ≤ h81.size := Nat.le_trans zs70 K82.1
    have kp95 : Keep h h81 [] := kp71.trans K82 (allS (Or.inr fr11) (allS (px71_0.elim (fun e => e.symm ▸ (Or.inr fr39)) (fun q => Or.inr (Nat.le_trans kp47.1 q))) all0))
    obtain ⟨am95, xs95, fe95, ar95, eb95, na95, ga95, ok95, px95_0⟩ := x86
    have ne97 : am95 ≠ r1 := Nat.ne_of_gt (Nat.lt_of_lt_of_le o1 ga95)
    have ne98 : am95 ≠ r2 := Nat.ne_of_gt (Nat.lt_of_lt_of_le o2 ga95)
    refine Go.pop 42 d2_41 rfl rfl ?_
    refine Go.aload_n 43 d2_42 rfl rfl rfl ?_
    refine Go.iload 45 d2_43 rfl rfl ?_
    refine Go.iconst 46 (1) d2_45 (by decide) rfl ?_
    refine Go.iadd 47 d2_46 rfl ?_
    refine Go.callVRe [.int (s1 + (1 : Int32))] [] 50 d2_47 (tw98 hw) (tw99 hw) (tw101 hw) (tw100 hw) (tw12 hw) (tw102 hw) f83 pl18 (by decide) (lenOf pd18 rfl) rfl (fun m => ef_k_ai m a1 (s1 + (1 : Int32))) _ _ (k_ai (cs := (([] ++ own_dec (s0 + (1 : Int32))) ++ [(32 : Int32)])) hw h81 zs94 a1 ((s1 + (1 : Int32))) f83 fe95 f84 f85 ar95 eb95 f88 f89 f90 f91 f92 ok95 (by assumption) hv1 (by simp only [List.length_append, List.length_cons, List.length_nil, own_declen hv0, own_declen hv1]; omega) (by assumption) (by assumption) ge10 ga95 na95 ne97 ne98 (Ne.symm ne8) (Ne.symm ne9)) 0 rfl (Nat.le_of_eq rfl) (by decide) (by decide) (by decide) (by decide) rfl ?_
    rintro h100 ⟨K101, f102, f103, f104, x105⟩
    have f106 : Ari Z h100 r .int [s0, s1] := f87.keep K101 (ninS ne7 (ninS (own_nea f87 ar95 (by decide)) nin0))
    have f107 : Sta Z h100 "java/lang/String" "COMPACT_STRINGS" "Z" (.int cz) := own_staK f88 K101 (allS (own_nost f83) (allS (Ari.nostat ar95) all0))
    have f108 : Sta Z h100 "java/lang/Integer" "DigitOnes" "[B" (.ref r1) := own_staK f89 K101 (allS (own_nost f83) (allS (Ari.nostat ar95) all0))
    have f109 : Ari Z h100 r1 .byte own_ones := f90.keep K101 (ninS ne8 (ninS (Ne.symm ne97) nin0))
    have f110 : Sta Z h100 "java/lang/Integer" "DigitTens" "[B" (.ref r2) := own_staK f91 K101 (allS (own_nost f83) (allS (Ari.nostat ar95) all0))
    have f111 : Ari Z h100 r2 .byte own_tens := f92.keep K101 (ninS ne9 (ninS (Ne.symm ne98) nin0))
    have f112 : Exa Z h100 am95 "[B" := eb95.keep K101
    have zs113 : Z.heap.size ≤ h100.size := Nat.le_trans zs94 K101.1
    have kp114 : Keep h h100 [] := kp95.trans K101 (allS (Or.inr fr11) (allS (px95_0.elim (fun e => e.symm ▸ (px71_0.elim (fun e => e.symm ▸ (Or.inr fr39)) (fun q => Or.inr (Nat.le_trans kp47.1 q)))) (fun q => Or.inr (Nat.le_trans kp71.1 q))) all0))
    obtain ⟨am114, xs114, fe114, ar114, eb114, na114, ga114, ok114, px114_0⟩ := x105
    have ne116 : am114 ≠ r1 := Nat.ne_of_gt (Nat.lt_of_lt_of_le o1 ga114)
    have ne117 : am114 ≠ r2 := Nat.ne_of_gt (Nat.lt_of_lt_of_le o2 ga114)
    refine Go.pop 51 d2_50 rfl rfl ?_
    refine Go.iinc 54 (1) #[.val (.ref r), .val (.ref a1), .val (.ref r), .val (.int (2 : Int32)), .val (.int (((0 : Int32) + (1 : Int32)) + (1 : Int32))), .val (.int s1)] d2_51 (by decide) rfl rfl rfl ?_
    refine Go.goto 16 d2_54 (by decide) (by decide) ?_
    refine Go.iload 18 d2_16 rfl rfl ?_
    refine Go.iload_n 19 d2_18 rfl rfl ?_
    refine Go.icmp_ge 57 22 d2_19 (by decide) (by decide) rfl (fun _ => ?_) (fun c => absurd c (by decide))
    refine Go.aload_n 58 d2_57 rfl rfl rfl ?_
    refine Go.callVR [] [] 61 d2_58 (tw32 hw) (tw33 hw) (tw35 hw) (tw34 hw) (tw12 hw) (tw36 hw) f102 pl6 (by decide) (lenOf pd6 rfl) rfl (fun m => ef_k_ts m a1) _ (k_ts (cs := ((([] ++ own_dec (s0 + (1 : Int32))) ++ [(32 : Int32)]) ++ own_dec (s1 + (1 : Int32)))) hw h100 zs113 a1 f102 fe114 f103 f104 ar114 eb114 f107 ok114 (by assumption)) 0 rfl (Nat.le_of_eq rfl) (by decide) (by decide) (by decide) (by decide) rfl ?_
    rintro z119 h120 ⟨a122, a123, rfl, g124, g125, ne126, K121, f127, f128, f129, f130⟩
    have ne131 : r ≠ a122 := Nat.ne_of_lt (Nat.lt_of_lt_of_le f106.lt g124)
    have ne132 : r1 ≠ a122 := Nat.ne_of_lt (Nat.lt_of_lt_of_le f109.lt g124)
    have ne133 : r2 ≠ a122 := Nat.ne_of_lt (Nat.lt_of_lt_of_le f111.lt g124)
    have ne134 : a1 ≠ a122 := Nat.ne_of_lt (Nat.lt_of_lt_of_le f102.lt g124)
    have ne135 : am114 ≠ a122 := Nat.ne_of_lt (Nat.lt_of_lt_of_le ar114.lt g124)
    have ge136 : Z.heap.size ≤ a122 := Nat.le_trans zs113 g124
    have fr137 : h.size ≤ a122 := Nat.le_trans kp114.1 g124
    have ne138 : r ≠ a123 := Nat.ne_of_lt (Nat.lt_of_lt_of_le f106.lt g125)
    have ne139 : r1 ≠ a123 := Nat.ne_of_lt (Nat.lt_of_lt_of_le f109.lt g125)
    have ne140 : r2 ≠ a123 := Nat.ne_of_lt (Nat.lt_of_lt_of_le f111.lt g125)
    have ne141 : a1 ≠ a123 := Nat.ne_of_lt (Nat.lt_of_lt_of_le f102.lt g125)
    have ne142 : am114 ≠ a123 := Nat.ne_of_lt (Nat.lt_of_lt_of_le ar114.lt g125)
    have ge143 : Z.heap.size ≤ a123 := Nat.le_trans zs113 g125
    have fr144 : h.size ≤ a123 := Nat.le_trans kp114.1 g125
    have f145 : Ari Z h120 r .int [s0, s1] := f106.keep K121 nin0
    have f146 : Sta Z h120 "java/lang/String" "COMPACT_STRINGS" "Z" (.int cz) := own_staK f107 K121 all0
    have f147 : Sta Z h120 "java/lang/Integer" "DigitOnes" "[B" (.ref r1) := own_staK f108 K121 all0
    have f148 : Ari Z h120 r1 .byte own_ones := f109.keep K121 nin0
    have f149 : Sta Z h120 "java/lang/Integer" "DigitTens" "[B" (.ref r2) := own_staK f110 K121 all0
    have f150 : Ari Z h120 r2 .byte own_tens := f111.keep K121 nin0
    have f151 : Exa Z h120 a1 "java/lang/StringBuilder" := f102.keep K121
    have f152 : Fld Z h120 a1 "java/lang/AbstractStringBuilder" "coder" "B" (.int (0 : Int32)) := f103.keep K121 nin0
    have f153 : Fld Z h120 a1 "java/lang/AbstractStringBuilder" "count" "I" (.int (List.length ((([] ++ own_dec (s0 + (1 : Int32))) ++ [(32 : Int32)]) ++ own_dec (s1 + (1 : Int32)))).toInt32) := f104.keep K121 nin0
    have f154 : Fld Z h120 a1 "java/lang/AbstractStringBuilder" "value" "[B" (.ref am114) := fe114.keep K121 nin0
    have f155 : Ari Z h120 am114 .byte xs114 := ar114.keep K121 nin0
    have f156 : Exa Z h120 am114 "[B" := eb114.keep K121
    have zs157 : Z.heap.size ≤ h120.size := Nat.le_trans zs113 K121.1
    have kp158 : Keep h h120 [] := kp114.trans K121 all0
    refine Go.areturn d2_61 rfl rfl rfl (by decide) (by decide) ?_
    exact ⟨a122, a123, rfl, fr137, fr144, ne126, kp158, f127, f128, f129, f130⟩

theorem ef_k_sn3 (m : MethodId) (x0 : Addr) : entryFrame m #[(.ref x0)] 6 = mkF m 0 #[.val (.ref x0), .unset, .unset, .unset, .unset, .unset] [] := by first | (simp [entryFrame, mkF, argsToLocals, Value.category]; done) | rfl

set_option maxRecDepth 65536 in
set_option maxHeartbeats 40000000 in
theorem k_sn3 {l : Launch} {Z : State} {a0 : Array Value} (hw : ∀ d ∈ tables_1, d.before a0 Z = true) {cz : Int32} {r1 : Addr} {r2 : Addr} {s0 : Int32} {s1 : Int32} {s2 : Int32} (h : Heap) (hz : Z.heap.size ≤ h.size) (r : Addr) (fa0 : Ari Z h r .int [s0, s1, s2]) (fa1 : Sta Z h "java/lang/String" "COMPACT_STRINGS" "Z" (.int cz)) (fa2 : Sta Z h "java/lang/Integer" "DigitOnes" "[B" (.ref r1)) (fa3 : Ari Z h r1 .byte own_ones) (fa4 : Sta Z h "java/lang/Integer" "DigitTens" "[B" (.ref r2)) (fa5 : Ari Z h r2 .byte own_tens) (hcz : ¬ cz = (0 : Int32)) (o1 : r1 < Z.heap.size) (o2 : r2 < Z.heap.size) (hv0 : 0 < (s0 + (1 : Int32)).toInt) (hv1 : 0 < (s1 + (1 : Int32)).toInt) (hv2 : 0 < (s2 + (1 : Int32)).toInt)   : Go l Z (⟨"com/example/medianpoint/medianpoint/AnswerPrinter", "siteNumbers", "([I)Ljava/lang/String;"⟩ : MethodName) prog_2_method_3_code 6 (Option.some (Jvm.ClassFile.FieldType.object "java/lang/String")) ({ frames := 6, cells := 12, slots := 240, locals := 170 } : Room) (QR fun rz h' => ∃ s t : Addr, rz = .ref s ∧ h.size ≤ s ∧ h.size ≤ t ∧ s ≠ t ∧ Keep h h' [] ∧ Exa Z h' s "java/lang/String" ∧ Fld Z h' s "java/lang/String" "value" "[B" (.ref t) ∧ Fld Z h' s "java/lang/String" "coder" "B" (.int (0 : Int32)) ∧ Ari Z h' t .byte ((((([] ++ own_dec (s0 + (1 : Int32))) ++ [(32 : Int32)]) ++ own_dec (s1 + (1 : Int32))) ++ [(32 : Int32)]) ++ own_dec (s2 + (1 : Int32)))) 0 0 h 0 #[.val (.ref r), .unset, .unset, .unset, .unset, .unset] [] := by
  have kp0 : Keep h h [] := Keep.refl _ _
  have hd0 := own_nd10 (s0 + (1 : Int32))
  have hd1 := own_nd10 (s1 + (1 : Int32))
  have hd2 := own_nd10 (s2 + (1 : Int32))
  have hm0 := own_nd1 (s0 + (1 : Int32))
  have hm1 := own_nd1 (s1 + (1 : Int32))
  have hm2 := own_nd1 (s2 + (1 : Int32))
  refine Go.new 3 d2_0 (tw10 hw) (tw11 hw) (tw12 hw) (by decide) (by decide) rfl (fun a1 h2 q3 E4 A5 D6 => ?_)
  have ne7 : r ≠ a1 := fun e => absurd fa0.lt (by rw [e, q3]; exact Nat.lt_irrefl _)
  have ne8 : r1 ≠ a1 := fun e => absurd fa3.lt (by rw [e, q3]; exact Nat.lt_irrefl _)
  have ne9 : r2 ≠ a1 := fun e => absurd fa5.lt (by rw [e, q3]; exact Nat.lt_irrefl _)
  have ge10 : Z.heap.size ≤ a1 := (Eq.symm q3) ▸ hz
  have fr11 : h.size ≤ a1 := by rw [q3]; exact kp0.1
  have f12 : Ari Z h2 r .int [s0, s1, s2] := fa0.ext E4
  have f13 : Sta Z h2 "java/lang/String" "COMPACT_STRINGS" "Z" (.int cz) := fa1.ext E4
  have f14 : Sta Z h2 "java/lang/Integer" "DigitOnes" "[B" (.ref r1) := fa2.ext E4
  have f15 : Ari Z h2 r1 .byte own_ones := fa3.ext E4
  have f16 : Sta Z h2 "java/lang/Integer" "DigitTens" "[B" (.ref r2) := fa4.ext E4
  have f17 : Ari Z h2 r2 .byte own_tens := fa5.ext E4
  have zs18 : Z.heap.size ≤ h2.size := Nat.le_trans hz E4.1
  have kp19 : Keep h h2 [] := kp0.ext E4
  have f20 : Fld Z h2 a1 "java/lang/AbstractStringBuilder" "value" "[B" (.null) := D6 (Or.inl (tw29 hw)) (ty := (.array .byte)) (by decide)
  have f21 : Fld Z h2 a1 "java/lang/AbstractStringBuilder" "coder" "B" (.int (0 : Int32)) := D6 (Or.inl (tw31 hw)) (ty := .byte) (by decide)
  have f22 : Fld Z h2 a1 "java/lang/AbstractStringBuilder" "count" "I" (.int (0 : Int32)) := D6 (Or.inl (tw62 hw)) (ty := .int) (by decide)
  refine Go.dup 4 d2_3 rfl rfl ?_
  refine Go.callC [] [.ref a1] 7 d2_4 rfl (tw13 hw) (tw14 hw) (tw12 hw) (tw15 hw) pl3 (by decide) (lenOf pd3 rfl) rfl (fun m => ef_k_i m a1) _ (k_i hw h2 zs18 a1 A5 f20 f21 f22 f13 (by assumption) ge10) 1 rfl (Nat.le_of_eq rfl) (by decide) (by decide) (by decide) (by decide) rfl ?_
  rintro h24 ⟨a26, g27, K25, f28, f29, f30, f31, f32, f33⟩
  have ne34 : r ≠ a26 := Nat.ne_of_lt (Nat.lt_of_lt_of_le f12.lt g27)
  have ne35 : r1 ≠ a26 := Nat.ne_of_lt (Nat.lt_of_lt_of_le f15.lt g27)
  have ne36 : r2 ≠ a26 := Nat.ne_of_lt (Nat.lt_of_lt_of_le f17.lt g27)
  have ne37 : a1 ≠ a26 := Nat.ne_of_lt (Nat.lt_of_lt_of_le A5.lt g27)
  have ge38 : Z.heap.size ≤ a26 := Nat.le_trans zs18 g27
  have fr39 : h.size ≤ a26 := Nat.le_trans kp19.1 g27
  have f40 : Ari Z h24 r .int [s0, s1, s2] := f12.keep K25 (ninS ne7 nin0)
  have f41 : Sta Z h24 "java/lang/String" "COMPACT_STRINGS" "Z" (.int cz) := own_staK f13 K25 (allS (own_nost A5) all0)
  have f42 : Sta Z h24 "java/lang/Integer" "DigitOnes" "[B" (.ref r1) := own_staK f14 K25 (allS (own_nost A5) all0)
  have f43 : Ari Z h24 r1 .byte own_ones := f15.keep K25 (ninS ne8 nin0)
  have f44 : Sta Z h24 "java/lang/Integer" "DigitTens" "[B" (.ref r2) := own_staK f16 K25 (allS (own_nost A5) all0)
  have f45 : Ari Z h24 r2 .byte own_tens := f17.keep K25 (ninS ne9 nin0)
  have zs46 : Z.heap.size ≤ h24.size := Nat.le_trans zs18 K25.1
  have kp47 : Keep h h24 [] := kp19.trans K25 (allS (Or.inr fr11) all0)
  have ne48 : a26 ≠ r1 := Nat.ne_of_gt (Nat.lt_of_lt_of_le o1 ge38)
  have ne49 : a26 ≠ r2 := Nat.ne_of_gt (Nat.lt_of_lt_of_le o2 ge38)
  refine Go.astore_n 8 #[.val (.ref r), .val (.ref a1), .unset, .unset, .unset, .unset] d2_7 rfl rfl rfl ?_
  refine Go.aload_n 9 d2_8 rfl rfl rfl ?_
  refine Go.astore_n 10 #[.val (.ref r), .val (.ref a1), .val (.ref r), .unset, .unset, .unset] d2_9 rfl rfl rfl ?_
  refine Go.aload_n 11 d2_10 rfl rfl rfl ?_
  refine Go.arraylength (z := (3 : Int32)) 12 d2_11 f40 (by decide : Nat.toInt32 3 = (3 : Int32)) rfl ?_
  refine Go.istore_n 13 #[.val (.ref r), .val (.ref a1), .val (.ref r), .val (.int (3 : Int32)), .unset, .unset] d2_12 rfl rfl ?_
  refine Go.iconst 14 (0) d2_13 (by decide) rfl ?_
  refine Go.istore 16 #[.val (.ref r), .val (.ref a1), .val (.ref r), .val (.int (3 : Int32)), .val (.int (0 : Int32)), .unset] d2_14 rfl rfl ?_
  refine Go.iload 18 d2_16 rfl rfl ?_
  refine Go.iload_n 19 d2_18 rfl rfl ?_
  refine Go.icmp_ge 57 22 d2_19 (by decide) (by decide) rfl (fun c => absurd c (by decide)) (fun _ => ?_)
  refine Go.aload_n 23 d2_22 rfl rfl rfl ?_
  refine Go.iload 25 d2_23 rfl rfl ?_
  refine Go.iaload (x := s0) (0) 26 d2_25 f40 (by decide) (by decide) rfl rfl ?_
  refine Go.istore 28 #[.val (.ref r), .val (.ref a1), .val (.ref r), .val (.int (3 : Int32)), .val (.int (0 : Int32)), .val (.int s0)] d2_26 rfl rfl ?_
  refine Go.aload_n 29 d2_28 rfl rfl rfl ?_
  refine Go.callVIp [] [] 32 d2_29 (tw95 hw) (tw96 hw) (tw97 hw) (tw56 hw) (tw12 hw) (tw57 hw) f28 pl10 (by decide) (lenOf pd10 rfl) rfl (fun m => ef_k_len m a1) _ (k_len hw h24 zs46 a1 f28 f30) 0 rfl (Nat.le_of_eq rfl) (by decide) (by decide) (by decide) (by decide) rfl ?_
  refine Go.if_le 42 35 d2_32 (by decide) (by decide) rfl (fun _ => ?_) (fun c => absurd c (by decide))
  have f55 : Fld Z h24 a1 "java/lang/AbstractStringBuilder" "count" "I" (.int (List.length ([] : List Int32)).toInt32) := own_l0.symm ▸ f30
  refine Go.aload_n 43 d2_42 rfl rfl rfl ?_
  refine Go.iload 45 d2_43 rfl rfl ?_
  refine Go.iconst 46 (1) d2_45 (by decide) rfl ?_
  refine Go.iadd 47 d2_46 rfl ?_
  refine Go.callVRe [.int (s0 + (1 : Int32))] [] 50 d2_47 (tw98 hw) (tw99 hw) (tw101 hw) (tw100 hw) (tw12 hw) (tw102 hw) f28 pl18 (by decide) (lenOf pd18 rfl) rfl (fun m => ef_k_ai m a1 (s0 + (1 : Int32))) _ _ (k_ai (cs := []) hw h24 zs46 a1 ((s0 + (1 : Int32))) f28 f31 f29 f55 f32 f33 f41 f42 f43 f44 f45 own_capinit (by assumption) hv0 (by simp only [List.length_append, List.length_cons, List.length_nil, own_declen hv0, own_declen hv1, own_declen hv2]; omega) (by assumption) (by assumption) ge10 ge38 ne37 ne48 ne49 (Ne.symm ne8) (Ne.symm ne9)) 0 rfl (Nat.le_of_eq rfl) (by decide) (by decide) (by decide) (by decide) rfl ?_
  rintro h57 ⟨K58, f59, f60, f61, x62⟩
  have f63 : Ari Z h57 r .int [s0, s1, s2] := f40.keep K58 (ninS ne7 (ninS ne34 nin0))
  have f64 : Sta Z h57 "java/lang/String" "COMPACT_STRINGS" "Z" (.int cz) := own_staK f41 K58 (allS (own_nost f28) (allS (Ari.nostat f32) all0))
  have f65 : Sta Z h57 "java/lang/Integer" "DigitOnes" "[B" (.ref r1) := own_staK f42 K58 (allS (own_nost f28) (allS (Ari.nostat f32) all0))
  have f66 : Ari Z h57 r1 .byte own_ones := f43.keep K58 (ninS ne8 (ninS ne35 nin0))
  have f67 : Sta Z h57 "java/lang/Integer" "DigitTens" "[B" (.ref r2) := own_staK f44 K58 (allS (own_nost f28) (allS (Ari.nostat f32) all0))
  have f68 : Ari Z h57 r2 .byte own_tens := f45.keep K58 (ninS ne9 (ninS ne36 nin0))
  have f69 : Exa Z h57 a26 "[B" := f33.keep K58
  have zs70 : Z.heap.size ≤ h57.size := Nat.le_trans zs46 K58.1
  have kp71 : Keep h h57 [] := kp47.trans K58 (allS (Or.inr fr11) (allS (Or.inr fr39) all0))
  obtain ⟨am71, xs71, fe71, ar71, eb71, na71, ga71, ok71, px71_0⟩ := x62
  have ne73 : am71 ≠ r1 := Nat.ne_of_gt (Nat.lt_of_lt_of_le o1 ga71)
  have ne74 : am71 ≠ r2 := Nat.ne_of_gt (Nat.lt_of_lt_of_le o2 ga71)
  refine Go.pop 51 d2_50 rfl rfl ?_
  refine Go.iinc 54 (1) #[.val (.ref r), .val (.ref a1), .val (.ref r), .val (.int (3 : Int32)), .val (.int ((0 : Int32) + (1 : Int32))), .val (.int s0)] d2_51 (by decide) rfl rfl rfl ?_
  refine Go.goto 16 d2_54 (by decide) (by decide) ?_
  refine Go.iload 18 d2_16 rfl rfl ?_
  refine Go.iload_n 19 d2_18 rfl rfl ?_
  refine Go.icmp_ge 57 22 d2_19 (by decide) (by decide) rfl (fun c => absurd c (by decide)) (fun _ => ?_)
  refine Go.aload_n 23 d2_22 rfl rfl rfl ?_
  refine Go.iload 25 d2_23 rfl rfl ?_
  refine Go.iaload (x := s1) (1) 26 d2_25 f63 (by decide) (by decide) rfl rfl ?_
  refine Go.istore 28 #[.val (.ref r), .val (.ref a1), .val (.ref r), .val (.int (3 : Int32)), .val (.int ((0 : Int32) + (1 : Int32))), .val (.int s1)] d2_26 rfl rfl ?_
  refine Go.aload_n 29 d2_28 rfl rfl rfl ?_
  refine Go.callVIp [] [] 32 d2_29 (tw95 hw) (tw96 hw) (tw97 hw) (tw56 hw) (tw12 hw) (tw57 hw) f59 pl10 (by decide) (lenOf pd10 rfl) rfl (fun m => ef_k_len m a1) _ (k_len hw h57 zs70 a1 f59 f61) 0 rfl (Nat.le_of_eq rfl) (by decide) (by decide) (by decide) (by decide) rfl ?_
  refine Go.if_le 42 35 d2_32 (by decide) (by decide) rfl (fun c79 => ?_) (fun c79 => ?_)
  ·
    exact absurd (own_lpos (by simp only [List.length_append, List.length_cons, List.length_nil, own_declen hv0, own_declen hv1, own_declen hv2]; omega) (by simp only [List.length_append, List.length_cons, List.length_nil, own_declen hv0, own_declen hv1, own_declen hv2]; omega)) c79
  ·
    refine Go.aload_n 36 d2_35 rfl rfl rfl ?_
    refine Go.bipush 38 (32) d2_36 (by decide) rfl ?_
    refine Go.callVRe [.int (32 : Int32)] [] 41 d2_38 (tw122 hw) (tw123 hw) (tw125 hw) (tw124 hw) (tw12 hw) (tw126 hw) f59 pl23 (by decide) (lenOf pd23 rfl) rfl (fun m => ef_k_ac m a1 (32 : Int32)) _ _ (k_ac (cs := ([] ++ own_dec (s0 + (1 : Int32)))) hw h57 zs70 a1 f59 fe71 f60 f61 ar71 eb71 f64 ok71 (by assumption) (by simp only [List.length_append, List.length_cons, List.length_nil, own_declen hv0, own_declen hv1, own_declen hv2]; omega) ge10 ga71 na71) 0 rfl (Nat.le_of_eq rfl) (by decide) (by decide) (by decide) (by decide) rfl ?_
    rintro h81 ⟨K82, f83, f84, f85, x86⟩
    have f87 : Ari Z h81 r .int [s0, s1, s2] := f63.keep K82 (ninS ne7 (ninS (own_nea f63 ar71 (by decide)) nin0))
    have f88 : Sta Z h81 "java/lang/String" "COMPACT_STRINGS" "Z" (.int cz) := own_staK f64 K82 (allS (own_nost f59) (allS (Ari.nostat ar71) all0))
    have f89 : Sta Z h81 "java/lang/Integer" "DigitOnes" "[B" (.ref r1) := own_staK f65 K82 (allS (own_nost f59) (allS (Ari.nostat ar71) all0))
    have f90 : Ari Z h81 r1 .byte own_ones := f66.keep K82 (ninS ne8 (ninS (Ne.symm ne73) nin0))
    have f91 : Sta Z h81 "java/lang/Integer" "DigitTens" "[B" (.ref r2) := own_staK f67 K82 (allS (own_nost f59) (allS (Ari.nostat ar71) all0))
    have f92 : Ari Z h81 r2 .byte own_tens := f68.keep K82 (ninS ne9 (ninS (Ne.symm ne74) nin0))
    have f93 : Exa Z h81 am71 "[B" := eb71.keep K82
    have zs94 : Z.heap.size ≤ h81.size := Nat.le_trans zs70 K82.1
    have kp95 : Keep h h81 [] := kp71.trans K82 (allS (Or.inr fr11) (allS (px71_0.elim (fun e => e.symm ▸ (Or.inr fr39)) (fun q => Or.inr (Nat.le_trans kp47.1 q))) all0))
    obtain ⟨am95, xs95, fe95, ar95, eb95, na95, ga95, ok95, px95_0⟩ := x86
    have ne97 : am95 ≠ r1 := Nat.ne_of_gt (Nat.lt_of_lt_of_le o1 ga95)
    have ne98 : am95 ≠ r2 := Nat.ne_of_gt (Nat.lt_of_lt_of_le o2 ga95)
    refine Go.pop 42 d2_41 rfl rfl ?_
    refine Go.aload_n 43 d2_42 rfl rfl rfl ?_
    refine Go.iload 45 d2_43 rfl rfl ?_
    refine Go.iconst 46 (1) d2_45 (by decide) rfl ?_
    refine Go.iadd 47 d2_46 rfl ?_
    refine Go.callVRe [.int (s1 + (1 : Int32))] [] 50 d2_47 (tw98 hw) (tw99 hw) (tw101 hw) (tw100 hw) (tw12 hw) (tw102 hw) f83 pl18 (by decide) (lenOf pd18 rfl) rfl (fun m => ef_k_ai m a1 (s1 + (1 : Int32))) _ _ (k_ai (cs := (([] ++ own_dec (s0 + (1 : Int32))) ++ [(32 : Int32)])) hw h81 zs94 a1 ((s1 + (1 : Int32))) f83 fe95 f84 f85 ar95 eb95 f88 f89 f90 f91 f92 ok95 (by assumption) hv1 (by simp only [List.length_append, List.length_cons, List.length_nil, own_declen hv0, own_declen hv1, own_declen hv2]; omega) (by assumption) (by assumption) ge10 ga95 na95 ne97 ne98 (Ne.symm ne8) (Ne.symm ne9)) 0 rfl (Nat.le_of_eq rfl) (by decide) (by decide) (by decide) (by decide) rfl ?_
    rintro h100 ⟨K101, f102, f103, f104, x105⟩
    have f106 : Ari Z h100 r .int [s0, s1, s2] := f87.keep K101 (ninS ne7 (ninS (own_nea f87 ar95 (by decide)) nin0))
    have f107 : Sta Z h100 "java/lang/String" "COMPACT_STRINGS" "Z" (.int cz) := own_staK f88 K101 (allS (own_nost f83) (allS (Ari.nostat ar95) all0))
    have f108 : Sta Z h100 "java/lang/Integer" "DigitOnes" "[B" (.ref r1) := own_staK f89 K101 (allS (own_nost f83) (allS (Ari.nostat ar95) all0))
    have f109 : Ari Z h100 r1 .byte own_ones := f90.keep K101 (ninS ne8 (ninS (Ne.symm ne97) nin0))
    have f110 : Sta Z h100 "java/lang/Integer" "DigitTens" "[B" (.ref r2) := own_staK f91 K101 (allS (own_nost f83) (allS (Ari.nostat ar95) all0))
    have f111 : Ari Z h100 r2 .byte own_tens := f92.keep K101 (ninS ne9 (ninS (Ne.symm ne98) nin0))
    have f112 : Exa Z h100 am95 "[B" := eb95.keep K101
    have zs113 : Z.heap.size ≤ h100.size := Nat.le_trans zs94 K101.1
    have kp114 : Keep h h100 [] := kp95.trans K101 (allS (Or.inr fr11) (allS (px95_0.elim (fun e => e.symm ▸ (px71_0.elim (fun e => e.symm ▸ (Or.inr fr39)) (fun q => Or.inr (Nat.le_trans kp47.1 q)))) (fun q => Or.inr (Nat.le_trans kp71.1 q))) all0))
    obtain ⟨am114, xs114, fe114, ar114, eb114, na114, ga114, ok114, px114_0⟩ := x105
    have ne116 : am114 ≠ r1 := Nat.ne_of_gt (Nat.lt_of_lt_of_le o1 ga114)
    have ne117 : am114 ≠ r2 := Nat.ne_of_gt (Nat.lt_of_lt_of_le o2 ga114)
    refine Go.pop 51 d2_50 rfl rfl ?_
    refine Go.iinc 54 (1) #[.val (.ref r), .val (.ref a1), .val (.ref r), .val (.int (3 : Int32)), .val (.int (((0 : Int32) + (1 : Int32)) + (1 : Int32))), .val (.int s1)] d2_51 (by decide) rfl rfl rfl ?_
    refine Go.goto 16 d2_54 (by decide) (by decide) ?_
    refine Go.iload 18 d2_16 rfl rfl ?_
    refine Go.iload_n 19 d2_18 rfl rfl ?_
    refine Go.icmp_ge 57 22 d2_19 (by decide) (by decide) rfl (fun c => absurd c (by decide)) (fun _ => ?_)
    refine Go.aload_n 23 d2_22 rfl rfl rfl ?_
    refine Go.iload 25 d2_23 rfl rfl ?_
    refine Go.iaload (x := s2) (2) 26 d2_25 f106 (by decide) (by decide) rfl rfl ?_
    refine Go.istore 28 #[.val (.ref r), .val (.ref a1), .val (.ref r), .val (.int (3 : Int32)), .val (.int (((0 : Int32) + (1 : Int32)) + (1 : Int32))), .val (.int s2)] d2_26 rfl rfl ?_
    refine Go.aload_n 29 d2_28 rfl rfl rfl ?_
    refine Go.callVIp [] [] 32 d2_29 (tw95 hw) (tw96 hw) (tw97 hw) (tw56 hw) (tw12 hw) (tw57 hw) f102 pl10 (by decide) (lenOf pd10 rfl) rfl (fun m => ef_k_len m a1) _ (k_len hw h100 zs113 a1 f102 f104) 0 rfl (Nat.le_of_eq rfl) (by decide) (by decide) (by decide) (by decide) rfl ?_
    refine Go.if_le 42 35 d2_32 (by decide) (by decide) rfl (fun c122 => ?_) (fun c122 => ?_)
    ·
      exact absurd (own_lpos (by simp only [List.length_append, List.length_cons, List.length_nil, own_declen hv0, own_declen hv1, own_declen hv2]; omega) (by simp only [List.length_append, List.length_cons, List.length_nil, own_declen hv0, own_declen hv1, own_declen hv2]; omega)) c122
    ·
      refine Go.aload_n 36 d2_35 rfl rfl rfl ?_
      refine Go.bipush 38 (32) d2_36 (by decide) rfl ?_
      refine Go.callVRe [.int (32 : Int32)] [] 41 d2_38 (tw122 hw) (tw123 hw) (tw125 hw) (tw124 hw) (tw12 hw) (tw126 hw) f102 pl23 (by decide) (lenOf pd23 rfl) rfl (fun m => ef_k_ac m a1 (32 : Int32)) _ _ (k_ac (cs := ((([] ++ own_dec (s0 + (1 : Int32))) ++ [(32 : Int32)]) ++ own_dec (s1 + (1 : Int32)))) hw h100 zs113 a1 f102 fe114 f103 f104 ar114 eb114 f107 ok114 (by assumption) (by simp only [List.length_append, List.length_cons, List.length_nil, own_declen hv0, own_declen hv1, own_declen hv2]; omega) ge10 ga114 na114) 0 rfl (Nat.le_of_eq rfl) (by decide) (by decide) (by decide) (by decide) rfl ?_
      rintro h124 ⟨K125, f126, f127, f128, x129⟩
      have f130 : Ari Z h124 r .int [s0, s1, s2] := f106.keep K125 (ninS ne7 (ninS (own_nea f106 ar114 (by decide)) nin0))
      have f131 : Sta Z h124 "java/lang/String" "COMPACT_STRINGS" "Z" (.int cz) := own_staK f107 K125 (allS (own_nost f102) (allS (Ari.nostat ar114) all0))
      have f132 : Sta Z h124 "java/lang/Integer" "DigitOnes" "[B" (.ref r1) := own_staK f108 K125 (allS (own_nost f102) (allS (Ari.nostat ar114) all0))
      have f133 : Ari Z h124 r1 .byte own_ones := f109.keep K125 (ninS ne8 (ninS (Ne.symm ne116) nin0))
      have f134 : Sta Z h124 "java/lang/Integer" "DigitTens" "[B" (.ref r2) := own_staK f110 K125 (allS (own_nost f102) (allS (Ari.nostat ar114) all0))
      have f135 : Ari Z h124 r2 .byte own_tens := f111.keep K125 (ninS ne9 (ninS (Ne.symm ne117) nin0))
      have f136 : Exa Z h124 am114 "[B" := eb114.keep K125
      have zs137 : Z.heap.size ≤ h124.size := Nat.le_trans zs113 K125.1
      have kp138 : Keep h h124 [] := kp114.trans K125 (allS (Or.inr fr11) (allS (px114_0.elim (fun e => e.symm ▸ (px95_0.elim (fun e => e.symm ▸ (px71_0.elim (fun e => e.symm ▸ (Or.inr fr39)) (fun q => Or.inr (Nat.le_trans kp47.1 q)))) (fun q => Or.inr (Nat.le_trans kp71.1 q)))) (fun q => Or.inr (Nat.le_trans kp95.1 q))) all0))
      obtain ⟨am138, xs138, fe138, ar138, eb138, na138, ga138, ok138, px138_0⟩ := x129
      have ne140 : am138 ≠ r1 := Nat.ne_of_gt (Nat.lt_of_lt_of_le o1 ga138)
      have ne141 : am138 ≠ r2 := Nat.ne_of_gt (Nat.lt_of_lt_of_le o2 ga138)
      refine Go.pop 42 d2_41 rfl rfl ?_
      refine Go.aload_n 43 d2_42 rfl rfl rfl ?_
      refine Go.iload 45 d2_43 rfl rfl ?_
      refine Go.iconst 46 (1) d2_45 (by decide) rfl ?_
      refine Go.iadd 47 d2_46 rfl ?_
      refine Go.callVRe [.int (s2 + (1 : Int32))] [] 50 d2_47 (tw98 hw) (tw99 hw) (tw101 hw) (tw100 hw) (tw12 hw) (tw102 hw) f126 pl18 (by decide) (lenOf pd18 rfl) rfl (fun m => ef_k_ai m a1 (s2 + (1 : Int32))) _ _ (k_ai (cs := (((([] ++ own_dec (s0 + (1 : Int32))) ++ [(32 : Int32)]) ++ own_dec (s1 + (1 : Int32))) ++ [(32 : Int32)])) hw h124 zs137 a1 ((s2 + (1 : Int32))) f126 fe138 f127 f128 ar138 eb138 f131 f132 f133 f134 f135 ok138 (by assumption) hv2 (by simp only [List.length_append, List.length_cons, List.length_nil, own_declen hv0, own_declen hv1, own_declen hv2]; omega) (by assumption) (by assumption) ge10 ga138 na138 ne140 ne141 (Ne.symm ne8) (Ne.symm ne9)) 0 rfl (Nat.le_of_eq rfl) (by decide) (by decide) (by decide) (by decide) rfl ?_
      rintro h143 ⟨K144, f145, f146, f147, x148⟩
      have f149 : Ari Z h143 r .int [s0, s1, s2] := f130.keep K144 (ninS ne7 (ninS (own_nea f130 ar138 (by decide)) nin0))
      have f150 : Sta Z h143 "java/lang/String" "COMPACT_STRINGS" "Z" (.int cz) := own_staK f131 K144 (allS (own_nost f126) (allS (Ari.nostat ar138) all0))
      have f151 : Sta Z h143 "java/lang/Integer" "DigitOnes" "[B" (.ref r1) := own_staK f132 K144 (allS (own_nost f126) (allS (Ari.nostat ar138) all0))
      have f152 : Ari Z h143 r1 .byte own_ones := f133.keep K144 (ninS ne8 (ninS (Ne.symm ne140) nin0))
      have f153 : Sta Z h143 "java/lang/Integer" "DigitTens" "[B" (.ref r2) := own_staK f134 K144 (allS (own_nost f126) (allS (Ari.nostat ar138) all0))
      have f154 : Ari Z h143 r2 .byte own_tens := f135.keep K144 (ninS ne9 (ninS (Ne.symm ne141) nin0))
      have f155 : Exa Z h143 am138 "[B" := eb138.keep K144
      have zs156 : Z.heap.size ≤ h143.size := Nat.le_trans zs137 K144.1
      have kp157 : Keep h h143 [] := kp138.trans K144 (allS (Or.inr fr11) (allS (px138_0.elim (fun e => e.symm ▸ (px114_0.elim (fun e => e.symm ▸ (px95_0.elim (fun e => e.symm ▸ (px71_0.elim (fun e => e.symm ▸ (Or.inr fr39)) (fun q => Or.inr (Nat.le_trans kp47.1 q)))) (fun q => Or.inr (Nat.le_trans kp71.1 q)))) (fun q => Or.inr (Nat.le_trans kp95.1 q)))) (fun q => Or.inr (Nat.le_trans kp114.1 q))) all0))
      obtain ⟨am157, xs157, fe157, ar157, eb157, na157, ga157, ok157, px157_0⟩ := x148
      have ne159 : am157 ≠ r1 := Nat.ne_of_gt (Nat.lt_of_lt_of_le o1 ga157)
      have ne160 : am157 ≠ r2 := Nat.ne_of_gt (Nat.lt_of_lt_of_le o2 ga157)
      refine Go.pop 51 d2_50 rfl rfl ?_
      refine Go.iinc 54 (1) #[.val (.ref r), .val (.ref a1), .val (.ref r), .val (.int (3 : Int32)), .val (.int ((((0 : Int32) + (1 : Int32)) + (1 : Int32)) + (1 : Int32))), .val (.int s2)] d2_51 (by decide) rfl rfl rfl ?_
      refine Go.goto 16 d2_54 (by decide) (by decide) ?_
      refine Go.iload 18 d2_16 rfl rfl ?_
      refine Go.iload_n 19 d2_18 rfl rfl ?_
      refine Go.icmp_ge 57 22 d2_19 (by decide) (by decide) rfl (fun _ => ?_) (fun c => absurd c (by decide))
      refine Go.aload_n 58 d2_57 rfl rfl rfl ?_
      refine Go.callVR [] [] 61 d2_58 (tw32 hw) (tw33 hw) (tw35 hw) (tw34 hw) (tw12 hw) (tw36 hw) f145 pl6 (by decide) (lenOf pd6 rfl) rfl (fun m => ef_k_ts m a1) _ (k_ts (cs := ((((([] ++ own_dec (s0 + (1 : Int32))) ++ [(32 : Int32)]) ++ own_dec (s1 + (1 : Int32))) ++ [(32 : Int32)]) ++ own_dec (s2 + (1 : Int32)))) hw h143 zs156 a1 f145 fe157 f146 f147 ar157 eb157 f150 ok157 (by assumption)) 0 rfl (Nat.le_of_eq rfl) (by decide) (by decide) (by decide) (by decide) rfl ?_
      rintro z162 h163 ⟨a165, a166, rfl, g167, g168, ne169, K164, f170, f171, f172, f173⟩
      have ne174 : r ≠ a165 := Nat.ne_of_lt (Nat.lt_of_lt_of_le f149.lt g167)
      have ne175 : r1 ≠ a165 := Nat.ne_of_lt (Nat.lt_of_lt_of_le f152.lt g167)
      have ne176 : r2 ≠ a165 := Nat.ne_of_lt (Nat.lt_of_lt_of_le f154.lt g167)
      have ne177 : a1 ≠ a165 := Nat.ne_of_lt (Nat.lt_of_lt_of_le f145.lt g167)
      have ne178 : am157 ≠ a165 := Nat.ne_of_lt (Nat.lt_of_lt_of_le ar157.lt g167)
      have ge179 : Z.heap.size ≤ a165 := Nat.le_trans zs156 g167
      have fr180 : h.size ≤ a165 := Nat.le_trans kp157.1 g167
      have ne181 : r ≠ a166 := Nat.ne_of_lt (Nat.lt_of_lt_of_le f149.lt g168)
      have ne182 : r1 ≠ a166 := Nat.ne_of_lt (Nat.lt_of_lt_of_le f152.lt g168)
      have ne183 : r2 ≠ a166 := Nat.ne_of_lt (Nat.lt_of_lt_of_le f154.lt g168)
      have ne184 : a1 ≠ a166 := Nat.ne_of_lt (Nat.lt_of_lt_of_le f145.lt g168)
      have ne185 : am157 ≠ a166 := Nat.ne_of_lt (Nat.lt_of_lt_of_le ar157.lt g168)
      have ge186 : Z.heap.size ≤ a166 := Nat.le_trans zs156 g168
      have fr187 : h.size ≤ a166 := Nat.le_trans kp157.1 g168
      have f188 : Ari Z h163 r .int [s0, s1, s2] := f149.keep K164 nin0
      have f189 : Sta Z h163 "java/lang/String" "COMPACT_STRINGS" "Z" (.int cz) := own_staK f150 K164 all0
      have f190 : Sta Z h163 "java/lang/Integer" "DigitOnes" "[B" (.ref r1) := own_staK f151 K164 all0
      have f191 : Ari Z h163 r1 .byte own_ones := f152.keep K164 nin0
      have f192 : Sta Z h163 "java/lang/Integer" "DigitTens" "[B" (.ref r2) := own_staK f153 K164 all0
      have f193 : Ari Z h163 r2 .byte own_tens := f154.keep K164 nin0
      have f194 : Exa Z h163 a1 "java/lang/StringBuilder" := f145.keep K164
      have f195 : Fld Z h163 a1 "java/lang/AbstractStringBuilder" "coder" "B" (.int (0 : Int32)) := f146.keep K164 nin0
      have f196 : Fld Z h163 a1 "java/lang/AbstractStringBuilder" "count" "I" (.int (List.length ((((([] ++ own_dec (s0 + (1 : Int32))) ++ [(32 : Int32)]) ++ own_dec (s1 + (1 : Int32))) ++ [(32 : Int32)]) ++ own_dec (s2 + (1 : Int32)))).toInt32) := f147.keep K164 nin0
      have f197 : Fld Z h163 a1 "java/lang/AbstractStringBuilder" "value" "[B" (.ref am157) := fe157.keep K164 nin0
      have f198 : Ari Z h163 am157 .byte xs157 := ar157.keep K164 nin0
      have f199 : Exa Z h163 am157 "[B" := eb157.keep K164
      have zs200 : Z.heap.size ≤ h163.size := Nat.le_trans zs156 K164.1
      have kp201 : Keep h h163 [] := kp157.trans K164 all0
      refine Go.areturn d2_61 rfl rfl rfl (by decide) (by decide) ?_
      exact ⟨a165, a166, rfl, fr180, fr187, ne169, kp201, f170, f171, f172, f173⟩

theorem d29_0 : decode jdk_42_method_152_code 0 = .ok (.getstatic 38, 3) := by decide +kernel
theorem d29_3 : decode jdk_42_method_152_code 3 = .ok (.ifCond .eq 10, 3) := by decide +kernel
theorem d29_6 : decode jdk_42_method_152_code 6 = .ok (.aload_n 0, 1) := by decide +kernel
theorem d29_7 : decode jdk_42_method_152_code 7 = .ok (.getfield 15, 3) := by decide +kernel
theorem d29_10 : decode jdk_42_method_152_code 10 = .ok (.goto 4, 3) := by decide +kernel
theorem d29_13 : decode jdk_42_method_152_code 13 = .ok (.iconst 1, 1) := by decide +kernel
theorem d29_14 : decode jdk_42_method_152_code 14 = .ok (.ireturn, 1) := by decide +kernel

theorem pd29 : parseMethodDescriptor "()B" = some ⟨[], some .byte⟩ := by decide +kernel
theorem pl29 : plainFor (⟨"java/lang/String", "coder", "()B"⟩ : MethodName) = true := by first | exact plainFor_of_name (by first | (simp [plainName, overriddenIn]; done) | decide +kernel) | decide +kernel

theorem ef_k_cod (m : MethodId) (x0 : Addr) : entryFrame m #[(.ref x0)] 1 = mkF m 0 #[.val (.ref x0)] [] := by first | (simp [entryFrame, mkF, argsToLocals, Value.category]; done) | rfl

set_option maxRecDepth 65536 in
set_option maxHeartbeats 40000000 in
theorem k_cod {l : Launch} {Z : State} {a0 : Array Value} (hw : ∀ d ∈ tables_1, d.before a0 Z = true) {cz : Int32} (h : Heap) (hz : Z.heap.size ≤ h.size) (s : Addr) (fa0 : Sta Z h "java/lang/String" "COMPACT_STRINGS" "Z" (.int cz)) (fa1 : Fld Z h s "java/lang/String" "coder" "B" (.int (0 : Int32))) (hcz : ¬ cz = (0 : Int32))   : Go l Z (⟨"java/lang/String", "coder", "()B"⟩ : MethodName) jdk_42_method_152_code 1 (Option.some Jvm.ClassFile.FieldType.byte) ({ frames := 0, cells := 0, slots := 0, locals := 0 } : Room) (QI fun rz h' => rz = (0 : Int32) ∧ h' = h) 0 0 h 0 #[.val (.ref s)] [] := by
  refine Go.getstatic 3 d29_0 (tw151 hw) fa0 rfl ?_
  refine Go.if_eq 13 6 d29_3 (by decide) (by decide) rfl (fun c => absurd c hcz) (fun _ => ?_)
  refine Go.aload_n 7 d29_6 rfl rfl rfl ?_
  refine Go.getfield 10 d29_7 (tw68 hw) fa1 rfl ?_
  refine Go.goto 14 d29_10 (by decide) (by decide) ?_
  refine Go.nreturn (t := .byte) (z' := (0 : Int32)) d29_14 rfl (by simp) (by decide) (by decide) (by decide) ?_
  exact ⟨rfl, rfl⟩

theorem d32_0 : decode jdk_42_method_154_code 0 = .ok (.getstatic 38, 3) := by decide +kernel
theorem d32_3 : decode jdk_42_method_154_code 3 = .ok (.ifCond .eq 14, 3) := by decide +kernel
theorem d32_6 : decode jdk_42_method_154_code 6 = .ok (.aload_n 0, 1) := by decide +kernel
theorem d32_7 : decode jdk_42_method_154_code 7 = .ok (.getfield 15, 3) := by decide +kernel
theorem d32_10 : decode jdk_42_method_154_code 10 = .ok (.ifCond .ne 7, 3) := by decide +kernel
theorem d32_13 : decode jdk_42_method_154_code 13 = .ok (.iconst 1, 1) := by decide +kernel
theorem d32_14 : decode jdk_42_method_154_code 14 = .ok (.goto 4, 3) := by decide +kernel
theorem d32_17 : decode jdk_42_method_154_code 17 = .ok (.iconst 0, 1) := by decide +kernel
theorem d32_18 : decode jdk_42_method_154_code 18 = .ok (.ireturn, 1) := by decide +kernel

theorem pd32 : parseMethodDescriptor "()Z" = some ⟨[], some .boolean⟩ := by decide +kernel
theorem pl32 : plainFor (⟨"java/lang/String", "isLatin1", "()Z"⟩ : MethodName) = true := by first | exact plainFor_of_name (by first | (simp [plainName, overriddenIn]; done) | decide +kernel) | decide +kernel

theorem ef_k_sl1 (m : MethodId) (x0 : Addr) : entryFrame m #[(.ref x0)] 1 = mkF m 0 #[.val (.ref x0)] [] := by first | (simp [entryFrame, mkF, argsToLocals, Value.category]; done) | rfl

set_option maxRecDepth 65536 in
set_option maxHeartbeats 40000000 in
theorem k_sl1 {l : Launch} {Z : State} {a0 : Array Value} (hw : ∀ d ∈ tables_1, d.before a0 Z = true) {cz : Int32} (h : Heap) (hz : Z.heap.size ≤ h.size) (s : Addr) (fa0 : Sta Z h "java/lang/String" "COMPACT_STRINGS" "Z" (.int cz)) (fa1 : Fld Z h s "java/lang/String" "coder" "B" (.int (0 : Int32))) (hcz : ¬ cz = (0 : Int32))   : Go l Z (⟨"java/lang/String", "isLatin1", "()Z"⟩ : MethodName) jdk_42_method_154_code 1 (Option.some Jvm.ClassFile.FieldType.boolean) ({ frames := 0, cells := 0, slots := 0, locals := 0 } : Room) (QI fun rz h' => rz = (1 : Int32) ∧ h' = h) 0 0 h 0 #[.val (.ref s)] [] := by
  refine Go.getstatic 3 d32_0 (tw151 hw) fa0 rfl ?_
  refine Go.if_eq 17 6 d32_3 (by decide) (by decide) rfl (fun c => absurd c hcz) (fun _ => ?_)
  refine Go.aload_n 7 d32_6 rfl rfl rfl ?_
  refine Go.getfield 10 d32_7 (tw68 hw) fa1 rfl ?_
  refine Go.if_ne 17 13 d32_10 (by decide) (by decide) rfl (fun c => absurd c (by decide)) (fun _ => ?_)
  refine Go.iconst 14 (1) d32_13 (by decide) rfl ?_
  refine Go.goto 18 d32_14 (by decide) (by decide) ?_
  refine Go.nreturn (t := .boolean) (z' := (1 : Int32)) d32_18 rfl (by simp) (by decide) (by decide) (by decide) ?_
  exact ⟨rfl, rfl⟩

theorem d28_0 : decode jdk_42_method_54_code 0 = .ok (.aload_n 0, 1) := by decide +kernel
theorem d28_1 : decode jdk_42_method_54_code 1 = .ok (.getfield 9, 3) := by decide +kernel
theorem d28_4 : decode jdk_42_method_54_code 4 = .ok (.arraylength, 1) := by decide +kernel
theorem d28_5 : decode jdk_42_method_54_code 5 = .ok (.aload_n 0, 1) := by decide +kernel
theorem d28_6 : decode jdk_42_method_54_code 6 = .ok (.invokevirtual 335, 3) := by decide +kernel
theorem d28_9 : decode jdk_42_method_54_code 9 = .ok (.ishr, 1) := by decide +kernel
theorem d28_10 : decode jdk_42_method_54_code 10 = .ok (.ireturn, 1) := by decide +kernel

theorem pd28 : parseMethodDescriptor "()I" = some ⟨[], some .int⟩ := by decide +kernel
theorem pl28 : plainFor (⟨"java/lang/String", "length", "()I"⟩ : MethodName) = true := by first | exact plainFor_of_name (by first | (simp [plainName, overriddenIn]; done) | decide +kernel) | decide +kernel

theorem ef_k_slen (m : MethodId) (x0 : Addr) : entryFrame m #[(.ref x0)] 1 = mkF m 0 #[.val (.ref x0)] [] := by first | (simp [entryFrame, mkF, argsToLocals, Value.category]; done) | rfl

set_option maxRecDepth 65536 in
set_option maxHeartbeats 40000000 in
theorem k_slen {l : Launch} {Z : State} {a0 : Array Value} (hw : ∀ d ∈ tables_1, d.before a0 Z = true) {t : Addr} {cs : List Int32} {cz : Int32} (h : Heap) (hz : Z.heap.size ≤ h.size) (s : Addr) (fa0 : Exa Z h s "java/lang/String") (fa1 : Fld Z h s "java/lang/String" "value" "[B" (.ref t)) (fa2 : Fld Z h s "java/lang/String" "coder" "B" (.int (0 : Int32))) (fa3 : Ari Z h t .byte cs) (fa4 : Sta Z h "java/lang/String" "COMPACT_STRINGS" "Z" (.int cz)) (hcz : ¬ cz = (0 : Int32))   : Go l Z (⟨"java/lang/String", "length", "()I"⟩ : MethodName) jdk_42_method_54_code 1 (Option.some Jvm.ClassFile.FieldType.int) ({ frames := 1, cells := 0, slots := 0, locals := 16 } : Room) (QI fun rz h' => rz = ((List.length cs).toInt32) ∧ h' = h) 0 0 h 0 #[.val (.ref s)] [] := by
  refine Go.aload_n 1 d28_0 rfl rfl rfl ?_
  refine Go.getfield 4 d28_1 (tw88 hw) fa1 rfl ?_
  refine Go.arraylength (z := (List.length cs).toInt32) 5 d28_4 fa3 rfl rfl ?_
  refine Go.aload_n 6 d28_5 rfl rfl rfl ?_
  refine Go.callVIp [] [.int (List.length cs).toInt32] 9 d28_6 (tw146 hw) (tw147 hw) (tw149 hw) (tw148 hw) (tw26 hw) (tw150 hw) fa0 pl29 (by decide) (lenOf pd29 rfl) rfl (fun m => ef_k_cod m s) _ (k_cod hw h hz s fa4 fa2 (by assumption)) 1 rfl (Nat.le_of_eq rfl) (by decide) (by decide) (by decide) (by decide) rfl ?_
  refine Go.ishr 10 d28_9 rfl ?_
  refine Go.ireturn d28_10 rfl (by decide) (by decide) ?_
  exact ⟨own_shr0 _, rfl⟩

theorem d17_0 : decode jdk_42_method_55_code 0 = .ok (.aload_n 0, 1) := by decide +kernel
theorem d17_1 : decode jdk_42_method_55_code 1 = .ok (.getfield 9, 3) := by decide +kernel
theorem d17_4 : decode jdk_42_method_55_code 4 = .ok (.arraylength, 1) := by decide +kernel
theorem d17_5 : decode jdk_42_method_55_code 5 = .ok (.ifCond .ne 7, 3) := by decide +kernel
theorem d17_8 : decode jdk_42_method_55_code 8 = .ok (.iconst 1, 1) := by decide +kernel
theorem d17_9 : decode jdk_42_method_55_code 9 = .ok (.goto 4, 3) := by decide +kernel
theorem d17_12 : decode jdk_42_method_55_code 12 = .ok (.iconst 0, 1) := by decide +kernel
theorem d17_13 : decode jdk_42_method_55_code 13 = .ok (.ireturn, 1) := by decide +kernel

theorem pd17 : parseMethodDescriptor "()Z" = some ⟨[], some .boolean⟩ := by decide +kernel
theorem pl17 : plainFor (⟨"java/lang/String", "isEmpty", "()Z"⟩ : MethodName) = true := by first | exact plainFor_of_name (by first | (simp [plainName, overriddenIn]; done) | decide +kernel) | decide +kernel

theorem ef_k_emp (m : MethodId) (x0 : Addr) : entryFrame m #[(.ref x0)] 1 = mkF m 0 #[.val (.ref x0)] [] := by first | (simp [entryFrame, mkF, argsToLocals, Value.category]; done) | rfl

set_option maxRecDepth 65536 in
set_option maxHeartbeats 40000000 in
theorem k_emp {l : Launch} {Z : State} {a0 : Array Value} (hw : ∀ d ∈ tables_1, d.before a0 Z = true) {t : Addr} (h : Heap) (hz : Z.heap.size ≤ h.size) (s : Addr) (fa0 : Fld Z h s "java/lang/String" "value" "[B" (.ref t)) (fa1 : Ari Z h t .byte [])    : Go l Z (⟨"java/lang/String", "isEmpty", "()Z"⟩ : MethodName) jdk_42_method_55_code 1 (Option.some Jvm.ClassFile.FieldType.boolean) ({ frames := 0, cells := 0, slots := 0, locals := 0 } : Room) (QI fun rz h' => rz = (1 : Int32) ∧ h' = h) 0 0 h 0 #[.val (.ref s)] [] := by
  refine Go.aload_n 1 d17_0 rfl rfl rfl ?_
  refine Go.getfield 4 d17_1 (tw88 hw) fa0 rfl ?_
  refine Go.arraylength (z := (0 : Int32)) 5 d17_4 fa1 (by decide : Nat.toInt32 0 = (0 : Int32)) rfl ?_
  refine Go.if_ne 12 8 d17_5 (by decide) (by decide) rfl (fun c => absurd c (by decide)) (fun _ => ?_)
  refine Go.iconst 9 (1) d17_8 (by decide) rfl ?_
  refine Go.goto 13 d17_9 (by decide) (by decide) ?_
  refine Go.nreturn (t := .boolean) (z' := (1 : Int32)) d17_13 rfl (by simp) (by decide) (by decide) (by decide) ?_
  exact ⟨rfl, rfl⟩

theorem d35_0 : decode jdk_41_method_11_code 0 = .ok (.iload_n 0, 1) := by decide +kernel
theorem d35_1 : decode jdk_41_method_11_code 1 = .ok (.ifCond .lt 8, 3) := by decide +kernel
theorem d35_4 : decode jdk_41_method_11_code 4 = .ok (.iload_n 0, 1) := by decide +kernel
theorem d35_5 : decode jdk_41_method_11_code 5 = .ok (.iload_n 1, 1) := by decide +kernel
theorem d35_6 : decode jdk_41_method_11_code 6 = .ok (.if_icmp .lt 10, 3) := by decide +kernel
theorem d35_9 : decode jdk_41_method_11_code 9 = .ok (.aload_n 2, 1) := by decide +kernel
theorem d35_10 : decode jdk_41_method_11_code 10 = .ok (.iload_n 0, 1) := by decide +kernel
theorem d35_11 : decode jdk_41_method_11_code 11 = .ok (.iload_n 1, 1) := by decide +kernel
theorem d35_12 : decode jdk_41_method_11_code 12 = .ok (.invokestatic 95, 3) := by decide +kernel
theorem d35_15 : decode jdk_41_method_11_code 15 = .ok (.athrow, 1) := by decide +kernel
theorem d35_16 : decode jdk_41_method_11_code 16 = .ok (.iload_n 0, 1) := by decide +kernel
theorem d35_17 : decode jdk_41_method_11_code 17 = .ok (.ireturn, 1) := by decide +kernel

theorem pd35 : parseMethodDescriptor "(IILjava/util/function/BiFunction;)I" = some ⟨[.int, .int, (.object "java/util/function/BiFunction")], some .int⟩ := by decide +kernel
theorem pl35 : plainFor (⟨"jdk/internal/util/Preconditions", "checkIndex", "(IILjava/util/function/BiFunction;)I"⟩ : MethodName) = true := by first | exact plainFor_of_name (by first | (simp [plainName, overriddenIn]; done) | decide +kernel) | decide +kernel

theorem ef_k_pciN (m : MethodId) (x0 : Int32) (x1 : Int32) (x2 : Unit) : entryFrame m #[(.int x0), (.int x1), .null] 3 = mkF m 0 #[.val (.int x0), .val (.int x1), .val .null] [] := by first | (simp [entryFrame, mkF, argsToLocals, Value.category]; done) | rfl

set_option maxRecDepth 65536 in
set_option maxHeartbeats 40000000 in
theorem k_pciN {l : Launch} {Z : State} {a0 : Array Value} (hw : ∀ d ∈ tables_1, d.before a0 Z = true)  (h : Heap) (hz : Z.heap.size ≤ h.size) (i : Int32) (n : Int32) (nul : Unit)  (h0 : ¬ i < (0 : Int32)) (h1 : i < n)   : Go l Z (⟨"jdk/internal/util/Preconditions", "checkIndex", "(IILjava/util/function/BiFunction;)I"⟩ : MethodName) jdk_41_method_11_code 3 (Option.some Jvm.ClassFile.FieldType.int) ({ frames := 0, cells := 0, slots := 0, locals := 0 } : Room) (QI fun rz h' => rz = i ∧ h' = h) 0 0 h 0 #[.val (.int i), .val (.int n), .val (.null)] [] := by
  refine Go.iload_n 1 d35_0 rfl rfl ?_
  refine Go.if_lt 9 4 d35_1 (by decide) (by decide) rfl (fun c1 => ?_) (fun c1 => ?_)
  ·
    exact absurd c1 h0
  ·
    refine Go.iload_n 5 d35_4 rfl rfl ?_
    refine Go.iload_n 6 d35_5 rfl rfl ?_
    refine Go.icmp_lt 16 9 d35_6 (by decide) (by decide) rfl (fun c2 => ?_) (fun c2 => ?_)
    ·
      refine Go.iload_n 17 d35_16 rfl rfl ?_
      refine Go.ireturn d35_17 rfl (by decide) (by decide) ?_
      exact ⟨rfl, rfl⟩
    ·
      exact absurd h1 c2

theorem ef_k_pciA (m : MethodId) (x0 : Int32) (x1 : Int32) (x2 : Addr) : entryFrame m #[(.int x0), (.int x1), (.ref x2)] 3 = mkF m 0 #[.val (.int x0), .val (.int x1), .val (.ref x2)] [] := by first | (simp [entryFrame, mkF, argsToLocals, Value.category]; done) | rfl

set_option maxRecDepth 65536 in
set_option maxHeartbeats 40000000 in
theorem k_pciA {l : Launch} {Z : State} {a0 : Array Value} (hw : ∀ d ∈ tables_1, d.before a0 Z = true)  (h : Heap) (hz : Z.heap.size ≤ h.size) (i : Int32) (n : Int32) (rf : Addr)  (h0 : ¬ i < (0 : Int32)) (h1 : i < n)   : Go l Z (⟨"jdk/internal/util/Preconditions", "checkIndex", "(IILjava/util/function/BiFunction;)I"⟩ : MethodName) jdk_41_method_11_code 3 (Option.some Jvm.ClassFile.FieldType.int) ({ frames := 0, cells := 0, slots := 0, locals := 0 } : Room) (QI fun rz h' => rz = i ∧ h' = h) 0 0 h 0 #[.val (.int i), .val (.int n), .val (.ref rf)] [] := by
  refine Go.iload_n 1 d35_0 rfl rfl ?_
  refine Go.if_lt 9 4 d35_1 (by decide) (by decide) rfl (fun c1 => ?_) (fun c1 => ?_)
  ·
    exact absurd c1 h0
  ·
    refine Go.iload_n 5 d35_4 rfl rfl ?_
    refine Go.iload_n 6 d35_5 rfl rfl ?_
    refine Go.icmp_lt 16 9 d35_6 (by decide) (by decide) rfl (fun c2 => ?_) (fun c2 => ?_)
    ·
      refine Go.iload_n 17 d35_16 rfl rfl ?_
      refine Go.ireturn d35_17 rfl (by decide) (by decide) ?_
      exact ⟨rfl, rfl⟩
    ·
      exact absurd h1 c2

theorem d34_0 : decode jdk_42_method_155_code 0 = .ok (.iload_n 0, 1) := by decide +kernel
theorem d34_1 : decode jdk_42_method_155_code 1 = .ok (.iload_n 1, 1) := by decide +kernel
theorem d34_2 : decode jdk_42_method_155_code 2 = .ok (.getstatic 1053, 3) := by decide +kernel
theorem d34_5 : decode jdk_42_method_155_code 5 = .ok (.invokestatic 1059, 3) := by decide +kernel
theorem d34_8 : decode jdk_42_method_155_code 8 = .ok (.pop, 1) := by decide +kernel
theorem d34_9 : decode jdk_42_method_155_code 9 = .ok (.return_, 1) := by decide +kernel

theorem pd34 : parseMethodDescriptor "(II)V" = some ⟨[.int, .int], none⟩ := by decide +kernel
theorem pl34 : plainFor (⟨"java/lang/String", "checkIndex", "(II)V"⟩ : MethodName) = true := by first | exact plainFor_of_name (by first | (simp [plainName, overriddenIn]; done) | decide +kernel) | decide +kernel

theorem ef_k_ci (m : MethodId) (x0 : Int32) (x1 : Int32) : entryFrame m #[(.int x0), (.int x1)] 2 = mkF m 0 #[.val (.int x0), .val (.int x1)] [] := by first | (simp [entryFrame, mkF, argsToLocals, Value.category]; done) | rfl

set_option maxRecDepth 65536 in
set_option maxHeartbeats 40000000 in
theorem k_ci {l : Launch} {Z : State} {a0 : Array Value} (hw : ∀ d ∈ tables_1, d.before a0 Z = true)  (h : Heap) (hz : Z.heap.size ≤ h.size) (i : Int32) (n : Int32) (fa0 : Str Z h "jdk/internal/util/Preconditions" "SIOOBE_FORMATTER" "Ljava/util/function/BiFunction;") (h0 : ¬ i < (0 : Int32)) (h1 : i < n)   : Go l Z (⟨"java/lang/String", "checkIndex", "(II)V"⟩ : MethodName) jdk_42_method_155_code 2 (Option.none : Option Jvm.ClassFile.FieldType) ({ frames := 1, cells := 0, slots := 0, locals := 20 } : Room) (QV fun h' => h' = h) 0 0 h 0 #[.val (.int i), .val (.int n)] [] := by
  refine Go.iload_n 1 d34_0 rfl rfl ?_
  refine Go.iload_n 2 d34_1 rfl rfl ?_
  rcases fa0 with hS | ⟨rf, hS⟩
  ·
    refine Go.getstatic 5 d34_2 (tw171 hw) hS rfl ?_
    refine Go.callSIp [.int i, .int n, .null] [] 8 d34_5 (tw173 hw) (tw174 hw) (tw172 hw) (tw175 hw) pl35 (by decide) (lenOf pd35 rfl) rfl (fun m => ef_k_pciN m i n ()) _ (k_pciN hw h hz i n () (by assumption) (by assumption)) 0 rfl (Nat.le_of_eq rfl) (by decide) (by decide) (by decide) (by decide) rfl ?_
    refine Go.pop 9 d34_8 rfl rfl ?_
    refine Go.vreturn d34_9 rfl (by decide) (by decide) ?_
    rfl
  ·
    refine Go.getstatic 5 d34_2 (tw171 hw) hS rfl ?_
    refine Go.callSIp [.int i, .int n, .ref rf] [] 8 d34_5 (tw173 hw) (tw174 hw) (tw172 hw) (tw175 hw) pl35 (by decide) (lenOf pd35 rfl) rfl (fun m => ef_k_pciA m i n rf) _ (k_pciA hw h hz i n rf (by assumption) (by assumption)) 0 rfl (Nat.le_of_eq rfl) (by decide) (by decide) (by decide) (by decide) rfl ?_
    refine Go.pop 9 d34_8 rfl rfl ?_
    refine Go.vreturn d34_9 rfl (by decide) (by decide) ?_
    rfl

theorem d33_0 : decode jdk_43_method_2_code 0 = .ok (.iload_n 1, 1) := by decide +kernel
theorem d33_1 : decode jdk_43_method_2_code 1 = .ok (.aload_n 0, 1) := by decide +kernel
theorem d33_2 : decode jdk_43_method_2_code 2 = .ok (.arraylength, 1) := by decide +kernel
theorem d33_3 : decode jdk_43_method_2_code 3 = .ok (.invokestatic 9, 3) := by decide +kernel
theorem d33_6 : decode jdk_43_method_2_code 6 = .ok (.aload_n 0, 1) := by decide +kernel
theorem d33_7 : decode jdk_43_method_2_code 7 = .ok (.iload_n 1, 1) := by decide +kernel
theorem d33_8 : decode jdk_43_method_2_code 8 = .ok (.baload, 1) := by decide +kernel
theorem d33_9 : decode jdk_43_method_2_code 9 = .ok (.sipush 255, 3) := by decide +kernel
theorem d33_12 : decode jdk_43_method_2_code 12 = .ok (.iand, 1) := by decide +kernel
theorem d33_13 : decode jdk_43_method_2_code 13 = .ok (.i2c, 1) := by decide +kernel
theorem d33_14 : decode jdk_43_method_2_code 14 = .ok (.ireturn, 1) := by decide +kernel

theorem pd33 : parseMethodDescriptor "([BI)C" = some ⟨[(.array .byte), .int], some .char⟩ := by decide +kernel
theorem pl33 : plainFor (⟨"java/lang/StringLatin1", "charAt", "([BI)C"⟩ : MethodName) = true := by first | exact plainFor_of_name (by first | (simp [plainName, overriddenIn]; done) | decide +kernel) | decide +kernel

theorem ef_k_l1c (m : MethodId) (x0 : Addr) (x1 : Int32) : entryFrame m #[(.ref x0), (.int x1)] 2 = mkF m 0 #[.val (.ref x0), .val (.int x1)] [] := by first | (simp [entryFrame, mkF, argsToLocals, Value.category]; done) | rfl

set_option maxRecDepth 65536 in
set_option maxHeartbeats 40000000 in
theorem k_l1c {l : Launch} {Z : State} {a0 : Array Value} (hw : ∀ d ∈ tables_1, d.before a0 Z = true) {cs : List Int32} {J : Nat} (h : Heap) (hz : Z.heap.size ≤ h.size) (t : Addr) (i : Int32) (fa0 : Ari Z h t .byte cs) (fa1 : Str Z h "jdk/internal/util/Preconditions" "SIOOBE_FORMATTER" "Ljava/util/function/BiFunction;") (hi : i = J.toInt32) (hJ : J < cs.length) (hl : cs.length ≤ 100) (hasc : own_asc cs)   : Go l Z (⟨"java/lang/StringLatin1", "charAt", "([BI)C"⟩ : MethodName) jdk_43_method_2_code 2 (Option.some Jvm.ClassFile.FieldType.char) ({ frames := 2, cells := 0, slots := 0, locals := 40 } : Room) (QI fun rz h' => rz = (cs.getD J 0) ∧ h' = h) 0 0 h 0 #[.val (.ref t), .val (.int i)] [] := by
  refine Go.iload_n 1 d33_0 rfl rfl ?_
  refine Go.aload_n 2 d33_1 rfl rfl rfl ?_
  refine Go.arraylength (z := (List.length cs).toInt32) 3 d33_2 fa0 rfl rfl ?_
  refine Go.callSVp [.int i, .int (List.length cs).toInt32] [] 6 d33_3 (tw168 hw) (tw169 hw) (tw26 hw) (tw170 hw) pl34 (by decide) (lenOf pd34 rfl) rfl (fun m => ef_k_ci m i (List.length cs).toInt32) (k_ci hw h hz i ((List.length cs).toInt32) fa1 (by rw [hi]; exact own_lenn (by omega)) (own_ilt hi hJ hl)) 0 rfl (Nat.le_of_eq rfl) (by decide) (by decide) (by decide) (by decide) rfl ?_
  refine Go.aload_n 7 d33_6 rfl rfl rfl ?_
  refine Go.iload_n 8 d33_7 rfl rfl ?_
  refine Go.baload (x := (cs.getD J 0)) (J) 9 d33_8 fa0 (by rw [hi]; exact own_lenn (by omega)) (by rw [hi]; exact own_lenN (by omega)) (own_getq hJ) rfl ?_
  refine Go.sipush 12 (255) d33_9 (by decide) rfl ?_
  refine Go.iand 13 d33_12 rfl ?_
  refine Go.i2c 14 d33_13 rfl ?_
  refine Go.nreturn (t := .char) (z' := (cs.getD J 0)) d33_14 rfl (by simp) (own_chr (own_ascg hasc hJ)) (by decide) (by decide) ?_
  exact ⟨rfl, rfl⟩

theorem d31_0 : decode jdk_42_method_56_code 0 = .ok (.aload_n 0, 1) := by decide +kernel
theorem d31_1 : decode jdk_42_method_56_code 1 = .ok (.invokevirtual 492, 3) := by decide +kernel
theorem d31_4 : decode jdk_42_method_56_code 4 = .ok (.ifCond .eq 12, 3) := by decide +kernel
theorem d31_7 : decode jdk_42_method_56_code 7 = .ok (.aload_n 0, 1) := by decide +kernel
theorem d31_8 : decode jdk_42_method_56_code 8 = .ok (.getfield 9, 3) := by decide +kernel
theorem d31_11 : decode jdk_42_method_56_code 11 = .ok (.iload_n 1, 1) := by decide +kernel
theorem d31_12 : decode jdk_42_method_56_code 12 = .ok (.invokestatic 495, 3) := by decide +kernel
theorem d31_15 : decode jdk_42_method_56_code 15 = .ok (.ireturn, 1) := by decide +kernel
theorem d31_16 : decode jdk_42_method_56_code 16 = .ok (.aload_n 0, 1) := by decide +kernel
theorem d31_17 : decode jdk_42_method_56_code 17 = .ok (.getfield 9, 3) := by decide +kernel
theorem d31_20 : decode jdk_42_method_56_code 20 = .ok (.iload_n 1, 1) := by decide +kernel
theorem d31_21 : decode jdk_42_method_56_code 21 = .ok (.invokestatic 498, 3) := by decide +kernel
theorem d31_24 : decode jdk_42_method_56_code 24 = .ok (.ireturn, 1) := by decide +kernel

theorem pd31 : parseMethodDescriptor "(I)C" = some ⟨[.int], some .char⟩ := by decide +kernel
theorem pl31 : plainFor (⟨"java/lang/String", "charAt", "(I)C"⟩ : MethodName) = true := by first | exact plainFor_of_name (by first | (simp [plainName, overriddenIn]; done) | decide +kernel) | decide +kernel

theorem ef_k_chr (m : MethodId) (x0 : Addr) (x1 : Int32) : entryFrame m #[(.ref x0), (.int x1)] 2 = mkF m 0 #[.val (.ref x0), .val (.int x1)] [] := by first | (simp [entryFrame, mkF, argsToLocals, Value.category]; done) | rfl

set_option maxRecDepth 65536 in
set_option maxHeartbeats 40000000 in
theorem k_chr {l : Launch} {Z : State} {a0 : Array Value} (hw : ∀ d ∈ tables_1, d.before a0 Z = true) {t : Addr} {cs : List Int32} {cz : Int32} {J : Nat} (h : Heap) (hz : Z.heap.size ≤ h.size) (s : Addr) (i : Int32) (fa0 : Exa Z h s "java/lang/String") (fa1 : Fld Z h s "java/lang/String" "value" "[B" (.ref t)) (fa2 : Fld Z h s "java/lang/String" "coder" "B" (.int (0 : Int32))) (fa3 : Ari Z h t .byte cs) (fa4 : Sta Z h "java/lang/String" "COMPACT_STRINGS" "Z" (.int cz)) (fa5 : Str Z h "jdk/internal/util/Preconditions" "SIOOBE_FORMATTER" "Ljava/util/function/BiFunction;") (hcz : ¬ cz = (0 : Int32)) (hi : i = J.toInt32) (hJ : J < cs.length) (hl : cs.length ≤ 100) (hasc : own_asc cs)   : Go l Z (⟨"java/lang/String", "charAt", "(I)C"⟩ : MethodName) jdk_42_method_56_code 2 (Option.some Jvm.ClassFile.FieldType.char) ({ frames := 3, cells := 0, slots := 0, locals := 60 } : Room) (QI fun rz h' => rz = (cs.getD J 0) ∧ h' = h) 0 0 h 0 #[.val (.ref s), .val (.int i)] [] := by
  refine Go.aload_n 1 d31_0 rfl rfl rfl ?_
  refine Go.callVIp [] [] 4 d31_1 (tw160 hw) (tw161 hw) (tw163 hw) (tw162 hw) (tw26 hw) (tw164 hw) fa0 pl32 (by decide) (lenOf pd32 rfl) rfl (fun m => ef_k_sl1 m s) _ (k_sl1 hw h hz s fa4 fa2 (by assumption)) 0 rfl (Nat.le_of_eq rfl) (by decide) (by decide) (by decide) (by decide) rfl ?_
  refine Go.if_eq 16 7 d31_4 (by decide) (by decide) rfl (fun c => absurd c (by decide)) (fun _ => ?_)
  refine Go.aload_n 8 d31_7 rfl rfl rfl ?_
  refine Go.getfield 11 d31_8 (tw88 hw) fa1 rfl ?_
  refine Go.iload_n 12 d31_11 rfl rfl ?_
  refine Go.callSIp [.ref t, .int i] [] 15 d31_12 (tw165 hw) (tw166 hw) (tw133 hw) (tw167 hw) pl33 (by decide) (lenOf pd33 rfl) rfl (fun m => ef_k_l1c m t i) _ (k_l1c (J := J) hw h hz t i fa3 fa5 (by assumption) (by assumption) (by assumption) (by assumption)) 0 rfl (Nat.le_of_eq rfl) (by decide) (by decide) (by decide) (by decide) rfl ?_
  refine Go.nreturn (t := .char) (z' := (cs.getD J 0)) d31_15 rfl (by simp) (own_chr2 (own_ascg hasc hJ)) (by decide) (by decide) ?_
  exact ⟨rfl, rfl⟩

theorem d1_0 : decode method_3_code 0 = .ok (.iload_n 0, 1) := by decide +kernel
theorem d1_1 : decode method_3_code 1 = .ok (.ldc 40, 2) := by decide +kernel
theorem d1_3 : decode method_3_code 3 = .ok (.iand, 1) := by decide +kernel
theorem d1_4 : decode method_3_code 4 = .ok (.ldc 40, 2) := by decide +kernel
theorem d1_6 : decode method_3_code 6 = .ok (.irem, 1) := by decide +kernel
theorem d1_7 : decode method_3_code 7 = .ok (.ireturn, 1) := by decide +kernel

theorem pd1 : parseMethodDescriptor "(I)I" = some ⟨[.int], some .int⟩ := by decide +kernel
theorem pl1 : plainFor (⟨"com/example/medianpoint/medianpoint/AnswerPrinterSiteNumbersPinLaw", "site", "(I)I"⟩ : MethodName) = true := by first | exact plainFor_of_name (by first | (simp [plainName, overriddenIn]; done) | decide +kernel) | decide +kernel

theorem ef_k_site (m : MethodId) (x0 : Int32) : entryFrame m #[(.int x0)] 1 = mkF m 0 #[.val (.int x0)] [] := by first | (simp [entryFrame, mkF, argsToLocals, Value.category]; done) | rfl

set_option maxRecDepth 65536 in
set_option maxHeartbeats 40000000 in
theorem k_site {l : Launch} {Z : State} {a0 : Array Value} (hw : ∀ d ∈ tables_1, d.before a0 Z = true)  (h : Heap) (hz : Z.heap.size ≤ h.size) (x : Int32)     : Go l Z (⟨"com/example/medianpoint/medianpoint/AnswerPrinterSiteNumbersPinLaw", "site", "(I)I"⟩ : MethodName) method_3_code 1 (Option.some Jvm.ClassFile.FieldType.int) ({ frames := 0, cells := 0, slots := 0, locals := 0 } : Room) (QI fun rz h' => rz = (own_site x) ∧ h' = h) 0 0 h 0 #[.val (.int x)] [] := by
  refine Go.iload_n 1 d1_0 rfl rfl ?_
  refine Go.ldc 3 d1_1 (tw4 hw) rfl ?_
  refine Go.iand 4 d1_3 rfl ?_
  refine Go.ldc 6 d1_4 (tw4 hw) rfl ?_
  refine Go.irem 7 d1_6 (by decide) rfl ?_
  refine Go.ireturn d1_7 rfl (by decide) (by decide) ?_
  exact ⟨by rfl, rfl⟩

theorem d30_0 : decode method_7_code 0 = .ok (.iload 4, 2) := by decide +kernel
theorem d30_2 : decode method_7_code 2 = .ok (.iload_n 2, 1) := by decide +kernel
theorem d30_3 : decode method_7_code 3 = .ok (.if_icmp .lt 5, 3) := by decide +kernel
theorem d30_6 : decode method_7_code 6 = .ok (.iconst 1, 1) := by decide +kernel
theorem d30_7 : decode method_7_code 7 = .ok (.ireturn, 1) := by decide +kernel
theorem d30_8 : decode method_7_code 8 = .ok (.aload_n 0, 1) := by decide +kernel
theorem d30_9 : decode method_7_code 9 = .ok (.iload_n 1, 1) := by decide +kernel
theorem d30_10 : decode method_7_code 10 = .ok (.iload_n 2, 1) := by decide +kernel
theorem d30_11 : decode method_7_code 11 = .ok (.iadd, 1) := by decide +kernel
theorem d30_12 : decode method_7_code 12 = .ok (.iconst 1, 1) := by decide +kernel
theorem d30_13 : decode method_7_code 13 = .ok (.isub, 1) := by decide +kernel
theorem d30_14 : decode method_7_code 14 = .ok (.iload 4, 2) := by decide +kernel
theorem d30_16 : decode method_7_code 16 = .ok (.isub, 1) := by decide +kernel
theorem d30_17 : decode method_7_code 17 = .ok (.invokevirtual 41, 3) := by decide +kernel
theorem d30_20 : decode method_7_code 20 = .ok (.bipush 48, 2) := by decide +kernel
theorem d30_22 : decode method_7_code 22 = .ok (.iload_n 3, 1) := by decide +kernel
theorem d30_23 : decode method_7_code 23 = .ok (.iload 5, 2) := by decide +kernel
theorem d30_25 : decode method_7_code 25 = .ok (.idiv, 1) := by decide +kernel
theorem d30_26 : decode method_7_code 26 = .ok (.bipush 10, 2) := by decide +kernel
theorem d30_28 : decode method_7_code 28 = .ok (.irem, 1) := by decide +kernel
theorem d30_29 : decode method_7_code 29 = .ok (.iadd, 1) := by decide +kernel
theorem d30_30 : decode method_7_code 30 = .ok (.i2c, 1) := by decide +kernel
theorem d30_31 : decode method_7_code 31 = .ok (.if_icmp .ne 7, 3) := by decide +kernel
theorem d30_34 : decode method_7_code 34 = .ok (.iconst 1, 1) := by decide +kernel
theorem d30_35 : decode method_7_code 35 = .ok (.goto 4, 3) := by decide +kernel
theorem d30_38 : decode method_7_code 38 = .ok (.iconst 0, 1) := by decide +kernel
theorem d30_39 : decode method_7_code 39 = .ok (.ireturn, 1) := by decide +kernel

theorem pd30 : parseMethodDescriptor "(Ljava/lang/String;IIIII)Z" = some ⟨[(.object "java/lang/String"), .int, .int, .int, .int, .int], some .boolean⟩ := by decide +kernel
theorem pl30 : plainFor (⟨"com/example/medianpoint/medianpoint/AnswerPrinterSiteNumbersPinLaw", "digitOk", "(Ljava/lang/String;IIIII)Z"⟩ : MethodName) = true := by first | exact plainFor_of_name (by first | (simp [plainName, overriddenIn]; done) | decide +kernel) | decide +kernel

theorem ef_k_dk0 (m : MethodId) (x0 : Addr) (x1 : Int32) (x2 : Int32) (x3 : Int32) (x4 : Int32) (x5 : Int32) : entryFrame m #[(.ref x0), (.int x1), (.int x2), (.int x3), (.int x4), (.int x5)] 6 = mkF m 0 #[.val (.ref x0), .val (.int x1), .val (.int x2), .val (.int x3), .val (.int x4), .val (.int x5)] [] := by first | (simp [entryFrame, mkF, argsToLocals, Value.category]; done) | rfl

set_option maxRecDepth 65536 in
set_option maxHeartbeats 40000000 in
theorem k_dk0 {l : Launch} {Z : State} {a0 : Array Value} (hw : ∀ d ∈ tables_1, d.before a0 Z = true) {t : Addr} {cs : List Int32} {cz : Int32} {pre : List Int32} {post : List Int32} (h : Heap) (hz : Z.heap.size ≤ h.size) (s : Addr) (p : Int32) (n : Int32) (v : Int32) (fa0 : Exa Z h s "java/lang/String") (fa1 : Fld Z h s "java/lang/String" "value" "[B" (.ref t)) (fa2 : Fld Z h s "java/lang/String" "coder" "B" (.int (0 : Int32))) (fa3 : Ari Z h t .byte cs) (fa4 : Sta Z h "java/lang/String" "COMPACT_STRINGS" "Z" (.int cz)) (fa5 : Str Z h "jdk/internal/util/Preconditions" "SIOOBE_FORMATTER" "Ljava/util/function/BiFunction;") (hcz : ¬ cz = (0 : Int32)) (hv : 0 < v.toInt) (hcs : cs = pre ++ own_dec v ++ post) (hp : p = pre.length.toInt32) (hl : cs.length ≤ 100) (hasc : own_asc cs) (hn : n = (own_nd v).toInt32)   : Go l Z (⟨"com/example/medianpoint/medianpoint/AnswerPrinterSiteNumbersPinLaw", "digitOk", "(Ljava/lang/String;IIIII)Z"⟩ : MethodName) method_7_code 6 (Option.some Jvm.ClassFile.FieldType.boolean) ({ frames := 4, cells := 0, slots := 0, locals := 90 } : Room) (QI fun rz h' => rz = (1 : Int32) ∧ h' = h) 0 0 h 0 #[.val (.ref s), .val (.int p), .val (.int n), .val (.int v), .val (.int (0 : Int32)), .val (.int (1 : Int32))] [] := by
  refine Go.iload 2 d30_0 rfl rfl ?_
  refine Go.iload_n 3 d30_2 rfl rfl ?_
  refine Go.icmp_lt 8 6 d30_3 (by decide) (by decide) rfl (fun c1 => ?_) (fun c1 => ?_)
  ·
    refine Go.aload_n 9 d30_8 rfl rfl rfl ?_
    refine Go.iload_n 10 d30_9 rfl rfl ?_
    refine Go.iload_n 11 d30_10 rfl rfl ?_
    refine Go.iadd 12 d30_11 rfl ?_
    refine Go.iconst 13 (1) d30_12 (by decide) rfl ?_
    refine Go.isub 14 d30_13 rfl ?_
    refine Go.iload 16 d30_14 rfl rfl ?_
    refine Go.isub 17 d30_16 rfl ?_
    refine Go.callVIp [.int (((p + n) - (1 : Int32)) - (0 : Int32))] [] 20 d30_17 (tw155 hw) (tw156 hw) (tw158 hw) (tw157 hw) (tw26 hw) (tw159 hw) fa0 pl31 (by decide) (lenOf pd31 rfl) rfl (fun m => ef_k_chr m s (((p + n) - (1 : Int32)) - (0 : Int32))) _ (k_chr (J := (pre.length + own_nd v - 1 - 0)) hw h hz s ((((p + n) - (1 : Int32)) - (0 : Int32))) fa0 fa1 fa2 fa3 fa4 fa5 (by assumption) (own_didx hp hn (own_klt (k := 0) hn (by decide) c1) (by decide) (own_dlen hv hcs hl)) (own_dJ hv hcs (own_klt (k := 0) hn (by decide) c1)) (by assumption) (by assumption)) 0 rfl (Nat.le_of_eq rfl) (by decide) (by decide) (by decide) (by decide) rfl ?_
    refine Go.bipush 22 (48) d30_20 (by decide) rfl ?_
    refine Go.iload_n 23 d30_22 rfl rfl ?_
    refine Go.iload 25 d30_23 rfl rfl ?_
    refine Go.idiv 26 d30_25 (by decide) rfl ?_
    refine Go.bipush 28 (10) d30_26 (by decide) rfl ?_
    refine Go.irem 29 d30_28 (by decide) rfl ?_
    refine Go.iadd 30 d30_29 rfl ?_
    refine Go.i2c 31 d30_30 rfl ?_
    refine Go.icmp_ne 38 34 d30_31 (by decide) (by decide) rfl (fun c5 => ?_) (fun c5 => ?_)
    ·
      refine Go.iconst 39 (0) d30_38 (by decide) rfl ?_
      refine Go.nreturn (t := .boolean) (z' := (0 : Int32)) d30_39 rfl (by simp) (by decide) (by decide) (by decide) ?_
      exact absurd (own_digit (k := 0) hv hcs (own_klt (k := 0) hn (by decide) c1) (by decide)) c5
    ·
      refine Go.iconst 35 (1) d30_34 (by decide) rfl ?_
      refine Go.goto 39 d30_35 (by decide) (by decide) ?_
      refine Go.nreturn (t := .boolean) (z' := (1 : Int32)) d30_39 rfl (by simp) (by decide) (by decide) (by decide) ?_
      exact ⟨rfl, rfl⟩
  ·
    refine Go.iconst 7 (1) d30_6 (by decide) rfl ?_
    refine Go.nreturn (t := .boolean) (z' := (1 : Int32)) d30_7 rfl (by simp) (by decide) (by decide) (by decide) ?_
    exact ⟨rfl, rfl⟩

theorem ef_k_dk1 (m : MethodId) (x0 : Addr) (x1 : Int32) (x2 : Int32) (x3 : Int32) (x4 : Int32) (x5 : Int32) : entryFrame m #[(.ref x0), (.int x1), (.int x2), (.int x3), (.int x4), (.int x5)] 6 = mkF m 0 #[.val (.ref x0), .val (.int x1), .val (.int x2), .val (.int x3), .val (.int x4), .val (.int x5)] [] := by first | (simp [entryFrame, mkF, argsToLocals, Value.category]; done) | rfl

set_option maxRecDepth 65536 in
set_option maxHeartbeats 40000000 in
theorem k_dk1 {l : Launch} {Z : State} {a0 : Array Value} (hw : ∀ d ∈ tables_1, d.before a0 Z = true) {t : Addr} {cs : List Int32} {cz : Int32} {pre : List Int32} {post : List Int32} (h : Heap) (hz : Z.heap.size ≤ h.size) (s : Addr) (p : Int32) (n : Int32) (v : Int32) (fa0 : Exa Z h s "java/lang/String") (fa1 : Fld Z h s "java/lang/String" "value" "[B" (.ref t)) (fa2 : Fld Z h s "java/lang/String" "coder" "B" (.int (0 : Int32))) (fa3 : Ari Z h t .byte cs) (fa4 : Sta Z h "java/lang/String" "COMPACT_STRINGS" "Z" (.int cz)) (fa5 : Str Z h "jdk/internal/util/Preconditions" "SIOOBE_FORMATTER" "Ljava/util/function/BiFunction;") (hcz : ¬ cz = (0 : Int32)) (hv : 0 < v.toInt) (hcs : cs = pre ++ own_dec v ++ post) (hp : p = pre.length.toInt32) (hl : cs.length ≤ 100) (hasc : own_asc cs) (hn : n = (own_nd v).toInt32)   : Go l Z (⟨"com/example/medianpoint/medianpoint/AnswerPrinterSiteNumbersPinLaw", "digitOk", "(Ljava/lang/String;IIIII)Z"⟩ : MethodName) method_7_code 6 (Option.some Jvm.ClassFile.FieldType.boolean) ({ frames := 4, cells := 0, slots := 0, locals := 90 } : Room) (QI fun rz h' => rz = (1 : Int32) ∧ h' = h) 0 0 h 0 #[.val (.ref s), .val (.int p), .val (.int n), .val (.int v), .val (.int (1 : Int32)), .val (.int (10 : Int32))] [] := by
  refine Go.iload 2 d30_0 rfl rfl ?_
  refine Go.iload_n 3 d30_2 rfl rfl ?_
  refine Go.icmp_lt 8 6 d30_3 (by decide) (by decide) rfl (fun c1 => ?_) (fun c1 => ?_)
  ·
    refine Go.aload_n 9 d30_8 rfl rfl rfl ?_
    refine Go.iload_n 10 d30_9 rfl rfl ?_
    refine Go.iload_n 11 d30_10 rfl rfl ?_
    refine Go.iadd 12 d30_11 rfl ?_
    refine Go.iconst 13 (1) d30_12 (by decide) rfl ?_
    refine Go.isub 14 d30_13 rfl ?_
    refine Go.iload 16 d30_14 rfl rfl ?_
    refine Go.isub 17 d30_16 rfl ?_
    refine Go.callVIp [.int (((p + n) - (1 : Int32)) - (1 : Int32))] [] 20 d30_17 (tw155 hw) (tw156 hw) (tw158 hw) (tw157 hw) (tw26 hw) (tw159 hw) fa0 pl31 (by decide) (lenOf pd31 rfl) rfl (fun m => ef_k_chr m s (((p + n) - (1 : Int32)) - (1 : Int32))) _ (k_chr (J := (pre.length + own_nd v - 1 - 1)) hw h hz s ((((p + n) - (1 : Int32)) - (1 : Int32))) fa0 fa1 fa2 fa3 fa4 fa5 (by assumption) (own_didx hp hn (own_klt (k := 1) hn (by decide) c1) (by decide) (own_dlen hv hcs hl)) (own_dJ hv hcs (own_klt (k := 1) hn (by decide) c1)) (by assumption) (by assumption)) 0 rfl (Nat.le_of_eq rfl) (by decide) (by decide) (by decide) (by decide) rfl ?_
    refine Go.bipush 22 (48) d30_20 (by decide) rfl ?_
    refine Go.iload_n 23 d30_22 rfl rfl ?_
    refine Go.iload 25 d30_23 rfl rfl ?_
    refine Go.idiv 26 d30_25 (by decide) rfl ?_
    refine Go.bipush 28 (10) d30_26 (by decide) rfl ?_
    refine Go.irem 29 d30_28 (by decide) rfl ?_
    refine Go.iadd 30 d30_29 rfl ?_
    refine Go.i2c 31 d30_30 rfl ?_
    refine Go.icmp_ne 38 34 d30_31 (by decide) (by decide) rfl (fun c5 => ?_) (fun c5 => ?_)
    ·
      refine Go.iconst 39 (0) d30_38 (by decide) rfl ?_
      refine Go.nreturn (t := .boolean) (z' := (0 : Int32)) d30_39 rfl (by simp) (by decide) (by decide) (by decide) ?_
      exact absurd (own_digit (k := 1) hv hcs (own_klt (k := 1) hn (by decide) c1) (by decide)) c5
    ·
      refine Go.iconst 35 (1) d30_34 (by decide) rfl ?_
      refine Go.goto 39 d30_35 (by decide) (by decide) ?_
      refine Go.nreturn (t := .boolean) (z' := (1 : Int32)) d30_39 rfl (by simp) (by decide) (by decide) (by decide) ?_
      exact ⟨rfl, rfl⟩
  ·
    refine Go.iconst 7 (1) d30_6 (by decide) rfl ?_
    refine Go.nreturn (t := .boolean) (z' := (1 : Int32)) d30_7 rfl (by simp) (by decide) (by decide) (by decide) ?_
    exact ⟨rfl, rfl⟩

theorem ef_k_dk2 (m : MethodId) (x0 : Addr) (x1 : Int32) (x2 : Int32) (x3 : Int32) (x4 : Int32) (x5 : Int32) : entryFrame m #[(.ref x0), (.int x1), (.int x2), (.int x3), (.int x4), (.int x5)] 6 = mkF m 0 #[.val (.ref x0), .val (.int x1), .val (.int x2), .val (.int x3), .val (.int x4), .val (.int x5)] [] := by first | (simp [entryFrame, mkF, argsToLocals, Value.category]; done) | rfl

set_option maxRecDepth 65536 in
set_option maxHeartbeats 40000000 in
theorem k_dk2 {l : Launch} {Z : State} {a0 : Array Value} (hw : ∀ d ∈ tables_1, d.before a0 Z = true) {t : Addr} {cs : List Int32} {cz : Int32} {pre : List Int32} {post : List Int32} (h : Heap) (hz : Z.heap.size ≤ h.size) (s : Addr) (p : Int32) (n : Int32) (v : Int32) (fa0 : Exa Z h s "java/lang/String") (fa1 : Fld Z h s "java/lang/String" "value" "[B" (.ref t)) (fa2 : Fld Z h s "java/lang/String" "coder" "B" (.int (0 : Int32))) (fa3 : Ari Z h t .byte cs) (fa4 : Sta Z h "java/lang/String" "COMPACT_STRINGS" "Z" (.int cz)) (fa5 : Str Z h "jdk/internal/util/Preconditions" "SIOOBE_FORMATTER" "Ljava/util/function/BiFunction;") (hcz : ¬ cz = (0 : Int32)) (hv : 0 < v.toInt) (hcs : cs = pre ++ own_dec v ++ post) (hp : p = pre.length.toInt32) (hl : cs.length ≤ 100) (hasc : own_asc cs) (hn : n = (own_nd v).toInt32)   : Go l Z (⟨"com/example/medianpoint/medianpoint/AnswerPrinterSiteNumbersPinLaw", "digitOk", "(Ljava/lang/String;IIIII)Z"⟩ : MethodName) method_7_code 6 (Option.some Jvm.ClassFile.FieldType.boolean) ({ frames := 4, cells := 0, slots := 0, locals := 90 } : Room) (QI fun rz h' => rz = (1 : Int32) ∧ h' = h) 0 0 h 0 #[.val (.ref s), .val (.int p), .val (.int n), .val (.int v), .val (.int (2 : Int32)), .val (.int (100 : Int32))] [] := by
  refine Go.iload 2 d30_0 rfl rfl ?_
  refine Go.iload_n 3 d30_2 rfl rfl ?_
  refine Go.icmp_lt 8 6 d30_3 (by decide) (by decide) rfl (fun c1 => ?_) (fun c1 => ?_)
  ·
    refine Go.aload_n 9 d30_8 rfl rfl rfl ?_
    refine Go.iload_n 10 d30_9 rfl rfl ?_
    refine Go.iload_n 11 d30_10 rfl rfl ?_
    refine Go.iadd 12 d30_11 rfl ?_
    refine Go.iconst 13 (1) d30_12 (by decide) rfl ?_
    refine Go.isub 14 d30_13 rfl ?_
    refine Go.iload 16 d30_14 rfl rfl ?_
    refine Go.isub 17 d30_16 rfl ?_
    refine Go.callVIp [.int (((p + n) - (1 : Int32)) - (2 : Int32))] [] 20 d30_17 (tw155 hw) (tw156 hw) (tw158 hw) (tw157 hw) (tw26 hw) (tw159 hw) fa0 pl31 (by decide) (lenOf pd31 rfl) rfl (fun m => ef_k_chr m s (((p + n) - (1 : Int32)) - (2 : Int32))) _ (k_chr (J := (pre.length + own_nd v - 1 - 2)) hw h hz s ((((p + n) - (1 : Int32)) - (2 : Int32))) fa0 fa1 fa2 fa3 fa4 fa5 (by assumption) (own_didx hp hn (own_klt (k := 2) hn (by decide) c1) (by decide) (own_dlen hv hcs hl)) (own_dJ hv hcs (own_klt (k := 2) hn (by decide) c1)) (by assumption) (by assumption)) 0 rfl (Nat.le_of_eq rfl) (by decide) (by decide) (by decide) (by decide) rfl ?_
    refine Go.bipush 22 (48) d30_20 (by decide) rfl ?_
    refine Go.iload_n 23 d30_22 rfl rfl ?_
    refine Go.iload 25 d30_23 rfl rfl ?_
    refine Go.idiv 26 d30_25 (by decide) rfl ?_
    refine Go.bipush 28 (10) d30_26 (by decide) rfl ?_
    refine Go.irem 29 d30_28 (by decide) rfl ?_
    refine Go.iadd 30 d30_29 rfl ?_
    refine Go.i2c 31 d30_30 rfl ?_
    refine Go.icmp_ne 38 34 d30_31 (by decide) (by decide) rfl (fun c5 => ?_) (fun c5 => ?_)
    ·
      refine Go.iconst 39 (0) d30_38 (by decide) rfl ?_
      refine Go.nreturn (t := .boolean) (z' := (0 : Int32)) d30_39 rfl (by simp) (by decide) (by decide) (by decide) ?_
      exact absurd (own_digit (k := 2) hv hcs (own_klt (k := 2) hn (by decide) c1) (by decide)) c5
    ·
      refine Go.iconst 35 (1) d30_34 (by decide) rfl ?_
      refine Go.goto 39 d30_35 (by decide) (by decide) ?_
      refine Go.nreturn (t := .boolean) (z' := (1 : Int32)) d30_39 rfl (by simp) (by decide) (by decide) (by decide) ?_
      exact ⟨rfl, rfl⟩
  ·
    refine Go.iconst 7 (1) d30_6 (by decide) rfl ?_
    refine Go.nreturn (t := .boolean) (z' := (1 : Int32)) d30_7 rfl (by simp) (by decide) (by decide) (by decide) ?_
    exact ⟨rfl, rfl⟩

theorem ef_k_dk3 (m : MethodId) (x0 : Addr) (x1 : Int32) (x2 : Int32) (x3 : Int32) (x4 : Int32) (x5 : Int32) : entryFrame m #[(.ref x0), (.int x1), (.int x2), (.int x3), (.int x4), (.int x5)] 6 = mkF m 0 #[.val (.ref x0), .val (.int x1), .val (.int x2), .val (.int x3), .val (.int x4), .val (.int x5)] [] := by first | (simp [entryFrame, mkF, argsToLocals, Value.category]; done) | rfl

set_option maxRecDepth 65536 in
set_option maxHeartbeats 40000000 in
theorem k_dk3 {l : Launch} {Z : State} {a0 : Array Value} (hw : ∀ d ∈ tables_1, d.before a0 Z = true) {t : Addr} {cs : List Int32} {cz : Int32} {pre : List Int32} {post : List Int32} (h : Heap) (hz : Z.heap.size ≤ h.size) (s : Addr) (p : Int32) (n : Int32) (v : Int32) (fa0 : Exa Z h s "java/lang/String") (fa1 : Fld Z h s "java/lang/String" "value" "[B" (.ref t)) (fa2 : Fld Z h s "java/lang/String" "coder" "B" (.int (0 : Int32))) (fa3 : Ari Z h t .byte cs) (fa4 : Sta Z h "java/lang/String" "COMPACT_STRINGS" "Z" (.int cz)) (fa5 : Str Z h "jdk/internal/util/Preconditions" "SIOOBE_FORMATTER" "Ljava/util/function/BiFunction;") (hcz : ¬ cz = (0 : Int32)) (hv : 0 < v.toInt) (hcs : cs = pre ++ own_dec v ++ post) (hp : p = pre.length.toInt32) (hl : cs.length ≤ 100) (hasc : own_asc cs) (hn : n = (own_nd v).toInt32)   : Go l Z (⟨"com/example/medianpoint/medianpoint/AnswerPrinterSiteNumbersPinLaw", "digitOk", "(Ljava/lang/String;IIIII)Z"⟩ : MethodName) method_7_code 6 (Option.some Jvm.ClassFile.FieldType.boolean) ({ frames := 4, cells := 0, slots := 0, locals := 90 } : Room) (QI fun rz h' => rz = (1 : Int32) ∧ h' = h) 0 0 h 0 #[.val (.ref s), .val (.int p), .val (.int n), .val (.int v), .val (.int (3 : Int32)), .val (.int (1000 : Int32))] [] := by
  refine Go.iload 2 d30_0 rfl rfl ?_
  refine Go.iload_n 3 d30_2 rfl rfl ?_
  refine Go.icmp_lt 8 6 d30_3 (by decide) (by decide) rfl (fun c1 => ?_) (fun c1 => ?_)
  ·
    refine Go.aload_n 9 d30_8 rfl rfl rfl ?_
    refine Go.iload_n 10 d30_9 rfl rfl ?_
    refine Go.iload_n 11 d30_10 rfl rfl ?_
    refine Go.iadd 12 d30_11 rfl ?_
    refine Go.iconst 13 (1) d30_12 (by decide) rfl ?_
    refine Go.isub 14 d30_13 rfl ?_
    refine Go.iload 16 d30_14 rfl rfl ?_
    refine Go.isub 17 d30_16 rfl ?_
    refine Go.callVIp [.int (((p + n) - (1 : Int32)) - (3 : Int32))] [] 20 d30_17 (tw155 hw) (tw156 hw) (tw158 hw) (tw157 hw) (tw26 hw) (tw159 hw) fa0 pl31 (by decide) (lenOf pd31 rfl) rfl (fun m => ef_k_chr m s (((p + n) - (1 : Int32)) - (3 : Int32))) _ (k_chr (J := (pre.length + own_nd v - 1 - 3)) hw h hz s ((((p + n) - (1 : Int32)) - (3 : Int32))) fa0 fa1 fa2 fa3 fa4 fa5 (by assumption) (own_didx hp hn (own_klt (k := 3) hn (by decide) c1) (by decide) (own_dlen hv hcs hl)) (own_dJ hv hcs (own_klt (k := 3) hn (by decide) c1)) (by assumption) (by assumption)) 0 rfl (Nat.le_of_eq rfl) (by decide) (by decide) (by decide) (by decide) rfl ?_
    refine Go.bipush 22 (48) d30_20 (by decide) rfl ?_
    refine Go.iload_n 23 d30_22 rfl rfl ?_
    refine Go.iload 25 d30_23 rfl rfl ?_
    refine Go.idiv 26 d30_25 (by decide) rfl ?_
    refine Go.bipush 28 (10) d30_26 (by decide) rfl ?_
    refine Go.irem 29 d30_28 (by decide) rfl ?_
    refine Go.iadd 30 d30_29 rfl ?_
    refine Go.i2c 31 d30_30 rfl ?_
    refine Go.icmp_ne 38 34 d30_31 (by decide) (by decide) rfl (fun c5 => ?_) (fun c5 => ?_)
    ·
      refine Go.iconst 39 (0) d30_38 (by decide) rfl ?_
      refine Go.nreturn (t := .boolean) (z' := (0 : Int32)) d30_39 rfl (by simp) (by decide) (by decide) (by decide) ?_
      exact absurd (own_digit (k := 3) hv hcs (own_klt (k := 3) hn (by decide) c1) (by decide)) c5
    ·
      refine Go.iconst 35 (1) d30_34 (by decide) rfl ?_
      refine Go.goto 39 d30_35 (by decide) (by decide) ?_
      refine Go.nreturn (t := .boolean) (z' := (1 : Int32)) d30_39 rfl (by simp) (by decide) (by decide) (by decide) ?_
      exact ⟨rfl, rfl⟩
  ·
    refine Go.iconst 7 (1) d30_6 (by decide) rfl ?_
    refine Go.nreturn (t := .boolean) (z' := (1 : Int32)) d30_7 rfl (by simp) (by decide) (by decide) (by decide) ?_
    exact ⟨rfl, rfl⟩

theorem ef_k_dk4 (m : MethodId) (x0 : Addr) (x1 : Int32) (x2 : Int32) (x3 : Int32) (x4 : Int32) (x5 : Int32) : entryFrame m #[(.ref x0), (.int x1), (.int x2), (.int x3), (.int x4), (.int x5)] 6 = mkF m 0 #[.val (.ref x0), .val (.int x1), .val (.int x2), .val (.int x3), .val (.int x4), .val (.int x5)] [] := by first | (simp [entryFrame, mkF, argsToLocals, Value.category]; done) | rfl

set_option maxRecDepth 65536 in
set_option maxHeartbeats 40000000 in
theorem k_dk4 {l : Launch} {Z : State} {a0 : Array Value} (hw : ∀ d ∈ tables_1, d.before a0 Z = true) {t : Addr} {cs : List Int32} {cz : Int32} {pre : List Int32} {post : List Int32} (h : Heap) (hz : Z.heap.size ≤ h.size) (s : Addr) (p : Int32) (n : Int32) (v : Int32) (fa0 : Exa Z h s "java/lang/String") (fa1 : Fld Z h s "java/lang/String" "value" "[B" (.ref t)) (fa2 : Fld Z h s "java/lang/String" "coder" "B" (.int (0 : Int32))) (fa3 : Ari Z h t .byte cs) (fa4 : Sta Z h "java/lang/String" "COMPACT_STRINGS" "Z" (.int cz)) (fa5 : Str Z h "jdk/internal/util/Preconditions" "SIOOBE_FORMATTER" "Ljava/util/function/BiFunction;") (hcz : ¬ cz = (0 : Int32)) (hv : 0 < v.toInt) (hcs : cs = pre ++ own_dec v ++ post) (hp : p = pre.length.toInt32) (hl : cs.length ≤ 100) (hasc : own_asc cs) (hn : n = (own_nd v).toInt32)   : Go l Z (⟨"com/example/medianpoint/medianpoint/AnswerPrinterSiteNumbersPinLaw", "digitOk", "(Ljava/lang/String;IIIII)Z"⟩ : MethodName) method_7_code 6 (Option.some Jvm.ClassFile.FieldType.boolean) ({ frames := 4, cells := 0, slots := 0, locals := 90 } : Room) (QI fun rz h' => rz = (1 : Int32) ∧ h' = h) 0 0 h 0 #[.val (.ref s), .val (.int p), .val (.int n), .val (.int v), .val (.int (4 : Int32)), .val (.int (10000 : Int32))] [] := by
  refine Go.iload 2 d30_0 rfl rfl ?_
  refine Go.iload_n 3 d30_2 rfl rfl ?_
  refine Go.icmp_lt 8 6 d30_3 (by decide) (by decide) rfl (fun c1 => ?_) (fun c1 => ?_)
  ·
    refine Go.aload_n 9 d30_8 rfl rfl rfl ?_
    refine Go.iload_n 10 d30_9 rfl rfl ?_
    refine Go.iload_n 11 d30_10 rfl rfl ?_
    refine Go.iadd 12 d30_11 rfl ?_
    refine Go.iconst 13 (1) d30_12 (by decide) rfl ?_
    refine Go.isub 14 d30_13 rfl ?_
    refine Go.iload 16 d30_14 rfl rfl ?_
    refine Go.isub 17 d30_16 rfl ?_
    refine Go.callVIp [.int (((p + n) - (1 : Int32)) - (4 : Int32))] [] 20 d30_17 (tw155 hw) (tw156 hw) (tw158 hw) (tw157 hw) (tw26 hw) (tw159 hw) fa0 pl31 (by decide) (lenOf pd31 rfl) rfl (fun m => ef_k_chr m s (((p + n) - (1 : Int32)) - (4 : Int32))) _ (k_chr (J := (pre.length + own_nd v - 1 - 4)) hw h hz s ((((p + n) - (1 : Int32)) - (4 : Int32))) fa0 fa1 fa2 fa3 fa4 fa5 (by assumption) (own_didx hp hn (own_klt (k := 4) hn (by decide) c1) (by decide) (own_dlen hv hcs hl)) (own_dJ hv hcs (own_klt (k := 4) hn (by decide) c1)) (by assumption) (by assumption)) 0 rfl (Nat.le_of_eq rfl) (by decide) (by decide) (by decide) (by decide) rfl ?_
    refine Go.bipush 22 (48) d30_20 (by decide) rfl ?_
    refine Go.iload_n 23 d30_22 rfl rfl ?_
    refine Go.iload 25 d30_23 rfl rfl ?_
    refine Go.idiv 26 d30_25 (by decide) rfl ?_
    refine Go.bipush 28 (10) d30_26 (by decide) rfl ?_
    refine Go.irem 29 d30_28 (by decide) rfl ?_
    refine Go.iadd 30 d30_29 rfl ?_
    refine Go.i2c 31 d30_30 rfl ?_
    refine Go.icmp_ne 38 34 d30_31 (by decide) (by decide) rfl (fun c5 => ?_) (fun c5 => ?_)
    ·
      refine Go.iconst 39 (0) d30_38 (by decide) rfl ?_
      refine Go.nreturn (t := .boolean) (z' := (0 : Int32)) d30_39 rfl (by simp) (by decide) (by decide) (by decide) ?_
      exact absurd (own_digit (k := 4) hv hcs (own_klt (k := 4) hn (by decide) c1) (by decide)) c5
    ·
      refine Go.iconst 35 (1) d30_34 (by decide) rfl ?_
      refine Go.goto 39 d30_35 (by decide) (by decide) ?_
      refine Go.nreturn (t := .boolean) (z' := (1 : Int32)) d30_39 rfl (by simp) (by decide) (by decide) (by decide) ?_
      exact ⟨rfl, rfl⟩
  ·
    refine Go.iconst 7 (1) d30_6 (by decide) rfl ?_
    refine Go.nreturn (t := .boolean) (z' := (1 : Int32)) d30_7 rfl (by simp) (by decide) (by decide) (by decide) ?_
    exact ⟨rfl, rfl⟩

theorem ef_k_dk5 (m : MethodId) (x0 : Addr) (x1 : Int32) (x2 : Int32) (x3 : Int32) (x4 : Int32) (x5 : Int32) : entryFrame m #[(.ref x0), (.int x1), (.int x2), (.int x3), (.int x4), (.int x5)] 6 = mkF m 0 #[.val (.ref x0), .val (.int x1), .val (.int x2), .val (.int x3), .val (.int x4), .val (.int x5)] [] := by first | (simp [entryFrame, mkF, argsToLocals, Value.category]; done) | rfl

set_option maxRecDepth 65536 in
set_option maxHeartbeats 40000000 in
theorem k_dk5 {l : Launch} {Z : State} {a0 : Array Value} (hw : ∀ d ∈ tables_1, d.before a0 Z = true) {t : Addr} {cs : List Int32} {cz : Int32} {pre : List Int32} {post : List Int32} (h : Heap) (hz : Z.heap.size ≤ h.size) (s : Addr) (p : Int32) (n : Int32) (v : Int32) (fa0 : Exa Z h s "java/lang/String") (fa1 : Fld Z h s "java/lang/String" "value" "[B" (.ref t)) (fa2 : Fld Z h s "java/lang/String" "coder" "B" (.int (0 : Int32))) (fa3 : Ari Z h t .byte cs) (fa4 : Sta Z h "java/lang/String" "COMPACT_STRINGS" "Z" (.int cz)) (fa5 : Str Z h "jdk/internal/util/Preconditions" "SIOOBE_FORMATTER" "Ljava/util/function/BiFunction;") (hcz : ¬ cz = (0 : Int32)) (hv : 0 < v.toInt) (hcs : cs = pre ++ own_dec v ++ post) (hp : p = pre.length.toInt32) (hl : cs.length ≤ 100) (hasc : own_asc cs) (hn : n = (own_nd v).toInt32)   : Go l Z (⟨"com/example/medianpoint/medianpoint/AnswerPrinterSiteNumbersPinLaw", "digitOk", "(Ljava/lang/String;IIIII)Z"⟩ : MethodName) method_7_code 6 (Option.some Jvm.ClassFile.FieldType.boolean) ({ frames := 4, cells := 0, slots := 0, locals := 90 } : Room) (QI fun rz h' => rz = (1 : Int32) ∧ h' = h) 0 0 h 0 #[.val (.ref s), .val (.int p), .val (.int n), .val (.int v), .val (.int (5 : Int32)), .val (.int (100000 : Int32))] [] := by
  refine Go.iload 2 d30_0 rfl rfl ?_
  refine Go.iload_n 3 d30_2 rfl rfl ?_
  refine Go.icmp_lt 8 6 d30_3 (by decide) (by decide) rfl (fun c1 => ?_) (fun c1 => ?_)
  ·
    refine Go.aload_n 9 d30_8 rfl rfl rfl ?_
    refine Go.iload_n 10 d30_9 rfl rfl ?_
    refine Go.iload_n 11 d30_10 rfl rfl ?_
    refine Go.iadd 12 d30_11 rfl ?_
    refine Go.iconst 13 (1) d30_12 (by decide) rfl ?_
    refine Go.isub 14 d30_13 rfl ?_
    refine Go.iload 16 d30_14 rfl rfl ?_
    refine Go.isub 17 d30_16 rfl ?_
    refine Go.callVIp [.int (((p + n) - (1 : Int32)) - (5 : Int32))] [] 20 d30_17 (tw155 hw) (tw156 hw) (tw158 hw) (tw157 hw) (tw26 hw) (tw159 hw) fa0 pl31 (by decide) (lenOf pd31 rfl) rfl (fun m => ef_k_chr m s (((p + n) - (1 : Int32)) - (5 : Int32))) _ (k_chr (J := (pre.length + own_nd v - 1 - 5)) hw h hz s ((((p + n) - (1 : Int32)) - (5 : Int32))) fa0 fa1 fa2 fa3 fa4 fa5 (by assumption) (own_didx hp hn (own_klt (k := 5) hn (by decide) c1) (by decide) (own_dlen hv hcs hl)) (own_dJ hv hcs (own_klt (k := 5) hn (by decide) c1)) (by assumption) (by assumption)) 0 rfl (Nat.le_of_eq rfl) (by decide) (by decide) (by decide) (by decide) rfl ?_
    refine Go.bipush 22 (48) d30_20 (by decide) rfl ?_
    refine Go.iload_n 23 d30_22 rfl rfl ?_
    refine Go.iload 25 d30_23 rfl rfl ?_
    refine Go.idiv 26 d30_25 (by decide) rfl ?_
    refine Go.bipush 28 (10) d30_26 (by decide) rfl ?_
    refine Go.irem 29 d30_28 (by decide) rfl ?_
    refine Go.iadd 30 d30_29 rfl ?_
    refine Go.i2c 31 d30_30 rfl ?_
    refine Go.icmp_ne 38 34 d30_31 (by decide) (by decide) rfl (fun c5 => ?_) (fun c5 => ?_)
    ·
      refine Go.iconst 39 (0) d30_38 (by decide) rfl ?_
      refine Go.nreturn (t := .boolean) (z' := (0 : Int32)) d30_39 rfl (by simp) (by decide) (by decide) (by decide) ?_
      exact absurd (own_digit (k := 5) hv hcs (own_klt (k := 5) hn (by decide) c1) (by decide)) c5
    ·
      refine Go.iconst 35 (1) d30_34 (by decide) rfl ?_
      refine Go.goto 39 d30_35 (by decide) (by decide) ?_
      refine Go.nreturn (t := .boolean) (z' := (1 : Int32)) d30_39 rfl (by simp) (by decide) (by decide) (by decide) ?_
      exact ⟨rfl, rfl⟩
  ·
    refine Go.iconst 7 (1) d30_6 (by decide) rfl ?_
    refine Go.nreturn (t := .boolean) (z' := (1 : Int32)) d30_7 rfl (by simp) (by decide) (by decide) (by decide) ?_
    exact ⟨rfl, rfl⟩

theorem ef_k_dk6 (m : MethodId) (x0 : Addr) (x1 : Int32) (x2 : Int32) (x3 : Int32) (x4 : Int32) (x5 : Int32) : entryFrame m #[(.ref x0), (.int x1), (.int x2), (.int x3), (.int x4), (.int x5)] 6 = mkF m 0 #[.val (.ref x0), .val (.int x1), .val (.int x2), .val (.int x3), .val (.int x4), .val (.int x5)] [] := by first | (simp [entryFrame, mkF, argsToLocals, Value.category]; done) | rfl

set_option maxRecDepth 65536 in
set_option maxHeartbeats 40000000 in
theorem k_dk6 {l : Launch} {Z : State} {a0 : Array Value} (hw : ∀ d ∈ tables_1, d.before a0 Z = true) {t : Addr} {cs : List Int32} {cz : Int32} {pre : List Int32} {post : List Int32} (h : Heap) (hz : Z.heap.size ≤ h.size) (s : Addr) (p : Int32) (n : Int32) (v : Int32) (fa0 : Exa Z h s "java/lang/String") (fa1 : Fld Z h s "java/lang/String" "value" "[B" (.ref t)) (fa2 : Fld Z h s "java/lang/String" "coder" "B" (.int (0 : Int32))) (fa3 : Ari Z h t .byte cs) (fa4 : Sta Z h "java/lang/String" "COMPACT_STRINGS" "Z" (.int cz)) (fa5 : Str Z h "jdk/internal/util/Preconditions" "SIOOBE_FORMATTER" "Ljava/util/function/BiFunction;") (hcz : ¬ cz = (0 : Int32)) (hv : 0 < v.toInt) (hcs : cs = pre ++ own_dec v ++ post) (hp : p = pre.length.toInt32) (hl : cs.length ≤ 100) (hasc : own_asc cs) (hn : n = (own_nd v).toInt32)   : Go l Z (⟨"com/example/medianpoint/medianpoint/AnswerPrinterSiteNumbersPinLaw", "digitOk", "(Ljava/lang/String;IIIII)Z"⟩ : MethodName) method_7_code 6 (Option.some Jvm.ClassFile.FieldType.boolean) ({ frames := 4, cells := 0, slots := 0, locals := 90 } : Room) (QI fun rz h' => rz = (1 : Int32) ∧ h' = h) 0 0 h 0 #[.val (.ref s), .val (.int p), .val (.int n), .val (.int v), .val (.int (6 : Int32)), .val (.int (1000000 : Int32))] [] := by
  refine Go.iload 2 d30_0 rfl rfl ?_
  refine Go.iload_n 3 d30_2 rfl rfl ?_
  refine Go.icmp_lt 8 6 d30_3 (by decide) (by decide) rfl (fun c1 => ?_) (fun c1 => ?_)
  ·
    refine Go.aload_n 9 d30_8 rfl rfl rfl ?_
    refine Go.iload_n 10 d30_9 rfl rfl ?_
    refine Go.iload_n 11 d30_10 rfl rfl ?_
    refine Go.iadd 12 d30_11 rfl ?_
    refine Go.iconst 13 (1) d30_12 (by decide) rfl ?_
    refine Go.isub 14 d30_13 rfl ?_
    refine Go.iload 16 d30_14 rfl rfl ?_
    refine Go.isub 17 d30_16 rfl ?_
    refine Go.callVIp [.int (((p + n) - (1 : Int32)) - (6 : Int32))] [] 20 d30_17 (tw155 hw) (tw156 hw) (tw158 hw) (tw157 hw) (tw26 hw) (tw159 hw) fa0 pl31 (by decide) (lenOf pd31 rfl) rfl (fun m => ef_k_chr m s (((p + n) - (1 : Int32)) - (6 : Int32))) _ (k_chr (J := (pre.length + own_nd v - 1 - 6)) hw h hz s ((((p + n) - (1 : Int32)) - (6 : Int32))) fa0 fa1 fa2 fa3 fa4 fa5 (by assumption) (own_didx hp hn (own_klt (k := 6) hn (by decide) c1) (by decide) (own_dlen hv hcs hl)) (own_dJ hv hcs (own_klt (k := 6) hn (by decide) c1)) (by assumption) (by assumption)) 0 rfl (Nat.le_of_eq rfl) (by decide) (by decide) (by decide) (by decide) rfl ?_
    refine Go.bipush 22 (48) d30_20 (by decide) rfl ?_
    refine Go.iload_n 23 d30_22 rfl rfl ?_
    refine Go.iload 25 d30_23 rfl rfl ?_
    refine Go.idiv 26 d30_25 (by decide) rfl ?_
    refine Go.bipush 28 (10) d30_26 (by decide) rfl ?_
    refine Go.irem 29 d30_28 (by decide) rfl ?_
    refine Go.iadd 30 d30_29 rfl ?_
    refine Go.i2c 31 d30_30 rfl ?_
    refine Go.icmp_ne 38 34 d30_31 (by decide) (by decide) rfl (fun c5 => ?_) (fun c5 => ?_)
    ·
      refine Go.iconst 39 (0) d30_38 (by decide) rfl ?_
      refine Go.nreturn (t := .boolean) (z' := (0 : Int32)) d30_39 rfl (by simp) (by decide) (by decide) (by decide) ?_
      exact absurd (own_digit (k := 6) hv hcs (own_klt (k := 6) hn (by decide) c1) (by decide)) c5
    ·
      refine Go.iconst 35 (1) d30_34 (by decide) rfl ?_
      refine Go.goto 39 d30_35 (by decide) (by decide) ?_
      refine Go.nreturn (t := .boolean) (z' := (1 : Int32)) d30_39 rfl (by simp) (by decide) (by decide) (by decide) ?_
      exact ⟨rfl, rfl⟩
  ·
    refine Go.iconst 7 (1) d30_6 (by decide) rfl ?_
    refine Go.nreturn (t := .boolean) (z' := (1 : Int32)) d30_7 rfl (by simp) (by decide) (by decide) (by decide) ?_
    exact ⟨rfl, rfl⟩

theorem ef_k_dk7 (m : MethodId) (x0 : Addr) (x1 : Int32) (x2 : Int32) (x3 : Int32) (x4 : Int32) (x5 : Int32) : entryFrame m #[(.ref x0), (.int x1), (.int x2), (.int x3), (.int x4), (.int x5)] 6 = mkF m 0 #[.val (.ref x0), .val (.int x1), .val (.int x2), .val (.int x3), .val (.int x4), .val (.int x5)] [] := by first | (simp [entryFrame, mkF, argsToLocals, Value.category]; done) | rfl

set_option maxRecDepth 65536 in
set_option maxHeartbeats 40000000 in
theorem k_dk7 {l : Launch} {Z : State} {a0 : Array Value} (hw : ∀ d ∈ tables_1, d.before a0 Z = true) {t : Addr} {cs : List Int32} {cz : Int32} {pre : List Int32} {post : List Int32} (h : Heap) (hz : Z.heap.size ≤ h.size) (s : Addr) (p : Int32) (n : Int32) (v : Int32) (fa0 : Exa Z h s "java/lang/String") (fa1 : Fld Z h s "java/lang/String" "value" "[B" (.ref t)) (fa2 : Fld Z h s "java/lang/String" "coder" "B" (.int (0 : Int32))) (fa3 : Ari Z h t .byte cs) (fa4 : Sta Z h "java/lang/String" "COMPACT_STRINGS" "Z" (.int cz)) (fa5 : Str Z h "jdk/internal/util/Preconditions" "SIOOBE_FORMATTER" "Ljava/util/function/BiFunction;") (hcz : ¬ cz = (0 : Int32)) (hv : 0 < v.toInt) (hcs : cs = pre ++ own_dec v ++ post) (hp : p = pre.length.toInt32) (hl : cs.length ≤ 100) (hasc : own_asc cs) (hn : n = (own_nd v).toInt32)   : Go l Z (⟨"com/example/medianpoint/medianpoint/AnswerPrinterSiteNumbersPinLaw", "digitOk", "(Ljava/lang/String;IIIII)Z"⟩ : MethodName) method_7_code 6 (Option.some Jvm.ClassFile.FieldType.boolean) ({ frames := 4, cells := 0, slots := 0, locals := 90 } : Room) (QI fun rz h' => rz = (1 : Int32) ∧ h' = h) 0 0 h 0 #[.val (.ref s), .val (.int p), .val (.int n), .val (.int v), .val (.int (7 : Int32)), .val (.int (10000000 : Int32))] [] := by
  refine Go.iload 2 d30_0 rfl rfl ?_
  refine Go.iload_n 3 d30_2 rfl rfl ?_
  refine Go.icmp_lt 8 6 d30_3 (by decide) (by decide) rfl (fun c1 => ?_) (fun c1 => ?_)
  ·
    refine Go.aload_n 9 d30_8 rfl rfl rfl ?_
    refine Go.iload_n 10 d30_9 rfl rfl ?_
    refine Go.iload_n 11 d30_10 rfl rfl ?_
    refine Go.iadd 12 d30_11 rfl ?_
    refine Go.iconst 13 (1) d30_12 (by decide) rfl ?_
    refine Go.isub 14 d30_13 rfl ?_
    refine Go.iload 16 d30_14 rfl rfl ?_
    refine Go.isub 17 d30_16 rfl ?_
    refine Go.callVIp [.int (((p + n) - (1 : Int32)) - (7 : Int32))] [] 20 d30_17 (tw155 hw) (tw156 hw) (tw158 hw) (tw157 hw) (tw26 hw) (tw159 hw) fa0 pl31 (by decide) (lenOf pd31 rfl) rfl (fun m => ef_k_chr m s (((p + n) - (1 : Int32)) - (7 : Int32))) _ (k_chr (J := (pre.length + own_nd v - 1 - 7)) hw h hz s ((((p + n) - (1 : Int32)) - (7 : Int32))) fa0 fa1 fa2 fa3 fa4 fa5 (by assumption) (own_didx hp hn (own_klt (k := 7) hn (by decide) c1) (by decide) (own_dlen hv hcs hl)) (own_dJ hv hcs (own_klt (k := 7) hn (by decide) c1)) (by assumption) (by assumption)) 0 rfl (Nat.le_of_eq rfl) (by decide) (by decide) (by decide) (by decide) rfl ?_
    refine Go.bipush 22 (48) d30_20 (by decide) rfl ?_
    refine Go.iload_n 23 d30_22 rfl rfl ?_
    refine Go.iload 25 d30_23 rfl rfl ?_
    refine Go.idiv 26 d30_25 (by decide) rfl ?_
    refine Go.bipush 28 (10) d30_26 (by decide) rfl ?_
    refine Go.irem 29 d30_28 (by decide) rfl ?_
    refine Go.iadd 30 d30_29 rfl ?_
    refine Go.i2c 31 d30_30 rfl ?_
    refine Go.icmp_ne 38 34 d30_31 (by decide) (by decide) rfl (fun c5 => ?_) (fun c5 => ?_)
    ·
      refine Go.iconst 39 (0) d30_38 (by decide) rfl ?_
      refine Go.nreturn (t := .boolean) (z' := (0 : Int32)) d30_39 rfl (by simp) (by decide) (by decide) (by decide) ?_
      exact absurd (own_digit (k := 7) hv hcs (own_klt (k := 7) hn (by decide) c1) (by decide)) c5
    ·
      refine Go.iconst 35 (1) d30_34 (by decide) rfl ?_
      refine Go.goto 39 d30_35 (by decide) (by decide) ?_
      refine Go.nreturn (t := .boolean) (z' := (1 : Int32)) d30_39 rfl (by simp) (by decide) (by decide) (by decide) ?_
      exact ⟨rfl, rfl⟩
  ·
    refine Go.iconst 7 (1) d30_6 (by decide) rfl ?_
    refine Go.nreturn (t := .boolean) (z' := (1 : Int32)) d30_7 rfl (by simp) (by decide) (by decide) (by decide) ?_
    exact ⟨rfl, rfl⟩

theorem ef_k_dk8 (m : MethodId) (x0 : Addr) (x1 : Int32) (x2 : Int32) (x3 : Int32) (x4 : Int32) (x5 : Int32) : entryFrame m #[(.ref x0), (.int x1), (.int x2), (.int x3), (.int x4), (.int x5)] 6 = mkF m 0 #[.val (.ref x0), .val (.int x1), .val (.int x2), .val (.int x3), .val (.int x4), .val (.int x5)] [] := by first | (simp [entryFrame, mkF, argsToLocals, Value.category]; done) | rfl

set_option maxRecDepth 65536 in
set_option maxHeartbeats 40000000 in
theorem k_dk8 {l : Launch} {Z : State} {a0 : Array Value} (hw : ∀ d ∈ tables_1, d.before a0 Z = true) {t : Addr} {cs : List Int32} {cz : Int32} {pre : List Int32} {post : List Int32} (h : Heap) (hz : Z.heap.size ≤ h.size) (s : Addr) (p : Int32) (n : Int32) (v : Int32) (fa0 : Exa Z h s "java/lang/String") (fa1 : Fld Z h s "java/lang/String" "value" "[B" (.ref t)) (fa2 : Fld Z h s "java/lang/String" "coder" "B" (.int (0 : Int32))) (fa3 : Ari Z h t .byte cs) (fa4 : Sta Z h "java/lang/String" "COMPACT_STRINGS" "Z" (.int cz)) (fa5 : Str Z h "jdk/internal/util/Preconditions" "SIOOBE_FORMATTER" "Ljava/util/function/BiFunction;") (hcz : ¬ cz = (0 : Int32)) (hv : 0 < v.toInt) (hcs : cs = pre ++ own_dec v ++ post) (hp : p = pre.length.toInt32) (hl : cs.length ≤ 100) (hasc : own_asc cs) (hn : n = (own_nd v).toInt32)   : Go l Z (⟨"com/example/medianpoint/medianpoint/AnswerPrinterSiteNumbersPinLaw", "digitOk", "(Ljava/lang/String;IIIII)Z"⟩ : MethodName) method_7_code 6 (Option.some Jvm.ClassFile.FieldType.boolean) ({ frames := 4, cells := 0, slots := 0, locals := 90 } : Room) (QI fun rz h' => rz = (1 : Int32) ∧ h' = h) 0 0 h 0 #[.val (.ref s), .val (.int p), .val (.int n), .val (.int v), .val (.int (8 : Int32)), .val (.int (100000000 : Int32))] [] := by
  refine Go.iload 2 d30_0 rfl rfl ?_
  refine Go.iload_n 3 d30_2 rfl rfl ?_
  refine Go.icmp_lt 8 6 d30_3 (by decide) (by decide) rfl (fun c1 => ?_) (fun c1 => ?_)
  ·
    refine Go.aload_n 9 d30_8 rfl rfl rfl ?_
    refine Go.iload_n 10 d30_9 rfl rfl ?_
    refine Go.iload_n 11 d30_10 rfl rfl ?_
    refine Go.iadd 12 d30_11 rfl ?_
    refine Go.iconst 13 (1) d30_12 (by decide) rfl ?_
    refine Go.isub 14 d30_13 rfl ?_
    refine Go.iload 16 d30_14 rfl rfl ?_
    refine Go.isub 17 d30_16 rfl ?_
    refine Go.callVIp [.int (((p + n) - (1 : Int32)) - (8 : Int32))] [] 20 d30_17 (tw155 hw) (tw156 hw) (tw158 hw) (tw157 hw) (tw26 hw) (tw159 hw) fa0 pl31 (by decide) (lenOf pd31 rfl) rfl (fun m => ef_k_chr m s (((p + n) - (1 : Int32)) - (8 : Int32))) _ (k_chr (J := (pre.length + own_nd v - 1 - 8)) hw h hz s ((((p + n) - (1 : Int32)) - (8 : Int32))) fa0 fa1 fa2 fa3 fa4 fa5 (by assumption) (own_didx hp hn (own_klt (k := 8) hn (by decide) c1) (by decide) (own_dlen hv hcs hl)) (own_dJ hv hcs (own_klt (k := 8) hn (by decide) c1)) (by assumption) (by assumption)) 0 rfl (Nat.le_of_eq rfl) (by decide) (by decide) (by decide) (by decide) rfl ?_
    refine Go.bipush 22 (48) d30_20 (by decide) rfl ?_
    refine Go.iload_n 23 d30_22 rfl rfl ?_
    refine Go.iload 25 d30_23 rfl rfl ?_
    refine Go.idiv 26 d30_25 (by decide) rfl ?_
    refine Go.bipush 28 (10) d30_26 (by decide) rfl ?_
    refine Go.irem 29 d30_28 (by decide) rfl ?_
    refine Go.iadd 30 d30_29 rfl ?_
    refine Go.i2c 31 d30_30 rfl ?_
    refine Go.icmp_ne 38 34 d30_31 (by decide) (by decide) rfl (fun c5 => ?_) (fun c5 => ?_)
    ·
      refine Go.iconst 39 (0) d30_38 (by decide) rfl ?_
      refine Go.nreturn (t := .boolean) (z' := (0 : Int32)) d30_39 rfl (by simp) (by decide) (by decide) (by decide) ?_
      exact absurd (own_digit (k := 8) hv hcs (own_klt (k := 8) hn (by decide) c1) (by decide)) c5
    ·
      refine Go.iconst 35 (1) d30_34 (by decide) rfl ?_
      refine Go.goto 39 d30_35 (by decide) (by decide) ?_
      refine Go.nreturn (t := .boolean) (z' := (1 : Int32)) d30_39 rfl (by simp) (by decide) (by decide) (by decide) ?_
      exact ⟨rfl, rfl⟩
  ·
    refine Go.iconst 7 (1) d30_6 (by decide) rfl ?_
    refine Go.nreturn (t := .boolean) (z' := (1 : Int32)) d30_7 rfl (by simp) (by decide) (by decide) (by decide) ?_
    exact ⟨rfl, rfl⟩

theorem ef_k_dk9 (m : MethodId) (x0 : Addr) (x1 : Int32) (x2 : Int32) (x3 : Int32) (x4 : Int32) (x5 : Int32) : entryFrame m #[(.ref x0), (.int x1), (.int x2), (.int x3), (.int x4), (.int x5)] 6 = mkF m 0 #[.val (.ref x0), .val (.int x1), .val (.int x2), .val (.int x3), .val (.int x4), .val (.int x5)] [] := by first | (simp [entryFrame, mkF, argsToLocals, Value.category]; done) | rfl

set_option maxRecDepth 65536 in
set_option maxHeartbeats 40000000 in
theorem k_dk9 {l : Launch} {Z : State} {a0 : Array Value} (hw : ∀ d ∈ tables_1, d.before a0 Z = true) {t : Addr} {cs : List Int32} {cz : Int32} {pre : List Int32} {post : List Int32} (h : Heap) (hz : Z.heap.size ≤ h.size) (s : Addr) (p : Int32) (n : Int32) (v : Int32) (fa0 : Exa Z h s "java/lang/String") (fa1 : Fld Z h s "java/lang/String" "value" "[B" (.ref t)) (fa2 : Fld Z h s "java/lang/String" "coder" "B" (.int (0 : Int32))) (fa3 : Ari Z h t .byte cs) (fa4 : Sta Z h "java/lang/String" "COMPACT_STRINGS" "Z" (.int cz)) (fa5 : Str Z h "jdk/internal/util/Preconditions" "SIOOBE_FORMATTER" "Ljava/util/function/BiFunction;") (hcz : ¬ cz = (0 : Int32)) (hv : 0 < v.toInt) (hcs : cs = pre ++ own_dec v ++ post) (hp : p = pre.length.toInt32) (hl : cs.length ≤ 100) (hasc : own_asc cs) (hn : n = (own_nd v).toInt32)   : Go l Z (⟨"com/example/medianpoint/medianpoint/AnswerPrinterSiteNumbersPinLaw", "digitOk", "(Ljava/lang/String;IIIII)Z"⟩ : MethodName) method_7_code 6 (Option.some Jvm.ClassFile.FieldType.boolean) ({ frames := 4, cells := 0, slots := 0, locals := 90 } : Room) (QI fun rz h' => rz = (1 : Int32) ∧ h' = h) 0 0 h 0 #[.val (.ref s), .val (.int p), .val (.int n), .val (.int v), .val (.int (9 : Int32)), .val (.int (1000000000 : Int32))] [] := by
  refine Go.iload 2 d30_0 rfl rfl ?_
  refine Go.iload_n 3 d30_2 rfl rfl ?_
  refine Go.icmp_lt 8 6 d30_3 (by decide) (by decide) rfl (fun c1 => ?_) (fun c1 => ?_)
  ·
    refine Go.aload_n 9 d30_8 rfl rfl rfl ?_
    refine Go.iload_n 10 d30_9 rfl rfl ?_
    refine Go.iload_n 11 d30_10 rfl rfl ?_
    refine Go.iadd 12 d30_11 rfl ?_
    refine Go.iconst 13 (1) d30_12 (by decide) rfl ?_
    refine Go.isub 14 d30_13 rfl ?_
    refine Go.iload 16 d30_14 rfl rfl ?_
    refine Go.isub 17 d30_16 rfl ?_
    refine Go.callVIp [.int (((p + n) - (1 : Int32)) - (9 : Int32))] [] 20 d30_17 (tw155 hw) (tw156 hw) (tw158 hw) (tw157 hw) (tw26 hw) (tw159 hw) fa0 pl31 (by decide) (lenOf pd31 rfl) rfl (fun m => ef_k_chr m s (((p + n) - (1 : Int32)) - (9 : Int32))) _ (k_chr (J := (pre.length + own_nd v - 1 - 9)) hw h hz s ((((p + n) - (1 : Int32)) - (9 : Int32))) fa0 fa1 fa2 fa3 fa4 fa5 (by assumption) (own_didx hp hn (own_klt (k := 9) hn (by decide) c1) (by decide) (own_dlen hv hcs hl)) (own_dJ hv hcs (own_klt (k := 9) hn (by decide) c1)) (by assumption) (by assumption)) 0 rfl (Nat.le_of_eq rfl) (by decide) (by decide) (by decide) (by decide) rfl ?_
    refine Go.bipush 22 (48) d30_20 (by decide) rfl ?_
    refine Go.iload_n 23 d30_22 rfl rfl ?_
    refine Go.iload 25 d30_23 rfl rfl ?_
    refine Go.idiv 26 d30_25 (by decide) rfl ?_
    refine Go.bipush 28 (10) d30_26 (by decide) rfl ?_
    refine Go.irem 29 d30_28 (by decide) rfl ?_
    refine Go.iadd 30 d30_29 rfl ?_
    refine Go.i2c 31 d30_30 rfl ?_
    refine Go.icmp_ne 38 34 d30_31 (by decide) (by decide) rfl (fun c5 => ?_) (fun c5 => ?_)
    ·
      refine Go.iconst 39 (0) d30_38 (by decide) rfl ?_
      refine Go.nreturn (t := .boolean) (z' := (0 : Int32)) d30_39 rfl (by simp) (by decide) (by decide) (by decide) ?_
      exact absurd (own_digit (k := 9) hv hcs (own_klt (k := 9) hn (by decide) c1) (by decide)) c5
    ·
      refine Go.iconst 35 (1) d30_34 (by decide) rfl ?_
      refine Go.goto 39 d30_35 (by decide) (by decide) ?_
      refine Go.nreturn (t := .boolean) (z' := (1 : Int32)) d30_39 rfl (by simp) (by decide) (by decide) (by decide) ?_
      exact ⟨rfl, rfl⟩
  ·
    refine Go.iconst 7 (1) d30_6 (by decide) rfl ?_
    refine Go.nreturn (t := .boolean) (z' := (1 : Int32)) d30_7 rfl (by simp) (by decide) (by decide) (by decide) ?_
    exact ⟨rfl, rfl⟩

theorem d26_0 : decode method_6_code 0 = .ok (.iload_n 2, 1) := by decide +kernel
theorem d26_1 : decode method_6_code 1 = .ok (.invokestatic 29, 3) := by decide +kernel
theorem d26_4 : decode method_6_code 4 = .ok (.istore_n 3, 1) := by decide +kernel
theorem d26_5 : decode method_6_code 5 = .ok (.aload_n 0, 1) := by decide +kernel
theorem d26_6 : decode method_6_code 6 = .ok (.invokevirtual 36, 3) := by decide +kernel
theorem d26_9 : decode method_6_code 9 = .ok (.iload_n 1, 1) := by decide +kernel
theorem d26_10 : decode method_6_code 10 = .ok (.isub, 1) := by decide +kernel
theorem d26_11 : decode method_6_code 11 = .ok (.iload_n 3, 1) := by decide +kernel
theorem d26_12 : decode method_6_code 12 = .ok (.if_icmp .ge 5, 3) := by decide +kernel
theorem d26_15 : decode method_6_code 15 = .ok (.iconst 0, 1) := by decide +kernel
theorem d26_16 : decode method_6_code 16 = .ok (.ireturn, 1) := by decide +kernel
theorem d26_17 : decode method_6_code 17 = .ok (.aload_n 0, 1) := by decide +kernel
theorem d26_18 : decode method_6_code 18 = .ok (.iload_n 1, 1) := by decide +kernel
theorem d26_19 : decode method_6_code 19 = .ok (.iload_n 3, 1) := by decide +kernel
theorem d26_20 : decode method_6_code 20 = .ok (.iload_n 2, 1) := by decide +kernel
theorem d26_21 : decode method_6_code 21 = .ok (.iconst 0, 1) := by decide +kernel
theorem d26_22 : decode method_6_code 22 = .ok (.iconst 1, 1) := by decide +kernel
theorem d26_23 : decode method_6_code 23 = .ok (.invokestatic 50, 3) := by decide +kernel
theorem d26_26 : decode method_6_code 26 = .ok (.ifCond .eq 130, 3) := by decide +kernel
theorem d26_29 : decode method_6_code 29 = .ok (.aload_n 0, 1) := by decide +kernel
theorem d26_30 : decode method_6_code 30 = .ok (.iload_n 1, 1) := by decide +kernel
theorem d26_31 : decode method_6_code 31 = .ok (.iload_n 3, 1) := by decide +kernel
theorem d26_32 : decode method_6_code 32 = .ok (.iload_n 2, 1) := by decide +kernel
theorem d26_33 : decode method_6_code 33 = .ok (.iconst 1, 1) := by decide +kernel
theorem d26_34 : decode method_6_code 34 = .ok (.bipush 10, 2) := by decide +kernel
theorem d26_36 : decode method_6_code 36 = .ok (.invokestatic 50, 3) := by decide +kernel
theorem d26_39 : decode method_6_code 39 = .ok (.ifCond .eq 117, 3) := by decide +kernel
theorem d26_42 : decode method_6_code 42 = .ok (.aload_n 0, 1) := by decide +kernel
theorem d26_43 : decode method_6_code 43 = .ok (.iload_n 1, 1) := by decide +kernel
theorem d26_44 : decode method_6_code 44 = .ok (.iload_n 3, 1) := by decide +kernel
theorem d26_45 : decode method_6_code 45 = .ok (.iload_n 2, 1) := by decide +kernel
theorem d26_46 : decode method_6_code 46 = .ok (.iconst 2, 1) := by decide +kernel
theorem d26_47 : decode method_6_code 47 = .ok (.bipush 100, 2) := by decide +kernel
theorem d26_49 : decode method_6_code 49 = .ok (.invokestatic 50, 3) := by decide +kernel
theorem d26_52 : decode method_6_code 52 = .ok (.ifCond .eq 104, 3) := by decide +kernel
theorem d26_55 : decode method_6_code 55 = .ok (.aload_n 0, 1) := by decide +kernel
theorem d26_56 : decode method_6_code 56 = .ok (.iload_n 1, 1) := by decide +kernel
theorem d26_57 : decode method_6_code 57 = .ok (.iload_n 3, 1) := by decide +kernel
theorem d26_58 : decode method_6_code 58 = .ok (.iload_n 2, 1) := by decide +kernel
theorem d26_59 : decode method_6_code 59 = .ok (.iconst 3, 1) := by decide +kernel
theorem d26_60 : decode method_6_code 60 = .ok (.sipush 1000, 3) := by decide +kernel
theorem d26_63 : decode method_6_code 63 = .ok (.invokestatic 50, 3) := by decide +kernel
theorem d26_66 : decode method_6_code 66 = .ok (.ifCond .eq 90, 3) := by decide +kernel
theorem d26_69 : decode method_6_code 69 = .ok (.aload_n 0, 1) := by decide +kernel
theorem d26_70 : decode method_6_code 70 = .ok (.iload_n 1, 1) := by decide +kernel
theorem d26_71 : decode method_6_code 71 = .ok (.iload_n 3, 1) := by decide +kernel
theorem d26_72 : decode method_6_code 72 = .ok (.iload_n 2, 1) := by decide +kernel
theorem d26_73 : decode method_6_code 73 = .ok (.iconst 4, 1) := by decide +kernel
theorem d26_74 : decode method_6_code 74 = .ok (.sipush 10000, 3) := by decide +kernel
theorem d26_77 : decode method_6_code 77 = .ok (.invokestatic 50, 3) := by decide +kernel
theorem d26_80 : decode method_6_code 80 = .ok (.ifCond .eq 76, 3) := by decide +kernel
theorem d26_83 : decode method_6_code 83 = .ok (.aload_n 0, 1) := by decide +kernel
theorem d26_84 : decode method_6_code 84 = .ok (.iload_n 1, 1) := by decide +kernel
theorem d26_85 : decode method_6_code 85 = .ok (.iload_n 3, 1) := by decide +kernel
theorem d26_86 : decode method_6_code 86 = .ok (.iload_n 2, 1) := by decide +kernel
theorem d26_87 : decode method_6_code 87 = .ok (.iconst 5, 1) := by decide +kernel
theorem d26_88 : decode method_6_code 88 = .ok (.ldc 45, 2) := by decide +kernel
theorem d26_90 : decode method_6_code 90 = .ok (.invokestatic 50, 3) := by decide +kernel
theorem d26_93 : decode method_6_code 93 = .ok (.ifCond .eq 63, 3) := by decide +kernel
theorem d26_96 : decode method_6_code 96 = .ok (.aload_n 0, 1) := by decide +kernel
theorem d26_97 : decode method_6_code 97 = .ok (.iload_n 1, 1) := by decide +kernel
theorem d26_98 : decode method_6_code 98 = .ok (.iload_n 3, 1) := by decide +kernel
theorem d26_99 : decode method_6_code 99 = .ok (.iload_n 2, 1) := by decide +kernel
theorem d26_100 : decode method_6_code 100 = .ok (.bipush 6, 2) := by decide +kernel
theorem d26_102 : decode method_6_code 102 = .ok (.ldc 46, 2) := by decide +kernel
theorem d26_104 : decode method_6_code 104 = .ok (.invokestatic 50, 3) := by decide +kernel
theorem d26_107 : decode method_6_code 107 = .ok (.ifCond .eq 49, 3) := by decide +kernel
theorem d26_110 : decode method_6_code 110 = .ok (.aload_n 0, 1) := by decide +kernel
theorem d26_111 : decode method_6_code 111 = .ok (.iload_n 1, 1) := by decide +kernel
theorem d26_112 : decode method_6_code 112 = .ok (.iload_n 3, 1) := by decide +kernel
theorem d26_113 : decode method_6_code 113 = .ok (.iload_n 2, 1) := by decide +kernel
theorem d26_114 : decode method_6_code 114 = .ok (.bipush 7, 2) := by decide +kernel
theorem d26_116 : decode method_6_code 116 = .ok (.ldc 47, 2) := by decide +kernel
theorem d26_118 : decode method_6_code 118 = .ok (.invokestatic 50, 3) := by decide +kernel
theorem d26_121 : decode method_6_code 121 = .ok (.ifCond .eq 35, 3) := by decide +kernel
theorem d26_124 : decode method_6_code 124 = .ok (.aload_n 0, 1) := by decide +kernel
theorem d26_125 : decode method_6_code 125 = .ok (.iload_n 1, 1) := by decide +kernel
theorem d26_126 : decode method_6_code 126 = .ok (.iload_n 3, 1) := by decide +kernel
theorem d26_127 : decode method_6_code 127 = .ok (.iload_n 2, 1) := by decide +kernel
theorem d26_128 : decode method_6_code 128 = .ok (.bipush 8, 2) := by decide +kernel
theorem d26_130 : decode method_6_code 130 = .ok (.ldc 48, 2) := by decide +kernel
theorem d26_132 : decode method_6_code 132 = .ok (.invokestatic 50, 3) := by decide +kernel
theorem d26_135 : decode method_6_code 135 = .ok (.ifCond .eq 21, 3) := by decide +kernel
theorem d26_138 : decode method_6_code 138 = .ok (.aload_n 0, 1) := by decide +kernel
theorem d26_139 : decode method_6_code 139 = .ok (.iload_n 1, 1) := by decide +kernel
theorem d26_140 : decode method_6_code 140 = .ok (.iload_n 3, 1) := by decide +kernel
theorem d26_141 : decode method_6_code 141 = .ok (.iload_n 2, 1) := by decide +kernel
theorem d26_142 : decode method_6_code 142 = .ok (.bipush 9, 2) := by decide +kernel
theorem d26_144 : decode method_6_code 144 = .ok (.ldc 49, 2) := by decide +kernel
theorem d26_146 : decode method_6_code 146 = .ok (.invokestatic 50, 3) := by decide +kernel
theorem d26_149 : decode method_6_code 149 = .ok (.ifCond .eq 7, 3) := by decide +kernel
theorem d26_152 : decode method_6_code 152 = .ok (.iconst 1, 1) := by decide +kernel
theorem d26_153 : decode method_6_code 153 = .ok (.goto 4, 3) := by decide +kernel
theorem d26_156 : decode method_6_code 156 = .ok (.iconst 0, 1) := by decide +kernel
theorem d26_157 : decode method_6_code 157 = .ok (.ireturn, 1) := by decide +kernel

theorem pd26 : parseMethodDescriptor "(Ljava/lang/String;II)Z" = some ⟨[(.object "java/lang/String"), .int, .int], some .boolean⟩ := by decide +kernel
theorem pl26 : plainFor (⟨"com/example/medianpoint/medianpoint/AnswerPrinterSiteNumbersPinLaw", "numberAt", "(Ljava/lang/String;II)Z"⟩ : MethodName) = true := by first | exact plainFor_of_name (by first | (simp [plainName, overriddenIn]; done) | decide +kernel) | decide +kernel

theorem ef_k_na (m : MethodId) (x0 : Addr) (x1 : Int32) (x2 : Int32) : entryFrame m #[(.ref x0), (.int x1), (.int x2)] 4 = mkF m 0 #[.val (.ref x0), .val (.int x1), .val (.int x2), .unset] [] := by first | (simp [entryFrame, mkF, argsToLocals, Value.category]; done) | rfl

set_option maxRecDepth 65536 in
set_option maxHeartbeats 40000000 in
theorem k_na {l : Launch} {Z : State} {a0 : Array Value} (hw : ∀ d ∈ tables_1, d.before a0 Z = true) {t : Addr} {cs : List Int32} {cz : Int32} {pre : List Int32} {post : List Int32} (h : Heap) (hz : Z.heap.size ≤ h.size) (s : Addr) (p : Int32) (v : Int32) (fa0 : Exa Z h s "java/lang/String") (fa1 : Fld Z h s "java/lang/String" "value" "[B" (.ref t)) (fa2 : Fld Z h s "java/lang/String" "coder" "B" (.int (0 : Int32))) (fa3 : Ari Z h t .byte cs) (fa4 : Sta Z h "java/lang/String" "COMPACT_STRINGS" "Z" (.int cz)) (fa5 : Str Z h "jdk/internal/util/Preconditions" "SIOOBE_FORMATTER" "Ljava/util/function/BiFunction;") (hcz : ¬ cz = (0 : Int32)) (hv : 0 < v.toInt) (hcs : cs = pre ++ own_dec v ++ post) (hp : p = pre.length.toInt32) (hl : cs.length ≤ 100) (hasc : own_asc cs)   : Go l Z (⟨"com/example/medianpoint/medianpoint/AnswerPrinterSiteNumbersPinLaw", "numberAt", "(Ljava/lang/String;II)Z"⟩ : MethodName) method_6_code 4 (Option.some Jvm.ClassFile.FieldType.boolean) ({ frames := 5, cells := 0, slots := 0, locals := 120 } : Room) (QI fun rz h' => rz = (1 : Int32) ∧ h' = h) 0 0 h 0 #[.val (.ref s), .val (.int p), .val (.int v), .unset] [] := by
  refine Go.iload_n 1 d26_0 rfl rfl ?_
  refine Go.callSIp [.int v] [] 4 d26_1 (tw138 hw) (tw139 hw) (tw2 hw) (tw140 hw) pl27 (by decide) (lenOf pd27 rfl) rfl (fun m => ef_k_dg m v) _ (k_dg hw h hz v (by assumption)) 0 rfl (Nat.le_of_eq rfl) (by decide) (by decide) (by decide) (by decide) rfl ?_
  refine Go.istore_n 5 #[.val (.ref s), .val (.int p), .val (.int v), .val (.int ((own_nd v).toInt32))] d26_4 rfl rfl ?_
  refine Go.aload_n 6 d26_5 rfl rfl rfl ?_
  refine Go.callVIp [] [] 9 d26_6 (tw141 hw) (tw142 hw) (tw144 hw) (tw143 hw) (tw26 hw) (tw145 hw) fa0 pl28 (by decide) (lenOf pd28 rfl) rfl (fun m => ef_k_slen m s) _ (k_slen hw h hz s fa0 fa1 fa2 fa3 fa4 (by assumption)) 0 rfl (Nat.le_of_eq rfl) (by decide) (by decide) (by decide) (by decide) rfl ?_
  refine Go.iload_n 10 d26_9 rfl rfl ?_
  refine Go.isub 11 d26_10 rfl ?_
  refine Go.iload_n 12 d26_11 rfl rfl ?_
  refine Go.icmp_ge 17 15 d26_12 (by decide) (by decide) rfl (fun c7 => ?_) (fun c7 => ?_)
  ·
    refine Go.aload_n 18 d26_17 rfl rfl rfl ?_
    refine Go.iload_n 19 d26_18 rfl rfl ?_
    refine Go.iload_n 20 d26_19 rfl rfl ?_
    refine Go.iload_n 21 d26_20 rfl rfl ?_
    refine Go.iconst 22 (0) d26_21 (by decide) rfl ?_
    refine Go.iconst 23 (1) d26_22 (by decide) rfl ?_
    refine Go.callSIp [.ref s, .int p, .int ((own_nd v).toInt32), .int v, .int (0 : Int32), .int (1 : Int32)] [] 26 d26_23 (tw152 hw) (tw153 hw) (tw2 hw) (tw154 hw) pl30 (by decide) (lenOf pd30 rfl) rfl (fun m => ef_k_dk0 m s p ((own_nd v).toInt32) v (0 : Int32) (1 : Int32)) _ (k_dk0 (pre := pre) (post := post) hw h hz s p (((own_nd v).toInt32)) v fa0 fa1 fa2 fa3 fa4 fa5 (by assumption) (by assumption) (by assumption) (by assumption) (by assumption) (by assumption) rfl) 0 rfl (Nat.le_of_eq rfl) (by decide) (by decide) (by decide) (by decide) rfl ?_
    refine Go.if_eq 156 29 d26_26 (by decide) (by decide) rfl (fun c => absurd c (by decide)) (fun _ => ?_)
    refine Go.aload_n 30 d26_29 rfl rfl rfl ?_
    refine Go.iload_n 31 d26_30 rfl rfl ?_
    refine Go.iload_n 32 d26_31 rfl rfl ?_
    refine Go.iload_n 33 d26_32 rfl rfl ?_
    refine Go.iconst 34 (1) d26_33 (by decide) rfl ?_
    refine Go.bipush 36 (10) d26_34 (by decide) rfl ?_
    refine Go.callSIp [.ref s, .int p, .int ((own_nd v).toInt32), .int v, .int (1 : Int32), .int (10 : Int32)] [] 39 d26_36 (tw152 hw) (tw153 hw) (tw2 hw) (tw154 hw) pl30 (by decide) (lenOf pd30 rfl) rfl (fun m => ef_k_dk1 m s p ((own_nd v).toInt32) v (1 : Int32) (10 : Int32)) _ (k_dk1 (pre := pre) (post := post) hw h hz s p (((own_nd v).toInt32)) v fa0 fa1 fa2 fa3 fa4 fa5 (by assumption) (by assumption) (by assumption) (by assumption) (by assumption) (by assumption) rfl) 0 rfl (Nat.le_of_eq rfl) (by decide) (by decide) (by decide) (by decide) rfl ?_
    refine Go.if_eq 156 42 d26_39 (by decide) (by decide) rfl (fun c => absurd c (by decide)) (fun _ => ?_)
    refine Go.aload_n 43 d26_42 rfl rfl rfl ?_
    refine Go.iload_n 44 d26_43 rfl rfl ?_
    refine Go.iload_n 45 d26_44 rfl rfl ?_
    refine Go.iload_n 46 d26_45 rfl rfl ?_
    refine Go.iconst 47 (2) d26_46 (by decide) rfl ?_
    refine Go.bipush 49 (100) d26_47 (by decide) rfl ?_
    refine Go.callSIp [.ref s, .int p, .int ((own_nd v).toInt32), .int v, .int (2 : Int32), .int (100 : Int32)] [] 52 d26_49 (tw152 hw) (tw153 hw) (tw2 hw) (tw154 hw) pl30 (by decide) (lenOf pd30 rfl) rfl (fun m => ef_k_dk2 m s p ((own_nd v).toInt32) v (2 : Int32) (100 : Int32)) _ (k_dk2 (pre := pre) (post := post) hw h hz s p (((own_nd v).toInt32)) v fa0 fa1 fa2 fa3 fa4 fa5 (by assumption) (by assumption) (by assumption) (by assumption) (by assumption) (by assumption) rfl) 0 rfl (Nat.le_of_eq rfl) (by decide) (by decide) (by decide) (by decide) rfl ?_
    refine Go.if_eq 156 55 d26_52 (by decide) (by decide) rfl (fun c => absurd c (by decide)) (fun _ => ?_)
    refine Go.aload_n 56 d26_55 rfl rfl rfl ?_
    refine Go.iload_n 57 d26_56 rfl rfl ?_
    refine Go.iload_n 58 d26_57 rfl rfl ?_
    refine Go.iload_n 59 d26_58 rfl rfl ?_
    refine Go.iconst 60 (3) d26_59 (by decide) rfl ?_
    refine Go.sipush 63 (1000) d26_60 (by decide) rfl ?_
    refine Go.callSIp [.ref s, .int p, .int ((own_nd v).toInt32), .int v, .int (3 : Int32), .int (1000 : Int32)] [] 66 d26_63 (tw152 hw) (tw153 hw) (tw2 hw) (tw154 hw) pl30 (by decide) (lenOf pd30 rfl) rfl (fun m => ef_k_dk3 m s p ((own_nd v).toInt32) v (3 : Int32) (1000 : Int32)) _ (k_dk3 (pre := pre) (post := post) hw h hz s p (((own_nd v).toInt32)) v fa0 fa1 fa2 fa3 fa4 fa5 (by assumption) (by assumption) (by assumption) (by assumption) (by assumption) (by assumption) rfl) 0 rfl (Nat.le_of_eq rfl) (by decide) (by decide) (by decide) (by decide) rfl ?_
    refine Go.if_eq 156 69 d26_66 (by decide) (by decide) rfl (fun c => absurd c (by decide)) (fun _ => ?_)
    refine Go.aload_n 70 d26_69 rfl rfl rfl ?_
    refine Go.iload_n 71 d26_70 rfl rfl ?_
    refine Go.iload_n 72 d26_71 rfl rfl ?_
    refine Go.iload_n 73 d26_72 rfl rfl ?_
    refine Go.iconst 74 (4) d26_73 (by decide) rfl ?_
    refine Go.sipush 77 (10000) d26_74 (by decide) rfl ?_
    refine Go.callSIp [.ref s, .int p, .int ((own_nd v).toInt32), .int v, .int (4 : Int32), .int (10000 : Int32)] [] 80 d26_77 (tw152 hw) (tw153 hw) (tw2 hw) (tw154 hw) pl30 (by decide) (lenOf pd30 rfl) rfl (fun m => ef_k_dk4 m s p ((own_nd v).toInt32) v (4 : Int32) (10000 : Int32)) _ (k_dk4 (pre := pre) (post := post) hw h hz s p (((own_nd v).toInt32)) v fa0 fa1 fa2 fa3 fa4 fa5 (by assumption) (by assumption) (by assumption) (by assumption) (by assumption) (by assumption) rfl) 0 rfl (Nat.le_of_eq rfl) (by decide) (by decide) (by decide) (by decide) rfl ?_
    refine Go.if_eq 156 83 d26_80 (by decide) (by decide) rfl (fun c => absurd c (by decide)) (fun _ => ?_)
    refine Go.aload_n 84 d26_83 rfl rfl rfl ?_
    refine Go.iload_n 85 d26_84 rfl rfl ?_
    refine Go.iload_n 86 d26_85 rfl rfl ?_
    refine Go.iload_n 87 d26_86 rfl rfl ?_
    refine Go.iconst 88 (5) d26_87 (by decide) rfl ?_
    refine Go.ldc 90 d26_88 (tw176 hw) rfl ?_
    refine Go.callSIp [.ref s, .int p, .int ((own_nd v).toInt32), .int v, .int (5 : Int32), .int (100000 : Int32)] [] 93 d26_90 (tw152 hw) (tw153 hw) (tw2 hw) (tw154 hw) pl30 (by decide) (lenOf pd30 rfl) rfl (fun m => ef_k_dk5 m s p ((own_nd v).toInt32) v (5 : Int32) (100000 : Int32)) _ (k_dk5 (pre := pre) (post := post) hw h hz s p (((own_nd v).toInt32)) v fa0 fa1 fa2 fa3 fa4 fa5 (by assumption) (by assumption) (by assumption) (by assumption) (by assumption) (by assumption) rfl) 0 rfl (Nat.le_of_eq rfl) (by decide) (by decide) (by decide) (by decide) rfl ?_
    refine Go.if_eq 156 96 d26_93 (by decide) (by decide) rfl (fun c => absurd c (by decide)) (fun _ => ?_)
    refine Go.aload_n 97 d26_96 rfl rfl rfl ?_
    refine Go.iload_n 98 d26_97 rfl rfl ?_
    refine Go.iload_n 99 d26_98 rfl rfl ?_
    refine Go.iload_n 100 d26_99 rfl rfl ?_
    refine Go.bipush 102 (6) d26_100 (by decide) rfl ?_
    refine Go.ldc 104 d26_102 (tw177 hw) rfl ?_
    refine Go.callSIp [.ref s, .int p, .int ((own_nd v).toInt32), .int v, .int (6 : Int32), .int (1000000 : Int32)] [] 107 d26_104 (tw152 hw) (tw153 hw) (tw2 hw) (tw154 hw) pl30 (by decide) (lenOf pd30 rfl) rfl (fun m => ef_k_dk6 m s p ((own_nd v).toInt32) v (6 : Int32) (1000000 : Int32)) _ (k_dk6 (pre := pre) (post := post) hw h hz s p (((own_nd v).toInt32)) v fa0 fa1 fa2 fa3 fa4 fa5 (by assumption) (by assumption) (by assumption) (by assumption) (by assumption) (by assumption) rfl) 0 rfl (Nat.le_of_eq rfl) (by decide) (by decide) (by decide) (by decide) rfl ?_
    refine Go.if_eq 156 110 d26_107 (by decide) (by decide) rfl (fun c => absurd c (by decide)) (fun _ => ?_)
    refine Go.aload_n 111 d26_110 rfl rfl rfl ?_
    refine Go.iload_n 112 d26_111 rfl rfl ?_
    refine Go.iload_n 113 d26_112 rfl rfl ?_
    refine Go.iload_n 114 d26_113 rfl rfl ?_
    refine Go.bipush 116 (7) d26_114 (by decide) rfl ?_
    refine Go.ldc 118 d26_116 (tw178 hw) rfl ?_
    refine Go.callSIp [.ref s, .int p, .int ((own_nd v).toInt32), .int v, .int (7 : Int32), .int (10000000 : Int32)] [] 121 d26_118 (tw152 hw) (tw153 hw) (tw2 hw) (tw154 hw) pl30 (by decide) (lenOf pd30 rfl) rfl (fun m => ef_k_dk7 m s p ((own_nd v).toInt32) v (7 : Int32) (10000000 : Int32)) _ (k_dk7 (pre := pre) (post := post) hw h hz s p (((own_nd v).toInt32)) v fa0 fa1 fa2 fa3 fa4 fa5 (by assumption) (by assumption) (by assumption) (by assumption) (by assumption) (by assumption) rfl) 0 rfl (Nat.le_of_eq rfl) (by decide) (by decide) (by decide) (by decide) rfl ?_
    refine Go.if_eq 156 124 d26_121 (by decide) (by decide) rfl (fun c => absurd c (by decide)) (fun _ => ?_)
    refine Go.aload_n 125 d26_124 rfl rfl rfl ?_
    refine Go.iload_n 126 d26_125 rfl rfl ?_
    refine Go.iload_n 127 d26_126 rfl rfl ?_
    refine Go.iload_n 128 d26_127 rfl rfl ?_
    refine Go.bipush 130 (8) d26_128 (by decide) rfl ?_
    refine Go.ldc 132 d26_130 (tw179 hw) rfl ?_
    refine Go.callSIp [.ref s, .int p, .int ((own_nd v).toInt32), .int v, .int (8 : Int32), .int (100000000 : Int32)] [] 135 d26_132 (tw152 hw) (tw153 hw) (tw2 hw) (tw154 hw) pl30 (by decide) (lenOf pd30 rfl) rfl (fun m => ef_k_dk8 m s p ((own_nd v).toInt32) v (8 : Int32) (100000000 : Int32)) _ (k_dk8 (pre := pre) (post := post) hw h hz s p (((own_nd v).toInt32)) v fa0 fa1 fa2 fa3 fa4 fa5 (by assumption) (by assumption) (by assumption) (by assumption) (by assumption) (by assumption) rfl) 0 rfl (Nat.le_of_eq rfl) (by decide) (by decide) (by decide) (by decide) rfl ?_
    refine Go.if_eq 156 138 d26_135 (by decide) (by decide) rfl (fun c => absurd c (by decide)) (fun _ => ?_)
    refine Go.aload_n 139 d26_138 rfl rfl rfl ?_
    refine Go.iload_n 140 d26_139 rfl rfl ?_
    refine Go.iload_n 141 d26_140 rfl rfl ?_
    refine Go.iload_n 142 d26_141 rfl rfl ?_
    refine Go.bipush 144 (9) d26_142 (by decide) rfl ?_
    refine Go.ldc 146 d26_144 (tw180 hw) rfl ?_
    refine Go.callSIp [.ref s, .int p, .int ((own_nd v).toInt32), .int v, .int (9 : Int32), .int (1000000000 : Int32)] [] 149 d26_146 (tw152 hw) (tw153 hw) (tw2 hw) (tw154 hw) pl30 (by decide) (lenOf pd30 rfl) rfl (fun m => ef_k_dk9 m s p ((own_nd v).toInt32) v (9 : Int32) (1000000000 : Int32)) _ (k_dk9 (pre := pre) (post := post) hw h hz s p (((own_nd v).toInt32)) v fa0 fa1 fa2 fa3 fa4 fa5 (by assumption) (by assumption) (by assumption) (by assumption) (by assumption) (by assumption) rfl) 0 rfl (Nat.le_of_eq rfl) (by decide) (by decide) (by decide) (by decide) rfl ?_
    refine Go.if_eq 156 152 d26_149 (by decide) (by decide) rfl (fun c => absurd c (by decide)) (fun _ => ?_)
    refine Go.iconst 153 (1) d26_152 (by decide) rfl ?_
    refine Go.goto 157 d26_153 (by decide) (by decide) ?_
    refine Go.nreturn (t := .boolean) (z' := (1 : Int32)) d26_157 rfl (by simp) (by decide) (by decide) (by decide) ?_
    exact ⟨rfl, rfl⟩
  ·
    exact absurd c7 (own_nat hv hcs hp hl)

theorem d36_0 : decode method_4_code 0 = .ok (.iload_n 1, 1) := by decide +kernel
theorem d36_1 : decode method_4_code 1 = .ok (.aload_n 0, 1) := by decide +kernel
theorem d36_2 : decode method_4_code 2 = .ok (.invokevirtual 36, 3) := by decide +kernel
theorem d36_5 : decode method_4_code 5 = .ok (.if_icmp .ge 17, 3) := by decide +kernel
theorem d36_8 : decode method_4_code 8 = .ok (.aload_n 0, 1) := by decide +kernel
theorem d36_9 : decode method_4_code 9 = .ok (.iload_n 1, 1) := by decide +kernel
theorem d36_10 : decode method_4_code 10 = .ok (.invokevirtual 41, 3) := by decide +kernel
theorem d36_13 : decode method_4_code 13 = .ok (.bipush 32, 2) := by decide +kernel
theorem d36_15 : decode method_4_code 15 = .ok (.if_icmp .ne 7, 3) := by decide +kernel
theorem d36_18 : decode method_4_code 18 = .ok (.iconst 1, 1) := by decide +kernel
theorem d36_19 : decode method_4_code 19 = .ok (.goto 4, 3) := by decide +kernel
theorem d36_22 : decode method_4_code 22 = .ok (.iconst 0, 1) := by decide +kernel
theorem d36_23 : decode method_4_code 23 = .ok (.ireturn, 1) := by decide +kernel

theorem pd36 : parseMethodDescriptor "(Ljava/lang/String;I)Z" = some ⟨[(.object "java/lang/String"), .int], some .boolean⟩ := by decide +kernel
theorem pl36 : plainFor (⟨"com/example/medianpoint/medianpoint/AnswerPrinterSiteNumbersPinLaw", "blankAt", "(Ljava/lang/String;I)Z"⟩ : MethodName) = true := by first | exact plainFor_of_name (by first | (simp [plainName, overriddenIn]; done) | decide +kernel) | decide +kernel

theorem ef_k_ba (m : MethodId) (x0 : Addr) (x1 : Int32) : entryFrame m #[(.ref x0), (.int x1)] 2 = mkF m 0 #[.val (.ref x0), .val (.int x1)] [] := by first | (simp [entryFrame, mkF, argsToLocals, Value.category]; done) | rfl

set_option maxRecDepth 65536 in
set_option maxHeartbeats 40000000 in
theorem k_ba {l : Launch} {Z : State} {a0 : Array Value} (hw : ∀ d ∈ tables_1, d.before a0 Z = true) {t : Addr} {cs : List Int32} {cz : Int32} {pre : List Int32} {post : List Int32} (h : Heap) (hz : Z.heap.size ≤ h.size) (s : Addr) (p : Int32) (fa0 : Exa Z h s "java/lang/String") (fa1 : Fld Z h s "java/lang/String" "value" "[B" (.ref t)) (fa2 : Fld Z h s "java/lang/String" "coder" "B" (.int (0 : Int32))) (fa3 : Ari Z h t .byte cs) (fa4 : Sta Z h "java/lang/String" "COMPACT_STRINGS" "Z" (.int cz)) (fa5 : Str Z h "jdk/internal/util/Preconditions" "SIOOBE_FORMATTER" "Ljava/util/function/BiFunction;") (hcz : ¬ cz = (0 : Int32)) (hcs : cs = pre ++ [(32 : Int32)] ++ post) (hp : p = pre.length.toInt32) (hl : cs.length ≤ 100) (hasc : own_asc cs)   : Go l Z (⟨"com/example/medianpoint/medianpoint/AnswerPrinterSiteNumbersPinLaw", "blankAt", "(Ljava/lang/String;I)Z"⟩ : MethodName) method_4_code 2 (Option.some Jvm.ClassFile.FieldType.boolean) ({ frames := 4, cells := 0, slots := 0, locals := 90 } : Room) (QI fun rz h' => rz = (1 : Int32) ∧ h' = h) 0 0 h 0 #[.val (.ref s), .val (.int p)] [] := by
  refine Go.iload_n 1 d36_0 rfl rfl ?_
  refine Go.aload_n 2 d36_1 rfl rfl rfl ?_
  refine Go.callVIp [] [.int p] 5 d36_2 (tw141 hw) (tw142 hw) (tw144 hw) (tw143 hw) (tw26 hw) (tw145 hw) fa0 pl28 (by decide) (lenOf pd28 rfl) rfl (fun m => ef_k_slen m s) _ (k_slen hw h hz s fa0 fa1 fa2 fa3 fa4 (by assumption)) 1 rfl (Nat.le_of_eq rfl) (by decide) (by decide) (by decide) (by decide) rfl ?_
  refine Go.icmp_ge 22 8 d36_5 (by decide) (by decide) rfl (fun c4 => ?_) (fun c4 => ?_)
  ·
    refine Go.iconst 23 (0) d36_22 (by decide) rfl ?_
    refine Go.nreturn (t := .boolean) (z' := (0 : Int32)) d36_23 rfl (by simp) (by decide) (by decide) (by decide) ?_
    exact absurd (own_blt hcs hp hl) c4
  ·
    refine Go.aload_n 9 d36_8 rfl rfl rfl ?_
    refine Go.iload_n 10 d36_9 rfl rfl ?_
    refine Go.callVIp [.int p] [] 13 d36_10 (tw155 hw) (tw156 hw) (tw158 hw) (tw157 hw) (tw26 hw) (tw159 hw) fa0 pl31 (by decide) (lenOf pd31 rfl) rfl (fun m => ef_k_chr m s p) _ (k_chr (J := pre.length) hw h hz s p fa0 fa1 fa2 fa3 fa4 fa5 (by assumption) hp (own_bJ hcs) (by assumption) (by assumption)) 0 rfl (Nat.le_of_eq rfl) (by decide) (by decide) (by decide) (by decide) rfl ?_
    refine Go.bipush 15 (32) d36_13 (by decide) rfl ?_
    refine Go.icmp_ne 22 18 d36_15 (by decide) (by decide) rfl (fun c8 => ?_) (fun c8 => ?_)
    ·
      refine Go.iconst 23 (0) d36_22 (by decide) rfl ?_
      refine Go.nreturn (t := .boolean) (z' := (0 : Int32)) d36_23 rfl (by simp) (by decide) (by decide) (by decide) ?_
      exact absurd (own_bl hcs) c8
    ·
      refine Go.iconst 19 (1) d36_18 (by decide) rfl ?_
      refine Go.goto 23 d36_19 (by decide) (by decide) ?_
      refine Go.nreturn (t := .boolean) (z' := (1 : Int32)) d36_23 rfl (by simp) (by decide) (by decide) (by decide) ?_
      exact ⟨rfl, rfl⟩

theorem ef_law0 (m : MethodId) (x0 : Int32) (x1 : Int32) (x2 : Int32) (x3 : Int32) : entryFrame m #[(.int x0), (.int x1), (.int x2), (.int x3)] maxLocals = mkF m 0 #[.val (.int x0), .val (.int x1), .val (.int x2), .val (.int x3), .unset, .unset, .unset, .unset, .unset, .unset, .unset] [] := by first | (simp [entryFrame, mkF, argsToLocals, Value.category, maxLocals]; done) | rfl

set_option maxRecDepth 65536 in
set_option maxHeartbeats 40000000 in
theorem law0 {l : Launch} {Z : State} {a0 : Array Value} (hw : ∀ d ∈ tables_1, d.before a0 Z = true) {cz : Int32} {r1 : Addr} {r2 : Addr} (h : Heap) (hz : Z.heap.size ≤ h.size) (i0 : Int32) (i1 : Int32) (i2 : Int32) (i3 : Int32) (fa0 : Sta Z h "java/lang/String" "COMPACT_STRINGS" "Z" (.int cz)) (fa1 : Str Z h "jdk/internal/util/Preconditions" "SIOOBE_FORMATTER" "Ljava/util/function/BiFunction;") (fa2 : Sta Z h "java/lang/Integer" "DigitOnes" "[B" (.ref r1)) (fa3 : Ari Z h r1 .byte own_ones) (fa4 : Sta Z h "java/lang/Integer" "DigitTens" "[B" (.ref r2)) (fa5 : Ari Z h r2 .byte own_tens) (hcz : ¬ cz = (0 : Int32)) (o1 : r1 < Z.heap.size) (o2 : r2 < Z.heap.size)   : Go l Z x code maxLocals ret room_1 (QI fun z h' => z = 1) 0 0 h 0 #[.val (.int i0), .val (.int i1), .val (.int i2), .val (.int i3), .unset, .unset, .unset, .unset, .unset, .unset, .unset] [] := by
  have hv0 : 0 < (own_site i1 + (1 : Int32)).toInt := own_sitev i1
  have hv1 : 0 < (own_site i2 + (1 : Int32)).toInt := own_sitev i2
  have hv2 : 0 < (own_site i3 + (1 : Int32)).toInt := own_sitev i3
  have hd0 := own_nd10 (own_site i1 + (1 : Int32))
  have hd1 := own_nd10 (own_site i2 + (1 : Int32))
  have hd2 := own_nd10 (own_site i3 + (1 : Int32))
  refine Go.iload_n 1 at_0 rfl rfl ?_
  refine Go.iconst 2 (3) at_1 (by decide) rfl ?_
  refine Go.iand 3 at_2 rfl ?_
  refine Go.nameI (fun v1 e2 => ?_)
  rcases own_four e2 with hs | hs | hs | hs
  ·
    subst hs
    refine Go.istore 5 #[.val (.int i0), .val (.int i1), .val (.int i2), .val (.int i3), .val (.int (0 : Int32)), .unset, .unset, .unset, .unset, .unset, .unset] at_3 rfl rfl ?_
    refine Go.iload_n 6 at_5 rfl rfl ?_
    refine Go.callSIp [.int i1] [] 9 at_6 (tw0 hw) (tw1 hw) (tw2 hw) (tw3 hw) pl1 (by decide) (lenOf pd1 rfl) rfl (fun m => ef_k_site m i1) _ (k_site hw h hz i1) 0 rfl (Nat.le_of_eq rfl) (by decide) (by decide) (by decide) (by decide) rfl ?_
    refine Go.istore 11 #[.val (.int i0), .val (.int i1), .val (.int i2), .val (.int i3), .val (.int (0 : Int32)), .val (.int (own_site i1)), .unset, .unset, .unset, .unset, .unset] at_9 rfl rfl ?_
    refine Go.iload_n 12 at_11 rfl rfl ?_
    refine Go.callSIp [.int i2] [] 15 at_12 (tw0 hw) (tw1 hw) (tw2 hw) (tw3 hw) pl1 (by decide) (lenOf pd1 rfl) rfl (fun m => ef_k_site m i2) _ (k_site hw h hz i2) 0 rfl (Nat.le_of_eq rfl) (by decide) (by decide) (by decide) (by decide) rfl ?_
    refine Go.istore 17 #[.val (.int i0), .val (.int i1), .val (.int i2), .val (.int i3), .val (.int (0 : Int32)), .val (.int (own_site i1)), .val (.int (own_site i2)), .unset, .unset, .unset, .unset] at_15 rfl rfl ?_
    refine Go.iload_n 18 at_17 rfl rfl ?_
    refine Go.callSIp [.int i3] [] 21 at_18 (tw0 hw) (tw1 hw) (tw2 hw) (tw3 hw) pl1 (by decide) (lenOf pd1 rfl) rfl (fun m => ef_k_site m i3) _ (k_site hw h hz i3) 0 rfl (Nat.le_of_eq rfl) (by decide) (by decide) (by decide) (by decide) rfl ?_
    refine Go.istore 23 #[.val (.int i0), .val (.int i1), .val (.int i2), .val (.int i3), .val (.int (0 : Int32)), .val (.int (own_site i1)), .val (.int (own_site i2)), .val (.int (own_site i3)), .unset, .unset, .unset] at_21 rfl rfl ?_
    refine Go.iload 25 at_23 rfl rfl ?_
    refine Go.newIE (cap := 0) (xs := []) "[I" 27 at_25 (tw5 hw) rfl (by decide) (by decide) (by decide) (by decide) rfl (by decide) (by decide) rfl (fun a12 h13 q14 E15 A16 Ex17 => ?_)
    have ne18 : r1 ≠ a12 := fun e => absurd fa3.lt (by rw [e, q14]; exact Nat.lt_irrefl _)
    have ne19 : r2 ≠ a12 := fun e => absurd fa5.lt (by rw [e, q14]; exact Nat.lt_irrefl _)
    have ge20 : Z.heap.size ≤ a12 := (Eq.symm q14) ▸ hz
    have f21 : Sta Z h13 "java/lang/String" "COMPACT_STRINGS" "Z" (.int cz) := fa0.ext E15
    have f22 : Str Z h13 "jdk/internal/util/Preconditions" "SIOOBE_FORMATTER" "Ljava/util/function/BiFunction;" := fa1.ext E15
    have f23 : Sta Z h13 "java/lang/Integer" "DigitOnes" "[B" (.ref r1) := fa2.ext E15
    have f24 : Ari Z h13 r1 .byte own_ones := fa3.ext E15
    have f25 : Sta Z h13 "java/lang/Integer" "DigitTens" "[B" (.ref r2) := fa4.ext E15
    have f26 : Ari Z h13 r2 .byte own_tens := fa5.ext E15
    have zs27 : Z.heap.size ≤ h13.size := Nat.le_trans hz E15.1
    refine Go.astore 29 #[.val (.int i0), .val (.int i1), .val (.int i2), .val (.int i3), .val (.int (0 : Int32)), .val (.int (own_site i1)), .val (.int (own_site i2)), .val (.int (own_site i3)), .val (.ref a12), .unset, .unset] at_27 rfl rfl rfl ?_
    refine Go.iload 31 at_29 rfl rfl ?_
    refine Go.iconst 32 (1) at_31 (by decide) rfl ?_
    refine Go.icmp_lt 41 35 at_32 (by decide) (by decide) rfl (fun _ => ?_) (fun c => absurd c (by decide))
    refine Go.iload 43 at_41 rfl rfl ?_
    refine Go.iconst 44 (2) at_43 (by decide) rfl ?_
    refine Go.icmp_lt 53 47 at_44 (by decide) (by decide) rfl (fun _ => ?_) (fun c => absurd c (by decide))
    refine Go.iload 55 at_53 rfl rfl ?_
    refine Go.iconst 56 (3) at_55 (by decide) rfl ?_
    refine Go.icmp_lt 65 59 at_56 (by decide) (by decide) rfl (fun _ => ?_) (fun c => absurd c (by decide))
    refine Go.aload 67 at_65 rfl rfl rfl ?_
    refine Go.callSR [.ref a12] [] 70 at_67 (tw6 hw) (tw7 hw) (tw8 hw) (tw9 hw) pl2 (by decide) (lenOf pd2 rfl) rfl (fun m => ef_k_sn0 m a12) _ (k_sn0 hw h13 zs27 a12 A16 f21 f23 f24 f25 f26 (by assumption) (by assumption) (by assumption)) 0 rfl (Nat.le_of_eq rfl) (by decide) (by decide) (by decide) (by decide) rfl ?_
    rintro z31 h32 ⟨a34, a35, rfl, g36, g37, ne38, K33, f39, f40, f41, f42⟩
    have ne43 : r1 ≠ a34 := Nat.ne_of_lt (Nat.lt_of_lt_of_le f24.lt g36)
    have ne44 : r2 ≠ a34 := Nat.ne_of_lt (Nat.lt_of_lt_of_le f26.lt g36)
    have ne45 : a12 ≠ a34 := Nat.ne_of_lt (Nat.lt_of_lt_of_le A16.lt g36)
    have ge46 : Z.heap.size ≤ a34 := Nat.le_trans zs27 g36
    have ne47 : r1 ≠ a35 := Nat.ne_of_lt (Nat.lt_of_lt_of_le f24.lt g37)
    have ne48 : r2 ≠ a35 := Nat.ne_of_lt (Nat.lt_of_lt_of_le f26.lt g37)
    have ne49 : a12 ≠ a35 := Nat.ne_of_lt (Nat.lt_of_lt_of_le A16.lt g37)
    have ge50 : Z.heap.size ≤ a35 := Nat.le_trans zs27 g37
    have f51 : Sta Z h32 "java/lang/String" "COMPACT_STRINGS" "Z" (.int cz) := own_staK f21 K33 all0
    have f52 : Str Z h32 "jdk/internal/util/Preconditions" "SIOOBE_FORMATTER" "Ljava/util/function/BiFunction;" := f22.keepN K33 all0
    have f53 : Sta Z h32 "java/lang/Integer" "DigitOnes" "[B" (.ref r1) := own_staK f23 K33 all0
    have f54 : Ari Z h32 r1 .byte own_ones := f24.keep K33 nin0
    have f55 : Sta Z h32 "java/lang/Integer" "DigitTens" "[B" (.ref r2) := own_staK f25 K33 all0
    have f56 : Ari Z h32 r2 .byte own_tens := f26.keep K33 nin0
    have f57 : Ari Z h32 a12 .int [] := A16.keep K33 nin0
    have f58 : Exa Z h32 a12 "[I" := Ex17.keep K33
    have zs59 : Z.heap.size ≤ h32.size := Nat.le_trans zs27 K33.1
    refine Go.astore 72 #[.val (.int i0), .val (.int i1), .val (.int i2), .val (.int i3), .val (.int (0 : Int32)), .val (.int (own_site i1)), .val (.int (own_site i2)), .val (.int (own_site i3)), .val (.ref a12), .val (.ref a34), .unset] at_70 rfl rfl rfl ?_
    refine Go.aload 74 at_72 rfl rfl rfl ?_
    refine Go.ifnonnull_yes 79 at_74 (by decide) (by decide) ?_
    refine Go.iload 81 at_79 rfl rfl ?_
    refine Go.if_ne 90 84 at_81 (by decide) (by decide) rfl (fun c => absurd c (by decide)) (fun _ => ?_)
    refine Go.aload 86 at_84 rfl rfl rfl ?_
    refine Go.callVIp [] [] 89 at_86 (tw90 hw) (tw91 hw) (tw93 hw) (tw92 hw) (tw26 hw) (tw94 hw) f39 pl17 (by decide) (lenOf pd17 rfl) rfl (fun m => ef_k_emp m a34) _ (k_emp hw h32 zs59 a34 f40 f42) 0 rfl (Nat.le_of_eq rfl) (by decide) (by decide) (by decide) (by decide) rfl ?_
    refine Go.nreturn (t := .boolean) (z' := (1 : Int32)) at_89 rfl (by simp) (by decide) (by decide) (by decide) ?_
    rfl
  ·
    subst hs
    refine Go.istore 5 #[.val (.int i0), .val (.int i1), .val (.int i2), .val (.int i3), .val (.int (1 : Int32)), .unset, .unset, .unset, .unset, .unset, .unset] at_3 rfl rfl ?_
    refine Go.iload_n 6 at_5 rfl rfl ?_
    refine Go.callSIp [.int i1] [] 9 at_6 (tw0 hw) (tw1 hw) (tw2 hw) (tw3 hw) pl1 (by decide) (lenOf pd1 rfl) rfl (fun m => ef_k_site m i1) _ (k_site hw h hz i1) 0 rfl (Nat.le_of_eq rfl) (by decide) (by decide) (by decide) (by decide) rfl ?_
    refine Go.istore 11 #[.val (.int i0), .val (.int i1), .val (.int i2), .val (.int i3), .val (.int (1 : Int32)), .val (.int (own_site i1)), .unset, .unset, .unset, .unset, .unset] at_9 rfl rfl ?_
    refine Go.iload_n 12 at_11 rfl rfl ?_
    refine Go.callSIp [.int i2] [] 15 at_12 (tw0 hw) (tw1 hw) (tw2 hw) (tw3 hw) pl1 (by decide) (lenOf pd1 rfl) rfl (fun m => ef_k_site m i2) _ (k_site hw h hz i2) 0 rfl (Nat.le_of_eq rfl) (by decide) (by decide) (by decide) (by decide) rfl ?_
    refine Go.istore 17 #[.val (.int i0), .val (.int i1), .val (.int i2), .val (.int i3), .val (.int (1 : Int32)), .val (.int (own_site i1)), .val (.int (own_site i2)), .unset, .unset, .unset, .unset] at_15 rfl rfl ?_
    refine Go.iload_n 18 at_17 rfl rfl ?_
    refine Go.callSIp [.int i3] [] 21 at_18 (tw0 hw) (tw1 hw) (tw2 hw) (tw3 hw) pl1 (by decide) (lenOf pd1 rfl) rfl (fun m => ef_k_site m i3) _ (k_site hw h hz i3) 0 rfl (Nat.le_of_eq rfl) (by decide) (by decide) (by decide) (by decide) rfl ?_
    refine Go.istore 23 #[.val (.int i0), .val (.int i1), .val (.int i2), .val (.int i3), .val (.int (1 : Int32)), .val (.int (own_site i1)), .val (.int (own_site i2)), .val (.int (own_site i3)), .unset, .unset, .unset] at_21 rfl rfl ?_
    refine Go.iload 25 at_23 rfl rfl ?_
    refine Go.newIE (cap := 1) (xs := [0]) "[I" 27 at_25 (tw5 hw) rfl (by decide) (by decide) (by decide) (by decide) rfl (by decide) (by decide) rfl (fun a73 h74 q75 E76 A77 Ex78 => ?_)
    have ne79 : r1 ≠ a73 := fun e => absurd fa3.lt (by rw [e, q75]; exact Nat.lt_irrefl _)
    have ne80 : r2 ≠ a73 := fun e => absurd fa5.lt (by rw [e, q75]; exact Nat.lt_irrefl _)
    have ge81 : Z.heap.size ≤ a73 := (Eq.symm q75) ▸ hz
    have f82 : Sta Z h74 "java/lang/String" "COMPACT_STRINGS" "Z" (.int cz) := fa0.ext E76
    have f83 : Str Z h74 "jdk/internal/util/Preconditions" "SIOOBE_FORMATTER" "Ljava/util/function/BiFunction;" := fa1.ext E76
    have f84 : Sta Z h74 "java/lang/Integer" "DigitOnes" "[B" (.ref r1) := fa2.ext E76
    have f85 : Ari Z h74 r1 .byte own_ones := fa3.ext E76
    have f86 : Sta Z h74 "java/lang/Integer" "DigitTens" "[B" (.ref r2) := fa4.ext E76
    have f87 : Ari Z h74 r2 .byte own_tens := fa5.ext E76
    have zs88 : Z.heap.size ≤ h74.size := Nat.le_trans hz E76.1
    refine Go.astore 29 #[.val (.int i0), .val (.int i1), .val (.int i2), .val (.int i3), .val (.int (1 : Int32)), .val (.int (own_site i1)), .val (.int (own_site i2)), .val (.int (own_site i3)), .val (.ref a73), .unset, .unset] at_27 rfl rfl rfl ?_
    refine Go.iload 31 at_29 rfl rfl ?_
    refine Go.iconst 32 (1) at_31 (by decide) rfl ?_
    refine Go.icmp_lt 41 35 at_32 (by decide) (by decide) rfl (fun c => absurd c (by decide)) (fun _ => ?_)
    refine Go.aload 37 at_35 rfl rfl rfl ?_
    refine Go.iconst 38 (0) at_37 (by decide) rfl ?_
    refine Go.iload 40 at_38 rfl rfl ?_
    refine Go.iastore (0) ([(own_site i1)]) 41 at_40 A77 (by decide) (by decide) (by decide : (0 : Nat) < 1) rfl ge81 rfl (fun h90 W91 A92 => ?_)
    have f93 : Sta Z h90 "java/lang/String" "COMPACT_STRINGS" "Z" (.int cz) := f82.wr W91
    have f94 : Str Z h90 "jdk/internal/util/Preconditions" "SIOOBE_FORMATTER" "Ljava/util/function/BiFunction;" := f83.wr W91
    have f95 : Sta Z h90 "java/lang/Integer" "DigitOnes" "[B" (.ref r1) := f84.wr W91
    have f96 : Ari Z h90 r1 .byte own_ones := f85.other W91 ne79
    have f97 : Sta Z h90 "java/lang/Integer" "DigitTens" "[B" (.ref r2) := f86.wr W91
    have f98 : Ari Z h90 r2 .byte own_tens := f87.other W91 ne80
    have f99 : Exa Z h90 a73 "[I" := Ex78.wr W91
    have zs100 : Z.heap.size ≤ h90.size := W91.size ▸ zs88
    refine Go.iload 43 at_41 rfl rfl ?_
    refine Go.iconst 44 (2) at_43 (by decide) rfl ?_
    refine Go.icmp_lt 53 47 at_44 (by decide) (by decide) rfl (fun _ => ?_) (fun c => absurd c (by decide))
    refine Go.iload 55 at_53 rfl rfl ?_
    refine Go.iconst 56 (3) at_55 (by decide) rfl ?_
    refine Go.icmp_lt 65 59 at_56 (by decide) (by decide) rfl (fun _ => ?_) (fun c => absurd c (by decide))
    refine Go.aload 67 at_65 rfl rfl rfl ?_
    refine Go.callSR [.ref a73] [] 70 at_67 (tw6 hw) (tw7 hw) (tw8 hw) (tw9 hw) pl2 (by decide) (lenOf pd2 rfl) rfl (fun m => ef_k_sn1 m a73) _ (k_sn1 hw h90 zs100 a73 A92 f93 f95 f96 f97 f98 (by assumption) (by assumption) (by assumption) hv0) 0 rfl (Nat.le_of_eq rfl) (by decide) (by decide) (by decide) (by decide) rfl ?_
    rintro z103 h104 ⟨a106, a107, rfl, g108, g109, ne110, K105, f111, f112, f113, f114⟩
    have ne115 : r1 ≠ a106 := Nat.ne_of_lt (Nat.lt_of_lt_of_le f96.lt g108)
    have ne116 : r2 ≠ a106 := Nat.ne_of_lt (Nat.lt_of_lt_of_le f98.lt g108)
    have ne117 : a73 ≠ a106 := Nat.ne_of_lt (Nat.lt_of_lt_of_le f99.lt g108)
    have ge118 : Z.heap.size ≤ a106 := Nat.le_trans zs100 g108
    have ne119 : r1 ≠ a107 := Nat.ne_of_lt (Nat.lt_of_lt_of_le f96.lt g109)
    have ne120 : r2 ≠ a107 := Nat.ne_of_lt (Nat.lt_of_lt_of_le f98.lt g109)
    have ne121 : a73 ≠ a107 := Nat.ne_of_lt (Nat.lt_of_lt_of_le f99.lt g109)
    have ge122 : Z.heap.size ≤ a107 := Nat.le_trans zs100 g109
    have f123 : Sta Z h104 "java/lang/String" "COMPACT_STRINGS" "Z" (.int cz) := own_staK f93 K105 all0
    have f124 : Str Z h104 "jdk/internal/util/Preconditions" "SIOOBE_FORMATTER" "Ljava/util/function/BiFunction;" := f94.keepN K105 all0
    have f125 : Sta Z h104 "java/lang/Integer" "DigitOnes" "[B" (.ref r1) := own_staK f95 K105 all0
    have f126 : Ari Z h104 r1 .byte own_ones := f96.keep K105 nin0
    have f127 : Sta Z h104 "java/lang/Integer" "DigitTens" "[B" (.ref r2) := own_staK f97 K105 all0
    have f128 : Ari Z h104 r2 .byte own_tens := f98.keep K105 nin0
    have f129 : Exa Z h104 a73 "[I" := f99.keep K105
    have f130 : Ari Z h104 a73 .int [(own_site i1)] := A92.keep K105 nin0
    have zs131 : Z.heap.size ≤ h104.size := Nat.le_trans zs100 K105.1
    refine Go.astore 72 #[.val (.int i0), .val (.int i1), .val (.int i2), .val (.int i3), .val (.int (1 : Int32)), .val (.int (own_site i1)), .val (.int (own_site i2)), .val (.int (own_site i3)), .val (.ref a73), .val (.ref a106), .unset] at_70 rfl rfl rfl ?_
    refine Go.aload 74 at_72 rfl rfl rfl ?_
    refine Go.ifnonnull_yes 79 at_74 (by decide) (by decide) ?_
    refine Go.iload 81 at_79 rfl rfl ?_
    refine Go.if_ne 90 84 at_81 (by decide) (by decide) rfl (fun _ => ?_) (fun c => absurd c (by decide))
    refine Go.iconst 91 (0) at_90 (by decide) rfl ?_
    refine Go.istore 93 #[.val (.int i0), .val (.int i1), .val (.int i2), .val (.int i3), .val (.int (1 : Int32)), .val (.int (own_site i1)), .val (.int (own_site i2)), .val (.int (own_site i3)), .val (.ref a73), .val (.ref a106), .val (.int (0 : Int32))] at_91 rfl rfl ?_
    refine Go.aload 95 at_93 rfl rfl rfl ?_
    refine Go.iload 97 at_95 rfl rfl ?_
    refine Go.iload 99 at_97 rfl rfl ?_
    refine Go.iconst 100 (1) at_99 (by decide) rfl ?_
    refine Go.iadd 101 at_100 rfl ?_
    refine Go.callSIp [.ref a106, .int (0 : Int32), .int ((own_site i1) + (1 : Int32))] [] 104 at_101 (tw135 hw) (tw136 hw) (tw2 hw) (tw137 hw) pl26 (by decide) (lenOf pd26 rfl) rfl (fun m => ef_k_na m a106 (0 : Int32) ((own_site i1) + (1 : Int32))) _ (k_na (pre := ([] : List Int32)) (post := ([] : List Int32)) hw h104 zs131 a106 (0 : Int32) (((own_site i1) + (1 : Int32))) f111 f112 f113 f114 f123 f124 (by assumption) hv0 (by simp only [List.nil_append, List.append_nil, List.append_assoc]) (own_l0.symm) (by simp only [List.length_append, List.length_cons, List.length_nil, own_declen hv0, own_declen hv1, own_declen hv2]; omega) (by repeat' (first | exact own_asc0 | exact own_asc32 | exact own_ascd _ | apply own_ascA))) 0 rfl (Nat.le_of_eq rfl) (by decide) (by decide) (by decide) (by decide) rfl ?_
    refine Go.if_ne 109 107 at_104 (by decide) (by decide) rfl (fun _ => ?_) (fun c => absurd c (by decide))
    refine Go.iload 111 at_109 rfl rfl ?_
    refine Go.iload 113 at_111 rfl rfl ?_
    refine Go.iconst 114 (1) at_113 (by decide) rfl ?_
    refine Go.iadd 115 at_114 rfl ?_
    refine Go.callSIp [.int ((own_site i1) + (1 : Int32))] [.int (0 : Int32)] 118 at_115 (tw138 hw) (tw139 hw) (tw2 hw) (tw140 hw) pl27 (by decide) (lenOf pd27 rfl) rfl (fun m => ef_k_dg m ((own_site i1) + (1 : Int32))) _ (k_dg hw h104 zs131 (((own_site i1) + (1 : Int32))) hv0) 1 rfl (Nat.le_of_eq rfl) (by decide) (by decide) (by decide) (by decide) rfl ?_
    refine Go.iadd 119 at_118 rfl ?_
    refine Go.nameI (fun v140 e141 => ?_)
    have hp142 : v140 = (List.length (own_dec ((own_site i1) + (1 : Int32)))).toInt32 := e141.trans (own_padd hv0 (own_l0.symm) (by simp only [List.length_append, List.length_cons, List.length_nil, own_declen hv0, own_declen hv1, own_declen hv2]; omega))
    refine Go.istore 121 #[.val (.int i0), .val (.int i1), .val (.int i2), .val (.int i3), .val (.int (1 : Int32)), .val (.int (own_site i1)), .val (.int (own_site i2)), .val (.int (own_site i3)), .val (.ref a73), .val (.ref a106), .val (.int v140)] at_119 rfl rfl ?_
    refine Go.iload 123 at_121 rfl rfl ?_
    refine Go.iconst 124 (2) at_123 (by decide) rfl ?_
    refine Go.icmp_lt 170 127 at_124 (by decide) (by decide) rfl (fun _ => ?_) (fun c => absurd c (by decide))
    refine Go.iload 172 at_170 rfl rfl ?_
    refine Go.iconst 173 (3) at_172 (by decide) rfl ?_
    refine Go.icmp_lt 219 176 at_173 (by decide) (by decide) rfl (fun _ => ?_) (fun c => absurd c (by decide))
    refine Go.aload 221 at_219 rfl rfl rfl ?_
    refine Go.callVIp [] [] 224 at_221 (tw141 hw) (tw142 hw) (tw144 hw) (tw143 hw) (tw26 hw) (tw145 hw) f111 pl28 (by decide) (lenOf pd28 rfl) rfl (fun m => ef_k_slen m a106) _ (k_slen hw h104 zs131 a106 f111 f112 f113 f114 f123 (by assumption)) 0 rfl (Nat.le_of_eq rfl) (by decide) (by decide) (by decide) (by decide) rfl ?_
    refine Go.iload 226 at_224 rfl rfl ?_
    refine Go.icmp_ne 233 229 at_226 (by decide) (by decide) rfl (fun c148 => ?_) (fun c148 => ?_)
    ·
      refine Go.iconst 234 (0) at_233 (by decide) rfl ?_
      refine Go.nreturn (t := .boolean) (z' := (0 : Int32)) at_234 rfl (by simp) (by decide) (by decide) (by decide) ?_
      exact absurd (Eq.symm hp142) c148
    ·
      refine Go.iconst 230 (1) at_229 (by decide) rfl ?_
      refine Go.goto 234 at_230 (by decide) (by decide) ?_
      refine Go.nreturn (t := .boolean) (z' := (1 : Int32)) at_234 rfl (by simp) (by decide) (by decide) (by decide) ?_
      rfl
  ·
    subst hs
    refine Go.istore 5 #[.val (.int i0), .val (.int i1), .val (.int i2), .val (.int i3), .val (.int (2 : Int32)), .unset, .unset, .unset, .unset, .unset, .unset] at_3 rfl rfl ?_
    refine Go.iload_n 6 at_5 rfl rfl ?_
    refine Go.callSIp [.int i1] [] 9 at_6 (tw0 hw) (tw1 hw) (tw2 hw) (tw3 hw) pl1 (by decide) (lenOf pd1 rfl) rfl (fun m => ef_k_site m i1) _ (k_site hw h hz i1) 0 rfl (Nat.le_of_eq rfl) (by decide) (by decide) (by decide) (by decide) rfl ?_
    refine Go.istore 11 #[.val (.int i0), .val (.int i1), .val (.int i2), .val (.int i3), .val (.int (2 : Int32)), .val (.int (own_site i1)), .unset, .unset, .unset, .unset, .unset] at_9 rfl rfl ?_
    refine Go.iload_n 12 at_11 rfl rfl ?_
    refine Go.callSIp [.int i2] [] 15 at_12 (tw0 hw) (tw1 hw) (tw2 hw) (tw3 hw) pl1 (by decide) (lenOf pd1 rfl) rfl (fun m => ef_k_site m i2) _ (k_site hw h hz i2) 0 rfl (Nat.le_of_eq rfl) (by decide) (by decide) (by decide) (by decide) rfl ?_
    refine Go.istore 17 #[.val (.int i0), .val (.int i1), .val (.int i2), .val (.int i3), .val (.int (2 : Int32)), .val (.int (own_site i1)), .val (.int (own_site i2)), .unset, .unset, .unset, .unset] at_15 rfl rfl ?_
    refine Go.iload_n 18 at_17 rfl rfl ?_
    refine Go.callSIp [.int i3] [] 21 at_18 (tw0 hw) (tw1 hw) (tw2 hw) (tw3 hw) pl1 (by decide) (lenOf pd1 rfl) rfl (fun m => ef_k_site m i3) _ (k_site hw h hz i3) 0 rfl (Nat.le_of_eq rfl) (by decide) (by decide) (by decide) (by decide) rfl ?_
    refine Go.istore 23 #[.val (.int i0), .val (.int i1), .val (.int i2), .val (.int i3), .val (.int (2 : Int32)), .val (.int (own_site i1)), .val (.int (own_site i2)), .val (.int (own_site i3)), .unset, .unset, .unset] at_21 rfl rfl ?_
    refine Go.iload 25 at_23 rfl rfl ?_
    refine Go.newIE (cap := 2) (xs := [0, 0]) "[I" 27 at_25 (tw5 hw) rfl (by decide) (by decide) (by decide) (by decide) rfl (by decide) (by decide) rfl (fun a158 h159 q160 E161 A162 Ex163 => ?_)
    have ne164 : r1 ≠ a158 := fun e => absurd fa3.lt (by rw [e, q160]; exact Nat.lt_irrefl _)
    have ne165 : r2 ≠ a158 := fun e => absurd fa5.lt (by rw [e, q160]; exact Nat.lt_irrefl _)
    have ge166 : Z.heap.size ≤ a158 := (Eq.symm q160) ▸ hz
    have f167 : Sta Z h159 "java/lang/String" "COMPACT_STRINGS" "Z" (.int cz) := fa0.ext E161
    have f168 : Str Z h159 "jdk/internal/util/Preconditions" "SIOOBE_FORMATTER" "Ljava/util/function/BiFunction;" := fa1.ext E161
    have f169 : Sta Z h159 "java/lang/Integer" "DigitOnes" "[B" (.ref r1) := fa2.ext E161
    have f170 : Ari Z h159 r1 .byte own_ones := fa3.ext E161
    have f171 : Sta Z h159 "java/lang/Integer" "DigitTens" "[B" (.ref r2) := fa4.ext E161
    have f172 : Ari Z h159 r2 .byte own_tens := fa5.ext E161
    have zs173 : Z.heap.size ≤ h159.size := Nat.le_trans hz E161.1
    refine Go.astore 29 #[.val (.int i0), .val (.int i1), .val (.int i2), .val (.int i3), .val (.int (2 : Int32)), .val (.int (own_site i1)), .val (.int (own_site i2)), .val (.int (own_site i3)), .val (.ref a158), .unset, .unset] at_27 rfl rfl rfl ?_
    refine Go.iload 31 at_29 rfl rfl ?_
    refine Go.iconst 32 (1) at_31 (by decide) rfl ?_
    refine Go.icmp_lt 41 35 at_32 (by decide) (by decide) rfl (fun c => absurd c (by decide)) (fun _ => ?_)
    refine Go.aload 37 at_35 rfl rfl rfl ?_
    refine Go.iconst 38 (0) at_37 (by decide) rfl ?_
    refine Go.iload 40 at_38 rfl rfl ?_
    refine Go.iastore (0) ([(own_site i1), 0]) 41 at_40 A162 (by decide) (by decide) (by decide : (0 : Nat) < 2) rfl ge166 rfl (fun h175 W176 A177 => ?_)
    have f178 : Sta Z h175 "java/lang/String" "COMPACT_STRINGS" "Z" (.int cz) := f167.wr W176
    have f179 : Str Z h175 "jdk/internal/util/Preconditions" "SIOOBE_FORMATTER" "Ljava/util/function/BiFunction;" := f168.wr W176
    have f180 : Sta Z h175 "java/lang/Integer" "DigitOnes" "[B" (.ref r1) := f169.wr W176
    have f181 : Ari Z h175 r1 .byte own_ones := f170.other W176 ne164
    have f182 : Sta Z h175 "java/lang/Integer" "DigitTens" "[B" (.ref r2) := f171.wr W176
    have f183 : Ari Z h175 r2 .byte own_tens := f172.other W176 ne165
    have f184 : Exa Z h175 a158 "[I" := Ex163.wr W176
    have zs185 : Z.heap.size ≤ h175.size := W176.size ▸ zs173
    refine Go.iload 43 at_41 rfl rfl ?_
    refine Go.iconst 44 (2) at_43 (by decide) rfl ?_
    refine Go.icmp_lt 53 47 at_44 (by decide) (by decide) rfl (fun c => absurd c (by decide)) (fun _ => ?_)
    refine Go.aload 49 at_47 rfl rfl rfl ?_
    refine Go.iconst 50 (1) at_49 (by decide) rfl ?_
    refine Go.iload 52 at_50 rfl rfl ?_
    refine Go.iastore (1) ([(own_site i1), (own_site i2)]) 53 at_52 A177 (by decide) (by decide) (by decide : (1 : Nat) < 2) rfl ge166 rfl (fun h187 W188 A189 => ?_)
    have f190 : Sta Z h187 "java/lang/String" "COMPACT_STRINGS" "Z" (.int cz) := f178.wr W188
    have f191 : Str Z h187 "jdk/internal/util/Preconditions" "SIOOBE_FORMATTER" "Ljava/util/function/BiFunction;" := f179.wr W188
    have f192 : Sta Z h187 "java/lang/Integer" "DigitOnes" "[B" (.ref r1) := f180.wr W188
    have f193 : Ari Z h187 r1 .byte own_ones := f181.other W188 ne164
    have f194 : Sta Z h187 "java/lang/Integer" "DigitTens" "[B" (.ref r2) := f182.wr W188
    have f195 : Ari Z h187 r2 .byte own_tens := f183.other W188 ne165
    have f196 : Exa Z h187 a158 "[I" := f184.wr W188
    have zs197 : Z.heap.size ≤ h187.size := W188.size ▸ zs185
    refine Go.iload 55 at_53 rfl rfl ?_
    refine Go.iconst 56 (3) at_55 (by decide) rfl ?_
    refine Go.icmp_lt 65 59 at_56 (by decide) (by decide) rfl (fun _ => ?_) (fun c => absurd c (by decide))
    refine Go.aload 67 at_65 rfl rfl rfl ?_
    refine Go.callSR [.ref a158] [] 70 at_67 (tw6 hw) (tw7 hw) (tw8 hw) (tw9 hw) pl2 (by decide) (lenOf pd2 rfl) rfl (fun m => ef_k_sn2 m a158) _ (k_sn2 hw h187 zs197 a158 A189 f190 f192 f193 f194 f195 (by assumption) (by assumption) (by assumption) hv0 hv1) 0 rfl (Nat.le_of_eq rfl) (by decide) (by decide) (by decide) (by decide) rfl ?_
    rintro z199 h200 ⟨a202, a203, rfl, g204, g205, ne206, K201, f207, f208, f209, f210⟩
    have ne211 : r1 ≠ a202 := Nat.ne_of_lt (Nat.lt_of_lt_of_le f193.lt g204)
    have ne212 : r2 ≠ a202 := Nat.ne_of_lt (Nat.lt_of_lt_of_le f195.lt g204)
    have ne213 : a158 ≠ a202 := Nat.ne_of_lt (Nat.lt_of_lt_of_le f196.lt g204)
    have ge214 : Z.heap.size ≤ a202 := Nat.le_trans zs197 g204
    have ne215 : r1 ≠ a203 := Nat.ne_of_lt (Nat.lt_of_lt_of_le f193.lt g205)
    have ne216 : r2 ≠ a203 := Nat.ne_of_lt (Nat.lt_of_lt_of_le f195.lt g205)
    have ne217 : a158 ≠ a203 := Nat.ne_of_lt (Nat.lt_of_lt_of_le f196.lt g205)
    have ge218 : Z.heap.size ≤ a203 := Nat.le_trans zs197 g205
    have f219 : Sta Z h200 "java/lang/String" "COMPACT_STRINGS" "Z" (.int cz) := own_staK f190 K201 all0
    have f220 : Str Z h200 "jdk/internal/util/Preconditions" "SIOOBE_FORMATTER" "Ljava/util/function/BiFunction;" := f191.keepN K201 all0
    have f221 : Sta Z h200 "java/lang/Integer" "DigitOnes" "[B" (.ref r1) := own_staK f192 K201 all0
    have f222 : Ari Z h200 r1 .byte own_ones := f193.keep K201 nin0
    have f223 : Sta Z h200 "java/lang/Integer" "DigitTens" "[B" (.ref r2) := own_staK f194 K201 all0
    have f224 : Ari Z h200 r2 .byte own_tens := f195.keep K201 nin0
    have f225 : Exa Z h200 a158 "[I" := f196.keep K201
    have f226 : Ari Z h200 a158 .int [(own_site i1), (own_site i2)] := A189.keep K201 nin0
    have zs227 : Z.heap.size ≤ h200.size := Nat.le_trans zs197 K201.1
    refine Go.astore 72 #[.val (.int i0), .val (.int i1), .val (.int i2), .val (.int i3), .val (.int (2 : Int32)), .val (.int (own_site i1)), .val (.int (own_site i2)), .val (.int (own_site i3)), .val (.ref a158), .val (.ref a202), .unset] at_70 rfl rfl rfl ?_
    refine Go.aload 74 at_72 rfl rfl rfl ?_
    refine Go.ifnonnull_yes 79 at_74 (by decide) (by decide) ?_
    refine Go.iload 81 at_79 rfl rfl ?_
    refine Go.if_ne 90 84 at_81 (by decide) (by decide) rfl (fun _ => ?_) (fun c => absurd c (by decide))
    refine Go.iconst 91 (0) at_90 (by decide) rfl ?_
    refine Go.istore 93 #[.val (.int i0), .val (.int i1), .val (.int i2), .val (.int i3), .val (.int (2 : Int32)), .val (.int (own_site i1)), .val (.int (own_site i2)), .val (.int (own_site i3)), .val (.ref a158), .val (.ref a202), .val (.int (0 : Int32))] at_91 rfl rfl ?_
    refine Go.aload 95 at_93 rfl rfl rfl ?_
    refine Go.iload 97 at_95 rfl rfl ?_
    refine Go.iload 99 at_97 rfl rfl ?_
    refine Go.iconst 100 (1) at_99 (by decide) rfl ?_
    refine Go.iadd 101 at_100 rfl ?_
    refine Go.callSIp [.ref a202, .int (0 : Int32), .int ((own_site i1) + (1 : Int32))] [] 104 at_101 (tw135 hw) (tw136 hw) (tw2 hw) (tw137 hw) pl26 (by decide) (lenOf pd26 rfl) rfl (fun m => ef_k_na m a202 (0 : Int32) ((own_site i1) + (1 : Int32))) _ (k_na (pre := ([] : List Int32)) (post := ([(32 : Int32)] ++ own_dec ((own_site i2) + (1 : Int32)))) hw h200 zs227 a202 (0 : Int32) (((own_site i1) + (1 : Int32))) f207 f208 f209 f210 f219 f220 (by assumption) hv0 (by simp only [List.nil_append, List.append_nil, List.append_assoc]) (own_l0.symm) (by simp only [List.length_append, List.length_cons, List.length_nil, own_declen hv0, own_declen hv1, own_declen hv2]; omega) (by repeat' (first | exact own_asc0 | exact own_asc32 | exact own_ascd _ | apply own_ascA))) 0 rfl (Nat.le_of_eq rfl) (by decide) (by decide) (by decide) (by decide) rfl ?_
    refine Go.if_ne 109 107 at_104 (by decide) (by decide) rfl (fun _ => ?_) (fun c => absurd c (by decide))
    refine Go.iload 111 at_109 rfl rfl ?_
    refine Go.iload 113 at_111 rfl rfl ?_
    refine Go.iconst 114 (1) at_113 (by decide) rfl ?_
    refine Go.iadd 115 at_114 rfl ?_
    refine Go.callSIp [.int ((own_site i1) + (1 : Int32))] [.int (0 : Int32)] 118 at_115 (tw138 hw) (tw139 hw) (tw2 hw) (tw140 hw) pl27 (by decide) (lenOf pd27 rfl) rfl (fun m => ef_k_dg m ((own_site i1) + (1 : Int32))) _ (k_dg hw h200 zs227 (((own_site i1) + (1 : Int32))) hv0) 1 rfl (Nat.le_of_eq rfl) (by decide) (by decide) (by decide) (by decide) rfl ?_
    refine Go.iadd 119 at_118 rfl ?_
    refine Go.nameI (fun v236 e237 => ?_)
    have hp238 : v236 = (List.length (own_dec ((own_site i1) + (1 : Int32)))).toInt32 := e237.trans (own_padd hv0 (own_l0.symm) (by simp only [List.length_append, List.length_cons, List.length_nil, own_declen hv0, own_declen hv1, own_declen hv2]; omega))
    refine Go.istore 121 #[.val (.int i0), .val (.int i1), .val (.int i2), .val (.int i3), .val (.int (2 : Int32)), .val (.int (own_site i1)), .val (.int (own_site i2)), .val (.int (own_site i3)), .val (.ref a158), .val (.ref a202), .val (.int v236)] at_119 rfl rfl ?_
    refine Go.iload 123 at_121 rfl rfl ?_
    refine Go.iconst 124 (2) at_123 (by decide) rfl ?_
    refine Go.icmp_lt 170 127 at_124 (by decide) (by decide) rfl (fun c => absurd c (by decide)) (fun _ => ?_)
    refine Go.aload 129 at_127 rfl rfl rfl ?_
    refine Go.iload 131 at_129 rfl rfl ?_
    refine Go.callSIp [.ref a202, .int v236] [] 134 at_131 (tw181 hw) (tw182 hw) (tw2 hw) (tw183 hw) pl36 (by decide) (lenOf pd36 rfl) rfl (fun m => ef_k_ba m a202 v236) _ (k_ba (pre := (own_dec ((own_site i1) + (1 : Int32)))) (post := (own_dec ((own_site i2) + (1 : Int32)))) hw h200 zs227 a202 v236 f207 f208 f209 f210 f219 f220 (by assumption) (by simp only [List.nil_append, List.append_nil, List.append_assoc]) (hp238) (by simp only [List.length_append, List.length_cons, List.length_nil, own_declen hv0, own_declen hv1, own_declen hv2]; omega) (by repeat' (first | exact own_asc0 | exact own_asc32 | exact own_ascd _ | apply own_ascA))) 0 rfl (Nat.le_of_eq rfl) (by decide) (by decide) (by decide) (by decide) rfl ?_
    refine Go.if_ne 139 137 at_134 (by decide) (by decide) rfl (fun _ => ?_) (fun c => absurd c (by decide))
    refine Go.iinc 142 (1) #[.val (.int i0), .val (.int i1), .val (.int i2), .val (.int i3), .val (.int (2 : Int32)), .val (.int (own_site i1)), .val (.int (own_site i2)), .val (.int (own_site i3)), .val (.ref a158), .val (.ref a202), .val (.int (v236 + (1 : Int32)))] at_139 (by decide) rfl rfl rfl ?_
    have hp244 : (v236 + (1 : Int32)) = (List.length (own_dec ((own_site i1) + (1 : Int32)) ++ [(32 : Int32)])).toInt32 := own_pinc (hp238) (by simp only [List.length_append, List.length_cons, List.length_nil, own_declen hv0, own_declen hv1, own_declen hv2]; omega)
    refine Go.aload 144 at_142 rfl rfl rfl ?_
    refine Go.iload 146 at_144 rfl rfl ?_
    refine Go.iload 148 at_146 rfl rfl ?_
    refine Go.iconst 149 (1) at_148 (by decide) rfl ?_
    refine Go.iadd 150 at_149 rfl ?_
    refine Go.callSIp [.ref a202, .int (v236 + (1 : Int32)), .int ((own_site i2) + (1 : Int32))] [] 153 at_150 (tw135 hw) (tw136 hw) (tw2 hw) (tw137 hw) pl26 (by decide) (lenOf pd26 rfl) rfl (fun m => ef_k_na m a202 (v236 + (1 : Int32)) ((own_site i2) + (1 : Int32))) _ (k_na (pre := (own_dec ((own_site i1) + (1 : Int32)) ++ [(32 : Int32)])) (post := ([] : List Int32)) hw h200 zs227 a202 ((v236 + (1 : Int32))) (((own_site i2) + (1 : Int32))) f207 f208 f209 f210 f219 f220 (by assumption) hv1 (by simp only [List.nil_append, List.append_nil, List.append_assoc]) (hp244) (by simp only [List.length_append, List.length_cons, List.length_nil, own_declen hv0, own_declen hv1, own_declen hv2]; omega) (by repeat' (first | exact own_asc0 | exact own_asc32 | exact own_ascd _ | apply own_ascA))) 0 rfl (Nat.le_of_eq rfl) (by decide) (by decide) (by decide) (by decide) rfl ?_
    refine Go.if_ne 158 156 at_153 (by decide) (by decide) rfl (fun _ => ?_) (fun c => absurd c (by decide))
    refine Go.iload 160 at_158 rfl rfl ?_
    refine Go.iload 162 at_160 rfl rfl ?_
    refine Go.iconst 163 (1) at_162 (by decide) rfl ?_
    refine Go.iadd 164 at_163 rfl ?_
    refine Go.callSIp [.int ((own_site i2) + (1 : Int32))] [.int (v236 + (1 : Int32))] 167 at_164 (tw138 hw) (tw139 hw) (tw2 hw) (tw140 hw) pl27 (by decide) (lenOf pd27 rfl) rfl (fun m => ef_k_dg m ((own_site i2) + (1 : Int32))) _ (k_dg hw h200 zs227 (((own_site i2) + (1 : Int32))) hv1) 1 rfl (Nat.le_of_eq rfl) (by decide) (by decide) (by decide) (by decide) rfl ?_
    refine Go.iadd 168 at_167 rfl ?_
    refine Go.nameI (fun v252 e253 => ?_)
    have hp254 : v252 = (List.length (((own_dec ((own_site i1) + (1 : Int32)) ++ [(32 : Int32)]) ++ own_dec ((own_site i2) + (1 : Int32))))).toInt32 := e253.trans (own_padd hv1 (hp244) (by simp only [List.length_append, List.length_cons, List.length_nil, own_declen hv0, own_declen hv1, own_declen hv2]; omega))
    refine Go.istore 170 #[.val (.int i0), .val (.int i1), .val (.int i2), .val (.int i3), .val (.int (2 : Int32)), .val (.int (own_site i1)), .val (.int (own_site i2)), .val (.int (own_site i3)), .val (.ref a158), .val (.ref a202), .val (.int v252)] at_168 rfl rfl ?_
    refine Go.iload 172 at_170 rfl rfl ?_
    refine Go.iconst 173 (3) at_172 (by decide) rfl ?_
    refine Go.icmp_lt 219 176 at_173 (by decide) (by decide) rfl (fun _ => ?_) (fun c => absurd c (by decide))
    refine Go.aload 221 at_219 rfl rfl rfl ?_
    refine Go.callVIp [] [] 224 at_221 (tw141 hw) (tw142 hw) (tw144 hw) (tw143 hw) (tw26 hw) (tw145 hw) f207 pl28 (by decide) (lenOf pd28 rfl) rfl (fun m => ef_k_slen m a202) _ (k_slen hw h200 zs227 a202 f207 f208 f209 f210 f219 (by assumption)) 0 rfl (Nat.le_of_eq rfl) (by decide) (by decide) (by decide) (by decide) rfl ?_
    refine Go.iload 226 at_224 rfl rfl ?_
    refine Go.icmp_ne 233 229 at_226 (by decide) (by decide) rfl (fun c259 => ?_) (fun c259 => ?_)
    ·
      refine Go.iconst 234 (0) at_233 (by decide) rfl ?_
      refine Go.nreturn (t := .boolean) (z' := (0 : Int32)) at_234 rfl (by simp) (by decide) (by decide) (by decide) ?_
      exact absurd (Eq.symm hp254) c259
    ·
      refine Go.iconst 230 (1) at_229 (by decide) rfl ?_
      refine Go.goto 234 at_230 (by decide) (by decide) ?_
      refine Go.nreturn (t := .boolean) (z' := (1 : Int32)) at_234 rfl (by simp) (by decide) (by decide) (by decide) ?_
      rfl
  ·
    subst hs
    refine Go.istore 5 #[.val (.int i0), .val (.int i1), .val (.int i2), .val (.int i3), .val (.int (3 : Int32)), .unset, .unset, .unset, .unset, .unset, .unset] at_3 rfl rfl ?_
    refine Go.iload_n 6 at_5 rfl rfl ?_
    refine Go.callSIp [.int i1] [] 9 at_6 (tw0 hw) (tw1 hw) (tw2 hw) (tw3 hw) pl1 (by decide) (lenOf pd1 rfl) rfl (fun m => ef_k_site m i1) _ (k_site hw h hz i1) 0 rfl (Nat.le_of_eq rfl) (by decide) (by decide) (by decide) (by decide) rfl ?_
    refine Go.istore 11 #[.val (.int i0), .val (.int i1), .val (.int i2), .val (.int i3), .val (.int (3 : Int32)), .val (.int (own_site i1)), .unset, .unset, .unset, .unset, .unset] at_9 rfl rfl ?_
    refine Go.iload_n 12 at_11 rfl rfl ?_
    refine Go.callSIp [.int i2] [] 15 at_12 (tw0 hw) (tw1 hw) (tw2 hw) (tw3 hw) pl1 (by decide) (lenOf pd1 rfl) rfl (fun m => ef_k_site m i2) _ (k_site hw h hz i2) 0 rfl (Nat.le_of_eq rfl) (by decide) (by decide) (by decide) (by decide) rfl ?_
    refine Go.istore 17 #[.val (.int i0), .val (.int i1), .val (.int i2), .val (.int i3), .val (.int (3 : Int32)), .val (.int (own_site i1)), .val (.int (own_site i2)), .unset, .unset, .unset, .unset] at_15 rfl rfl ?_
    refine Go.iload_n 18 at_17 rfl rfl ?_
    refine Go.callSIp [.int i3] [] 21 at_18 (tw0 hw) (tw1 hw) (tw2 hw) (tw3 hw) pl1 (by decide) (lenOf pd1 rfl) rfl (fun m => ef_k_site m i3) _ (k_site hw h hz i3) 0 rfl (Nat.le_of_eq rfl) (by decide) (by decide) (by decide) (by decide) rfl ?_
    refine Go.istore 23 #[.val (.int i0), .val (.int i1), .val (.int i2), .val (.int i3), .val (.int (3 : Int32)), .val (.int (own_site i1)), .val (.int (own_site i2)), .val (.int (own_site i3)), .unset, .unset, .unset] at_21 rfl rfl ?_
    refine Go.iload 25 at_23 rfl rfl ?_
    refine Go.newIE (cap := 3) (xs := [0, 0, 0]) "[I" 27 at_25 (tw5 hw) rfl (by decide) (by decide) (by decide) (by decide) rfl (by decide) (by decide) rfl (fun a269 h270 q271 E272 A273 Ex274 => ?_)
    have ne275 : r1 ≠ a269 := fun e => absurd fa3.lt (by rw [e, q271]; exact Nat.lt_irrefl _)
    have ne276 : r2 ≠ a269 := fun e => absurd fa5.lt (by rw [e, q271]; exact Nat.lt_irrefl _)
    have ge277 : Z.heap.size ≤ a269 := (Eq.symm q271) ▸ hz
    have f278 : Sta Z h270 "java/lang/String" "COMPACT_STRINGS" "Z" (.int cz) := fa0.ext E272
    have f279 : Str Z h270 "jdk/internal/util/Preconditions" "SIOOBE_FORMATTER" "Ljava/util/function/BiFunction;" := fa1.ext E272
    have f280 : Sta Z h270 "java/lang/Integer" "DigitOnes" "[B" (.ref r1) := fa2.ext E272
    have f281 : Ari Z h270 r1 .byte own_ones := fa3.ext E272
    have f282 : Sta Z h270 "java/lang/Integer" "DigitTens" "[B" (.ref r2) := fa4.ext E272
    have f283 : Ari Z h270 r2 .byte own_tens := fa5.ext E272
    have zs284 : Z.heap.size ≤ h270.size := Nat.le_trans hz E272.1
    refine Go.astore 29 #[.val (.int i0), .val (.int i1), .val (.int i2), .val (.int i3), .val (.int (3 : Int32)), .val (.int (own_site i1)), .val (.int (own_site i2)), .val (.int (own_site i3)), .val (.ref a269), .unset, .unset] at_27 rfl rfl rfl ?_
    refine Go.iload 31 at_29 rfl rfl ?_
    refine Go.iconst 32 (1) at_31 (by decide) rfl ?_
    refine Go.icmp_lt 41 35 at_32 (by decide) (by decide) rfl (fun c => absurd c (by decide)) (fun _ => ?_)
    refine Go.aload 37 at_35 rfl rfl rfl ?_
    refine Go.iconst 38 (0) at_37 (by decide) rfl ?_
    refine Go.iload 40 at_38 rfl rfl ?_
    refine Go.iastore (0) ([(own_site i1), 0, 0]) 41 at_40 A273 (by decide) (by decide) (by decide : (0 : Nat) < 3) rfl ge277 rfl (fun h286 W287 A288 => ?_)
    have f289 : Sta Z h286 "java/lang/String" "COMPACT_STRINGS" "Z" (.int cz) := f278.wr W287
    have f290 : Str Z h286 "jdk/internal/util/Preconditions" "SIOOBE_FORMATTER" "Ljava/util/function/BiFunction;" := f279.wr W287
    have f291 : Sta Z h286 "java/lang/Integer" "DigitOnes" "[B" (.ref r1) := f280.wr W287
    have f292 : Ari Z h286 r1 .byte own_ones := f281.other W287 ne275
    have f293 : Sta Z h286 "java/lang/Integer" "DigitTens" "[B" (.ref r2) := f282.wr W287
    have f294 : Ari Z h286 r2 .byte own_tens := f283.other W287 ne276
    have f295 : Exa Z h286 a269 "[I" := Ex274.wr W287
    have zs296 : Z.heap.size ≤ h286.size := W287.size ▸ zs284
    refine Go.iload 43 at_41 rfl rfl ?_
    refine Go.iconst 44 (2) at_43 (by decide) rfl ?_
    refine Go.icmp_lt 53 47 at_44 (by decide) (by decide) rfl (fun c => absurd c (by decide)) (fun _ => ?_)
    refine Go.aload 49 at_47 rfl rfl rfl ?_
    refine Go.iconst 50 (1) at_49 (by decide) rfl ?_
    refine Go.iload 52 at_50 rfl rfl ?_
    refine Go.iastore (1) ([(own_site i1), (own_site i2), 0]) 53 at_52 A288 (by decide) (by decide) (by decide : (1 : Nat) < 3) rfl ge277 rfl (fun h298 W299 A300 => ?_)
    have f301 : Sta Z h298 "java/lang/String" "COMPACT_STRINGS" "Z" (.int cz) := f289.wr W299
    have f302 : Str Z h298 "jdk/internal/util/Preconditions" "SIOOBE_FORMATTER" "Ljava/util/function/BiFunction;" := f290.wr W299
    have f303 : Sta Z h298 "java/lang/Integer" "DigitOnes" "[B" (.ref r1) := f291.wr W299
    have f304 : Ari Z h298 r1 .byte own_ones := f292.other W299 ne275
    have f305 : Sta Z h298 "java/lang/Integer" "DigitTens" "[B" (.ref r2) := f293.wr W299
    have f306 : Ari Z h298 r2 .byte own_tens := f294.other W299 ne276
    have f307 : Exa Z h298 a269 "[I" := f295.wr W299
    have zs308 : Z.heap.size ≤ h298.size := W299.size ▸ zs296
    refine Go.iload 55 at_53 rfl rfl ?_
    refine Go.iconst 56 (3) at_55 (by decide) rfl ?_
    refine Go.icmp_lt 65 59 at_56 (by decide) (by decide) rfl (fun c => absurd c (by decide)) (fun _ => ?_)
    refine Go.aload 61 at_59 rfl rfl rfl ?_
    refine Go.iconst 62 (2) at_61 (by decide) rfl ?_
    refine Go.iload 64 at_62 rfl rfl ?_
    refine Go.iastore (2) ([(own_site i1), (own_site i2), (own_site i3)]) 65 at_64 A300 (by decide) (by decide) (by decide : (2 : Nat) < 3) rfl ge277 rfl (fun h310 W311 A312 => ?_)
    have f313 : Sta Z h310 "java/lang/String" "COMPACT_STRINGS" "Z" (.int cz) := f301.wr W311
    have f314 : Str Z h310 "jdk/internal/util/Preconditions" "SIOOBE_FORMATTER" "Ljava/util/function/BiFunction;" := f302.wr W311
    have f315 : Sta Z h310 "java/lang/Integer" "DigitOnes" "[B" (.ref r1) := f303.wr W311
    have f316 : Ari Z h310 r1 .byte own_ones := f304.other W311 ne275
    have f317 : Sta Z h310 "java/lang/Integer" "DigitTens" "[B" (.ref r2) := f305.wr W311
    have f318 : Ari Z h310 r2 .byte own_tens := f306.other W311 ne276
    have f319 : Exa Z h310 a269 "[I" := f307.wr W311
    have zs320 : Z.heap.size ≤ h310.size := W311.size ▸ zs308
    refine Go.aload 67 at_65 rfl rfl rfl ?_
    refine Go.callSR [.ref a269] [] 70 at_67 (tw6 hw) (tw7 hw) (tw8 hw) (tw9 hw) pl2 (by decide) (lenOf pd2 rfl) rfl (fun m => ef_k_sn3 m a269) _ (k_sn3 hw h310 zs320 a269 A312 f313 f315 f316 f317 f318 (by assumption) (by assumption) (by assumption) hv0 hv1 hv2) 0 rfl (Nat.le_of_eq rfl) (by decide) (by decide) (by decide) (by decide) rfl ?_
    rintro z321 h322 ⟨a324, a325, rfl, g326, g327, ne328, K323, f329, f330, f331, f332⟩
    have ne333 : r1 ≠ a324 := Nat.ne_of_lt (Nat.lt_of_lt_of_le f316.lt g326)
    have ne334 : r2 ≠ a324 := Nat.ne_of_lt (Nat.lt_of_lt_of_le f318.lt g326)
    have ne335 : a269 ≠ a324 := Nat.ne_of_lt (Nat.lt_of_lt_of_le f319.lt g326)
    have ge336 : Z.heap.size ≤ a324 := Nat.le_trans zs320 g326
    have ne337 : r1 ≠ a325 := Nat.ne_of_lt (Nat.lt_of_lt_of_le f316.lt g327)
    have ne338 : r2 ≠ a325 := Nat.ne_of_lt (Nat.lt_of_lt_of_le f318.lt g327)
    have ne339 : a269 ≠ a325 := Nat.ne_of_lt (Nat.lt_of_lt_of_le f319.lt g327)
    have ge340 : Z.heap.size ≤ a325 := Nat.le_trans zs320 g327
    have f341 : Sta Z h322 "java/lang/String" "COMPACT_STRINGS" "Z" (.int cz) := own_staK f313 K323 all0
    have f342 : Str Z h322 "jdk/internal/util/Preconditions" "SIOOBE_FORMATTER" "Ljava/util/function/BiFunction;" := f314.keepN K323 all0
    have f343 : Sta Z h322 "java/lang/Integer" "DigitOnes" "[B" (.ref r1) := own_staK f315 K323 all0
    have f344 : Ari Z h322 r1 .byte own_ones := f316.keep K323 nin0
    have f345 : Sta Z h322 "java/lang/Integer" "DigitTens" "[B" (.ref r2) := own_staK f317 K323 all0
    have f346 : Ari Z h322 r2 .byte own_tens := f318.keep K323 nin0
    have f347 : Exa Z h322 a269 "[I" := f319.keep K323
    have f348 : Ari Z h322 a269 .int [(own_site i1), (own_site i2), (own_site i3)] := A312.keep K323 nin0
    have zs349 : Z.heap.size ≤ h322.size := Nat.le_trans zs320 K323.1
    refine Go.astore 72 #[.val (.int i0), .val (.int i1), .val (.int i2), .val (.int i3), .val (.int (3 : Int32)), .val (.int (own_site i1)), .val (.int (own_site i2)), .val (.int (own_site i3)), .val (.ref a269), .val (.ref a324), .unset] at_70 rfl rfl rfl ?_
    refine Go.aload 74 at_72 rfl rfl rfl ?_
    refine Go.ifnonnull_yes 79 at_74 (by decide) (by decide) ?_
    refine Go.iload 81 at_79 rfl rfl ?_
    refine Go.if_ne 90 84 at_81 (by decide) (by decide) rfl (fun _ => ?_) (fun c => absurd c (by decide))
    refine Go.iconst 91 (0) at_90 (by decide) rfl ?_
    refine Go.istore 93 #[.val (.int i0), .val (.int i1), .val (.int i2), .val (.int i3), .val (.int (3 : Int32)), .val (.int (own_site i1)), .val (.int (own_site i2)), .val (.int (own_site i3)), .val (.ref a269), .val (.ref a324), .val (.int (0 : Int32))] at_91 rfl rfl ?_
    refine Go.aload 95 at_93 rfl rfl rfl ?_
    refine Go.iload 97 at_95 rfl rfl ?_
    refine Go.iload 99 at_97 rfl rfl ?_
    refine Go.iconst 100 (1) at_99 (by decide) rfl ?_
    refine Go.iadd 101 at_100 rfl ?_
    refine Go.callSIp [.ref a324, .int (0 : Int32), .int ((own_site i1) + (1 : Int32))] [] 104 at_101 (tw135 hw) (tw136 hw) (tw2 hw) (tw137 hw) pl26 (by decide) (lenOf pd26 rfl) rfl (fun m => ef_k_na m a324 (0 : Int32) ((own_site i1) + (1 : Int32))) _ (k_na (pre := ([] : List Int32)) (post := ([(32 : Int32)] ++ own_dec ((own_site i2) + (1 : Int32)) ++ [(32 : Int32)] ++ own_dec ((own_site i3) + (1 : Int32)))) hw h322 zs349 a324 (0 : Int32) (((own_site i1) + (1 : Int32))) f329 f330 f331 f332 f341 f342 (by assumption) hv0 (by simp only [List.nil_append, List.append_nil, List.append_assoc]) (own_l0.symm) (by simp only [List.length_append, List.length_cons, List.length_nil, own_declen hv0, own_declen hv1, own_declen hv2]; omega) (by repeat' (first | exact own_asc0 | exact own_asc32 | exact own_ascd _ | apply own_ascA))) 0 rfl (Nat.le_of_eq rfl) (by decide) (by decide) (by decide) (by decide) rfl ?_
    refine Go.if_ne 109 107 at_104 (by decide) (by decide) rfl (fun _ => ?_) (fun c => absurd c (by decide))
    refine Go.iload 111 at_109 rfl rfl ?_
    refine Go.iload 113 at_111 rfl rfl ?_
    refine Go.iconst 114 (1) at_113 (by decide) rfl ?_
    refine Go.iadd 115 at_114 rfl ?_
    refine Go.callSIp [.int ((own_site i1) + (1 : Int32))] [.int (0 : Int32)] 118 at_115 (tw138 hw) (tw139 hw) (tw2 hw) (tw140 hw) pl27 (by decide) (lenOf pd27 rfl) rfl (fun m => ef_k_dg m ((own_site i1) + (1 : Int32))) _ (k_dg hw h322 zs349 (((own_site i1) + (1 : Int32))) hv0) 1 rfl (Nat.le_of_eq rfl) (by decide) (by decide) (by decide) (by decide) rfl ?_
    refine Go.iadd 119 at_118 rfl ?_
    refine Go.nameI (fun v358 e359 => ?_)
    have hp360 : v358 = (List.length (own_dec ((own_site i1) + (1 : Int32)))).toInt32 := e359.trans (own_padd hv0 (own_l0.symm) (by simp only [List.length_append, List.length_cons, List.length_nil, own_declen hv0, own_declen hv1, own_declen hv2]; omega))
    refine Go.istore 121 #[.val (.int i0), .val (.int i1), .val (.int i2), .val (.int i3), .val (.int (3 : Int32)), .val (.int (own_site i1)), .val (.int (own_site i2)), .val (.int (own_site i3)), .val (.ref a269), .val (.ref a324), .val (.int v358)] at_119 rfl rfl ?_
    refine Go.iload 123 at_121 rfl rfl ?_
    refine Go.iconst 124 (2) at_123 (by decide) rfl ?_
    refine Go.icmp_lt 170 127 at_124 (by decide) (by decide) rfl (fun c => absurd c (by decide)) (fun _ => ?_)
    refine Go.aload 129 at_127 rfl rfl rfl ?_
    refine Go.iload 131 at_129 rfl rfl ?_
    refine Go.callSIp [.ref a324, .int v358] [] 134 at_131 (tw181 hw) (tw182 hw) (tw2 hw) (tw183 hw) pl36 (by decide) (lenOf pd36 rfl) rfl (fun m => ef_k_ba m a324 v358) _ (k_ba (pre := (own_dec ((own_site i1) + (1 : Int32)))) (post := (own_dec ((own_site i2) + (1 : Int32)) ++ [(32 : Int32)] ++ own_dec ((own_site i3) + (1 : Int32)))) hw h322 zs349 a324 v358 f329 f330 f331 f332 f341 f342 (by assumption) (by simp only [List.nil_append, List.append_nil, List.append_assoc]) (hp360) (by simp only [List.length_append, List.length_cons, List.length_nil, own_declen hv0, own_declen hv1, own_declen hv2]; omega) (by repeat' (first | exact own_asc0 | exact own_asc32 | exact own_ascd _ | apply own_ascA))) 0 rfl (Nat.le_of_eq rfl) (by decide) (by decide) (by decide) (by decide) rfl ?_
    refine Go.if_ne 139 137 at_134 (by decide) (by decide) rfl (fun _ => ?_) (fun c => absurd c (by decide))
    refine Go.iinc 142 (1) #[.val (.int i0), .val (.int i1), .val (.int i2), .val (.int i3), .val (.int (3 : Int32)), .val (.int (own_site i1)), .val (.int (own_site i2)), .val (.int (own_site i3)), .val (.ref a269), .val (.ref a324), .val (.int (v358 + (1 : Int32)))] at_139 (by decide) rfl rfl rfl ?_
    have hp366 : (v358 + (1 : Int32)) = (List.length (own_dec ((own_site i1) + (1 : Int32)) ++ [(32 : Int32)])).toInt32 := own_pinc (hp360) (by simp only [List.length_append, List.length_cons, List.length_nil, own_declen hv0, own_declen hv1, own_declen hv2]; omega)
    refine Go.aload 144 at_142 rfl rfl rfl ?_
    refine Go.iload 146 at_144 rfl rfl ?_
    refine Go.iload 148 at_146 rfl rfl ?_
    refine Go.iconst 149 (1) at_148 (by decide) rfl ?_
    refine Go.iadd 150 at_149 rfl ?_
    refine Go.callSIp [.ref a324, .int (v358 + (1 : Int32)), .int ((own_site i2) + (1 : Int32))] [] 153 at_150 (tw135 hw) (tw136 hw) (tw2 hw) (tw137 hw) pl26 (by decide) (lenOf pd26 rfl) rfl (fun m => ef_k_na m a324 (v358 + (1 : Int32)) ((own_site i2) + (1 : Int32))) _ (k_na (pre := (own_dec ((own_site i1) + (1 : Int32)) ++ [(32 : Int32)])) (post := ([(32 : Int32)] ++ own_dec ((own_site i3) + (1 : Int32)))) hw h322 zs349 a324 ((v358 + (1 : Int32))) (((own_site i2) + (1 : Int32))) f329 f330 f331 f332 f341 f342 (by assumption) hv1 (by simp only [List.nil_append, List.append_nil, List.append_assoc]) (hp366) (by simp only [List.length_append, List.length_cons, List.length_nil, own_declen hv0, own_declen hv1, own_declen hv2]; omega) (by repeat' (first | exact own_asc0 | exact own_asc32 | exact own_ascd _ | apply own_ascA))) 0 rfl (Nat.le_of_eq rfl) (by decide) (by decide) (by decide) (by decide) rfl ?_
    refine Go.if_ne 158 156 at_153 (by decide) (by decide) rfl (fun _ => ?_) (fun c => absurd c (by decide))
    refine Go.iload 160 at_158 rfl rfl ?_
    refine Go.iload 162 at_160 rfl rfl ?_
    refine Go.iconst 163 (1) at_162 (by decide) rfl ?_
    refine Go.iadd 164 at_163 rfl ?_
    refine Go.callSIp [.int ((own_site i2) + (1 : Int32))] [.int (v358 + (1 : Int32))] 167 at_164 (tw138 hw) (tw139 hw) (tw2 hw) (tw140 hw) pl27 (by decide) (lenOf pd27 rfl) rfl (fun m => ef_k_dg m ((own_site i2) + (1 : Int32))) _ (k_dg hw h322 zs349 (((own_site i2) + (1 : Int32))) hv1) 1 rfl (Nat.le_of_eq rfl) (by decide) (by decide) (by decide) (by decide) rfl ?_
    refine Go.iadd 168 at_167 rfl ?_
    refine Go.nameI (fun v374 e375 => ?_)
    have hp376 : v374 = (List.length (((own_dec ((own_site i1) + (1 : Int32)) ++ [(32 : Int32)]) ++ own_dec ((own_site i2) + (1 : Int32))))).toInt32 := e375.trans (own_padd hv1 (hp366) (by simp only [List.length_append, List.length_cons, List.length_nil, own_declen hv0, own_declen hv1, own_declen hv2]; omega))
    refine Go.istore 170 #[.val (.int i0), .val (.int i1), .val (.int i2), .val (.int i3), .val (.int (3 : Int32)), .val (.int (own_site i1)), .val (.int (own_site i2)), .val (.int (own_site i3)), .val (.ref a269), .val (.ref a324), .val (.int v374)] at_168 rfl rfl ?_
    refine Go.iload 172 at_170 rfl rfl ?_
    refine Go.iconst 173 (3) at_172 (by decide) rfl ?_
    refine Go.icmp_lt 219 176 at_173 (by decide) (by decide) rfl (fun c => absurd c (by decide)) (fun _ => ?_)
    refine Go.aload 178 at_176 rfl rfl rfl ?_
    refine Go.iload 180 at_178 rfl rfl ?_
    refine Go.callSIp [.ref a324, .int v374] [] 183 at_180 (tw181 hw) (tw182 hw) (tw2 hw) (tw183 hw) pl36 (by decide) (lenOf pd36 rfl) rfl (fun m => ef_k_ba m a324 v374) _ (k_ba (pre := (own_dec ((own_site i1) + (1 : Int32)) ++ [(32 : Int32)] ++ own_dec ((own_site i2) + (1 : Int32)))) (post := (own_dec ((own_site i3) + (1 : Int32)))) hw h322 zs349 a324 v374 f329 f330 f331 f332 f341 f342 (by assumption) (by simp only [List.nil_append, List.append_nil, List.append_assoc]) (hp376) (by simp only [List.length_append, List.length_cons, List.length_nil, own_declen hv0, own_declen hv1, own_declen hv2]; omega) (by repeat' (first | exact own_asc0 | exact own_asc32 | exact own_ascd _ | apply own_ascA))) 0 rfl (Nat.le_of_eq rfl) (by decide) (by decide) (by decide) (by decide) rfl ?_
    refine Go.if_ne 188 186 at_183 (by decide) (by decide) rfl (fun _ => ?_) (fun c => absurd c (by decide))
    refine Go.iinc 191 (1) #[.val (.int i0), .val (.int i1), .val (.int i2), .val (.int i3), .val (.int (3 : Int32)), .val (.int (own_site i1)), .val (.int (own_site i2)), .val (.int (own_site i3)), .val (.ref a269), .val (.ref a324), .val (.int (v374 + (1 : Int32)))] at_188 (by decide) rfl rfl rfl ?_
    have hp382 : (v374 + (1 : Int32)) = (List.length (own_dec ((own_site i1) + (1 : Int32)) ++ [(32 : Int32)] ++ own_dec ((own_site i2) + (1 : Int32)) ++ [(32 : Int32)])).toInt32 := own_pinc (hp376) (by simp only [List.length_append, List.length_cons, List.length_nil, own_declen hv0, own_declen hv1, own_declen hv2]; omega)
    refine Go.aload 193 at_191 rfl rfl rfl ?_
    refine Go.iload 195 at_193 rfl rfl ?_
    refine Go.iload 197 at_195 rfl rfl ?_
    refine Go.iconst 198 (1) at_197 (by decide) rfl ?_
    refine Go.iadd 199 at_198 rfl ?_
    refine Go.callSIp [.ref a324, .int (v374 + (1 : Int32)), .int ((own_site i3) + (1 : Int32))] [] 202 at_199 (tw135 hw) (tw136 hw) (tw2 hw) (tw137 hw) pl26 (by decide) (lenOf pd26 rfl) rfl (fun m => ef_k_na m a324 (v374 + (1 : Int32)) ((own_site i3) + (1 : Int32))) _ (k_na (pre := (own_dec ((own_site i1) + (1 : Int32)) ++ [(32 : Int32)] ++ own_dec ((own_site i2) + (1 : Int32)) ++ [(32 : Int32)])) (post := ([] : List Int32)) hw h322 zs349 a324 ((v374 + (1 : Int32))) (((own_site i3) + (1 : Int32))) f329 f330 f331 f332 f341 f342 (by assumption) hv2 (by simp only [List.nil_append, List.append_nil, List.append_assoc]) (hp382) (by simp only [List.length_append, List.length_cons, List.length_nil, own_declen hv0, own_declen hv1, own_declen hv2]; omega) (by repeat' (first | exact own_asc0 | exact own_asc32 | exact own_ascd _ | apply own_ascA))) 0 rfl (Nat.le_of_eq rfl) (by decide) (by decide) (by decide) (by decide) rfl ?_
    refine Go.if_ne 207 205 at_202 (by decide) (by decide) rfl (fun _ => ?_) (fun c => absurd c (by decide))
    refine Go.iload 209 at_207 rfl rfl ?_
    refine Go.iload 211 at_209 rfl rfl ?_
    refine Go.iconst 212 (1) at_211 (by decide) rfl ?_
    refine Go.iadd 213 at_212 rfl ?_
    refine Go.callSIp [.int ((own_site i3) + (1 : Int32))] [.int (v374 + (1 : Int32))] 216 at_213 (tw138 hw) (tw139 hw) (tw2 hw) (tw140 hw) pl27 (by decide) (lenOf pd27 rfl) rfl (fun m => ef_k_dg m ((own_site i3) + (1 : Int32))) _ (k_dg hw h322 zs349 (((own_site i3) + (1 : Int32))) hv2) 1 rfl (Nat.le_of_eq rfl) (by decide) (by decide) (by decide) (by decide) rfl ?_
    refine Go.iadd 217 at_216 rfl ?_
    refine Go.nameI (fun v390 e391 => ?_)
    have hp392 : v390 = (List.length (((own_dec ((own_site i1) + (1 : Int32)) ++ [(32 : Int32)] ++ own_dec ((own_site i2) + (1 : Int32)) ++ [(32 : Int32)]) ++ own_dec ((own_site i3) + (1 : Int32))))).toInt32 := e391.trans (own_padd hv2 (hp382) (by simp only [List.length_append, List.length_cons, List.length_nil, own_declen hv0, own_declen hv1, own_declen hv2]; omega))
    refine Go.istore 219 #[.val (.int i0), .val (.int i1), .val (.int i2), .val (.int i3), .val (.int (3 : Int32)), .val (.int (own_site i1)), .val (.int (own_site i2)), .val (.int (own_site i3)), .val (.ref a269), .val (.ref a324), .val (.int v390)] at_217 rfl rfl ?_
    refine Go.aload 221 at_219 rfl rfl rfl ?_
    refine Go.callVIp [] [] 224 at_221 (tw141 hw) (tw142 hw) (tw144 hw) (tw143 hw) (tw26 hw) (tw145 hw) f329 pl28 (by decide) (lenOf pd28 rfl) rfl (fun m => ef_k_slen m a324) _ (k_slen hw h322 zs349 a324 f329 f330 f331 f332 f341 (by assumption)) 0 rfl (Nat.le_of_eq rfl) (by decide) (by decide) (by decide) (by decide) rfl ?_
    refine Go.iload 226 at_224 rfl rfl ?_
    refine Go.icmp_ne 233 229 at_226 (by decide) (by decide) rfl (fun c396 => ?_) (fun c396 => ?_)
    ·
      refine Go.iconst 234 (0) at_233 (by decide) rfl ?_
      refine Go.nreturn (t := .boolean) (z' := (0 : Int32)) at_234 rfl (by simp) (by decide) (by decide) (by decide) ?_
      exact absurd (Eq.symm hp392) c396
    ·
      refine Go.iconst 230 (1) at_229 (by decide) rfl ?_
      refine Go.goto 234 at_230 (by decide) (by decide) ?_
      refine Go.nreturn (t := .boolean) (z' := (1 : Int32)) at_234 rfl (by simp) (by decide) (by decide) (by decide) ?_
      rfl
set_option maxRecDepth 65536 in
set_option maxHeartbeats 40000000 in
theorem comes_1 {Post : Tables → Env → Array Value → State → Outcome → State → Prop} (hpost : ∀ tb e args s v u, (limb_1_1.after args s (.returned v) u = true ∧ limb_1_2.after args s (.returned v) u = true ∧ True) → FrameEnd s (.returned v) u (Jvm.fieldLocs frame_1_writes args s ++ Jvm.arrayLocs frame_1_arrays args s ++ Jvm.staticLocs frame_1_statics s) 24 256 → Post tb e args s (.returned v) u) :
    ArmFor flags0 classFile x code maxLocals ret World_1 tables_1 room_1 Calls_1 rest_1 Pre_1 Post := by
  intro l hfl _ _ p e ha hc hk s m args below hf hA hF happ hP
  obtain ⟨hcalls, hrest, hpre⟩ := hP
  obtain ⟨-, -, -, hnamed, -, -, -, hat⟩ := (Spec.applies_iff hf).mp happ
  obtain ⟨hg, hn⟩ := and_e (Cond.before_iff.mp (show (Jvm.Cond.and given_1 narrow_1).before args s = true from hpre))
  obtain ⟨h1, g0⟩ := and_e hg
  obtain ⟨w0, w1, w2, w3, rfl⟩ : ∃ w0 w1 w2 w3 : Value, args = #[w0, w1, w2, w3] := by
    have hs : args.size = 4 := by simpa [Cond.value, given_1] using h1
    obtain ⟨L⟩ := args
    match L, hs with
    | [w0, w1, w2, w3], _ => exact ⟨w0, w1, w2, w3, rfl⟩
  have hw := fun d (hd : d ∈ tables_1) => atoms_spec (ws := Jvm.Cond.code x code maxLocals ret :: tables_1) hat d (List.mem_cons_of_mem _ hd)
  obtain ⟨b0, g1⟩ := and_e g0
  obtain ⟨i0, ei0⟩ := is_v b0
  obtain rfl : w0 = (.int i0) := Option.some.inj ei0
  obtain ⟨b1, g2⟩ := and_e g1
  obtain ⟨i1, ei1⟩ := is_v b1
  obtain rfl : w1 = (.int i1) := Option.some.inj ei1
  obtain ⟨b2, g3⟩ := and_e g2
  obtain ⟨i2, ei2⟩ := is_v b2
  obtain rfl : w2 = (.int i2) := Option.some.inj ei2
  have b3 := g3
  obtain ⟨i3, ei3⟩ := is_v b3
  obtain rfl : w3 = (.int i3) := Option.some.inj ei3
  have rb := Cond.before_iff.mp (show (rest_1_c).before _ s = true from hrest)
  obtain ⟨ra0, rb⟩ := and_e rb
  obtain ⟨ra1, rb⟩ := and_e rb
  obtain ⟨ra2, rb⟩ := and_e rb
  obtain ⟨ra3, rb⟩ := and_e rb
  obtain ⟨ra4, rb⟩ := and_e rb
  obtain ⟨ra5, rb⟩ := and_e rb
  obtain ⟨ra6, rb⟩ := and_e rb
  obtain ⟨ra7, rb⟩ := and_e rb
  obtain ⟨ra8, rb⟩ := and_e rb
  obtain ⟨ra9, rb⟩ := and_e rb
  obtain ⟨ra10, rb⟩ := and_e rb
  obtain ⟨ra11, rb⟩ := and_e rb
  obtain ⟨ra12, rb⟩ := and_e rb
  obtain ⟨ra13, rb⟩ := and_e rb
  obtain ⟨ra14, rb⟩ := and_e rb
  obtain ⟨ra15, rb⟩ := and_e rb
  obtain ⟨ra16, rb⟩ := and_e rb
  obtain ⟨ra17, rb⟩ := and_e rb
  obtain ⟨ra18, rb⟩ := and_e rb
  obtain ⟨ra19, rb⟩ := and_e rb
  obtain ⟨cz, evz⟩ := is_v ra1
  have hcz := own_cz evz ra2
  obtain ⟨r1, hs1, ha1, ho1⟩ := own_tbl (F := fun i => own_d (i % 10)) (Cond.before_iff.mpr ra11) ra12 ra13 ra14 (tw27 hw) (fun r h => own_ro r h)
  obtain ⟨r2, hs2, ha2, ho2⟩ := own_tbl (F := fun i => own_d (i / 10)) (Cond.before_iff.mpr ra16) ra17 ra18 ra19 (tw27 hw) (fun r h => own_rt r h)
  have G := law0 (l := l) hw s.heap (Nat.le_refl _) i0 i1 i2 i3 (Sta.start evz (Or.inl (Cond.before_iff.mpr ra0))) (own_str (Cond.before_iff.mpr ra7) ra8) hs1 ha1 hs2 ha2 hcz ho1 ho2
  obtain ⟨n, o, h1, h2, h3, _, L, rfl, ⟨⟨z, rfl, rfl⟩, N⟩, hq⟩ := Go.met (as' := #[.int i0, .int i1, .int i2, .int i3]) (plainFor_of_name pnx) (fun m => ef_law0 m i0 i1 i2 i3) G tables_1 p e ha hc hk s m _ below hf ((Spec.applies_iff_loose hf).mp happ).1 ⟨rfl, State.Warmed39.refl s, rfl⟩ trivial
  refine ⟨n, _, h1, h2, h3, hpost _ _ _ _ _ _ ⟨Cond.after_iff.mpr rfl, Cond.after_iff.mpr (eq_i res_at (Term.int_eval (1)) rfl), trivial⟩ ⟨hq.1, hq.2.1, (hq.2.2.sift fun y hy => Or.inr (N y hy)).mono (by decide) (by decide)⟩⟩
theorem main_1_1 : Claimed_1_1 := comes_1 fun _ _ _ _ _ _ h hF => ⟨h.1, hF⟩
theorem main_1_2 : Claimed_1_2 := comes_1 fun _ _ _ _ _ _ h hF => ⟨h.2.1, hF⟩
end Jvm.Pilot.@@N@@
namespace Jvm.Pilot.@@N@@
open Jvm Jvm.ClassFile Sem Op Lib Jvm.Free Jvm.Stand Jvm.Pilot.@@N@@.Jvm.D
/-! MADE BY PROGRAM (witnessworld.py) out of the Statement's table words and the real class files: 25 classes; the members and pool entries that the words name. The judged class is class 1, her method 1. -/
namespace start1
open Jvm.ClassFile
def u (s : String) : CpInfo := .utf8 (stringToUtf16 s)
/-- a pool by its gaps: so many unusable entries, then the entry; so many at the end -/
def gap : Nat → List CpInfo → List CpInfo
  | 0, r => r
  | n + 1, r => .unusable :: gap n r
def poolList (es : List (Nat × CpInfo)) (last : Nat) : List CpInfo := es.foldr (fun e r => gap e.1 (e.2 :: r)) (gap last [])
def pool (es : List (Nat × CpInfo)) (last : Nat) : Array CpInfo := ⟨poolList es last⟩
def fileOf (pool : Array CpInfo) (this : Nat) (attrs : Array Attribute := #[]) (ms : Array MethodInfo := #[]) (fl : Nat := 33) (sup : Nat := 0) (ifs : Array Nat := #[]) (fds : Array FieldInfo := #[]) : ClassFile where
  minorVersion := 0
  majorVersion := 65
  constantPool := pool
  accessFlags := fl
  thisClass := this
  superClass := sup
  interfaces := ifs
  fields := fds
  methods := ms
  attributes := attrs
def plain (name : String) (sup : Option ClassId) : Class where
  name := name
  kind := .ordinary
  loader := none
  accessFlags := 33
  super := sup
  interfaces := #[]
  cf := none
  fields := #[]
  methods := #[]
  instanceTypes := #[]
  staticTypes := #[]
  resolved := #[]
  callSites := []
  init := .initialized
  statics := none
  mirror := none

def pool0 : Array CpInfo := pool [(5, u "<init>"), (0, u "()V"), (1, .class_ 10), (1, u "java/lang/Object"), (85, u "clone"), (0, u "()Ljava/lang/Object;")] 26

def k0c0 : Code := { maxStack := 0, maxLocals := 1, code := object_method_1_code, exceptionTable := #[], attributes := #[] }
def k0m0 : Method := { name := "<init>", desc := "()V", sig := { parameters := [], returnType := none }, accessFlags := 1, code := some k0c0 }
def k0m1 : Method := { name := "clone", desc := "()Ljava/lang/Object;", sig := { parameters := [], returnType := some (.object "java/lang/Object") }, accessFlags := 260, code := none }
/-- java/lang/Object -/
def k0 : Class := { plain "java/lang/Object" none with
  accessFlags := 33
  interfaces := #[]
  cf := some (fileOf pool0 8 #[] #[{ accessFlags := 1, nameIndex := 5, descriptorIndex := 6, attributes := #[] }, { accessFlags := 260, nameIndex := 96, descriptorIndex := 97, attributes := #[] }] 33 0 #[] #[])
  fields := #[]
  methods := #[k0m0, k0m1]
  instanceTypes := #[]
  staticTypes := #[]
  resolved := Array.replicate 124 none
  statics := none }

def pool1 : Array CpInfo := pool [(2, .class_ 4), (1, u "java/lang/Object"), (0, u "<init>"), (0, u "()V"), (0, .methodref 8 9), (0, .class_ 10), (0, .nameAndType 11 12), (0, u "com/example/medianpoint/medianpoint/AnswerPrinterSiteNumbersPinLaw"), (0, u "site"), (0, u "(I)I"), (0, .methodref 14 15), (0, .class_ 16), (0, .nameAndType 17 18), (0, u "com/example/medianpoint/medianpoint/AnswerPrinter"), (0, u "siteNumbers"), (0, u "([I)Ljava/lang/String;"), (0, .methodref 20 21), (0, .class_ 22), (0, .nameAndType 23 24), (0, u "java/lang/String"), (0, u "isEmpty"), (0, u "()Z"), (0, .methodref 8 26), (0, .nameAndType 27 28), (0, u "numberAt"), (0, u "(Ljava/lang/String;II)Z"), (0, .methodref 8 30), (0, .nameAndType 31 12), (0, u "digits"), (0, .methodref 8 33), (0, .nameAndType 34 35), (0, u "blankAt"), (0, u "(Ljava/lang/String;I)Z"), (0, .methodref 20 37), (0, .nameAndType 38 39), (0, u "length"), (0, u "()I"), (0, .integer 2147483647), (0, .methodref 20 42), (0, .nameAndType 43 44), (0, u "charAt"), (0, u "(I)C"), (0, .integer 100000), (0, .integer 1000000), (0, .integer 10000000), (0, .integer 100000000), (0, .integer 1000000000), (0, .methodref 8 51), (0, .nameAndType 52 53), (0, u "digitOk"), (0, u "(Ljava/lang/String;IIIII)Z"), (2, u "law"), (0, u "(IIII)Z")] 5

def k1m0 : Method := { name := "<init>", desc := "()V", sig := { parameters := [], returnType := none }, accessFlags := 2, code := none }
def k1c1 : Code := { maxStack := 4, maxLocals := 11, code := code, exceptionTable := #[], attributes := #[] }
def k1m1 : Method := { name := "law", desc := "(IIII)Z", sig := { parameters := [.int, .int, .int, .int], returnType := some .boolean }, accessFlags := 9, code := some k1c1 }
def k1c2 : Code := { maxStack := 2, maxLocals := 1, code := method_3_code, exceptionTable := #[], attributes := #[] }
def k1m2 : Method := { name := "site", desc := "(I)I", sig := { parameters := [.int], returnType := some .int }, accessFlags := 10, code := some k1c2 }
def k1c3 : Code := { maxStack := 2, maxLocals := 2, code := method_4_code, exceptionTable := #[], attributes := #[] }
def k1m3 : Method := { name := "blankAt", desc := "(Ljava/lang/String;I)Z", sig := { parameters := [(.object "java/lang/String"), .int], returnType := some .boolean }, accessFlags := 10, code := some k1c3 }
def k1c4 : Code := { maxStack := 2, maxLocals := 1, code := method_5_code, exceptionTable := #[], attributes := #[] }
def k1m4 : Method := { name := "digits", desc := "(I)I", sig := { parameters := [.int], returnType := some .int }, accessFlags := 10, code := some k1c4 }
def k1c5 : Code := { maxStack := 6, maxLocals := 4, code := method_6_code, exceptionTable := #[], attributes := #[] }
def k1m5 : Method := { name := "numberAt", desc := "(Ljava/lang/String;II)Z", sig := { parameters := [(.object "java/lang/String"), .int, .int], returnType := some .boolean }, accessFlags := 10, code := some k1c5 }
def k1c6 : Code := { maxStack := 4, maxLocals := 6, code := method_7_code, exceptionTable := #[], attributes := #[] }
def k1m6 : Method := { name := "digitOk", desc := "(Ljava/lang/String;IIIII)Z", sig := { parameters := [(.object "java/lang/String"), .int, .int, .int, .int, .int], returnType := some .boolean }, accessFlags := 10, code := some k1c6 }
/-- com/example/medianpoint/medianpoint/AnswerPrinterSiteNumbersPinLaw -/
def k1 : Class := { plain "com/example/medianpoint/medianpoint/AnswerPrinterSiteNumbersPinLaw" (some 0) with
  accessFlags := 49
  interfaces := #[]
  cf := some (fileOf pool1 8 #[] #[{ accessFlags := 2, nameIndex := 5, descriptorIndex := 6, attributes := #[] }, { accessFlags := 9, nameIndex := 56, descriptorIndex := 57, attributes := #[] }, { accessFlags := 10, nameIndex := 11, descriptorIndex := 12, attributes := #[] }, { accessFlags := 10, nameIndex := 34, descriptorIndex := 35, attributes := #[] }, { accessFlags := 10, nameIndex := 31, descriptorIndex := 12, attributes := #[] }, { accessFlags := 10, nameIndex := 27, descriptorIndex := 28, attributes := #[] }, { accessFlags := 10, nameIndex := 52, descriptorIndex := 53, attributes := #[] }] 49 2 #[] #[])
  fields := #[]
  methods := #[k1m0, k1m1, k1m2, k1m3, k1m4, k1m5, k1m6]
  instanceTypes := #[]
  staticTypes := #[]
  resolved := Array.replicate 63 none
  statics := none }

def pool2 : Array CpInfo := pool [(2, .class_ 4), (0, .nameAndType 5 6), (0, u "java/lang/Object"), (0, u "<init>"), (0, u "()V"), (7, .class_ 16), (1, u "com/example/medianpoint/medianpoint/AnswerPrinter"), (0, u "siteNumbers"), (0, u "([I)Ljava/lang/String;"), (21, .class_ 41), (0, u "java/lang/StringBuilder"), (0, .methodref 40 3), (0, .methodref 40 44), (0, .nameAndType 45 46), (0, u "length"), (0, u "()I"), (0, .methodref 40 48), (0, .nameAndType 49 50), (0, u "append"), (0, u "(C)Ljava/lang/StringBuilder;"), (0, .methodref 40 52), (0, .nameAndType 49 53), (0, u "(I)Ljava/lang/StringBuilder;"), (0, .methodref 40 55), (0, .nameAndType 56 57), (0, u "toString"), (0, u "()Ljava/lang/String;")] 86

def k2m0 : Method := { name := "<init>", desc := "()V", sig := { parameters := [], returnType := none }, accessFlags := 2, code := none }
def k2c1 : Code := { maxStack := 3, maxLocals := 6, code := prog_2_method_3_code, exceptionTable := #[], attributes := #[] }
def k2m1 : Method := { name := "siteNumbers", desc := "([I)Ljava/lang/String;", sig := { parameters := [(.array .int)], returnType := some (.object "java/lang/String") }, accessFlags := 8, code := some k2c1 }
/-- com/example/medianpoint/medianpoint/AnswerPrinter -/
def k2 : Class := { plain "com/example/medianpoint/medianpoint/AnswerPrinter" (some 0) with
  accessFlags := 48
  interfaces := #[]
  cf := some (fileOf pool2 14 #[] #[{ accessFlags := 2, nameIndex := 5, descriptorIndex := 6, attributes := #[] }, { accessFlags := 8, nameIndex := 17, descriptorIndex := 18, attributes := #[] }] 48 2 #[] #[])
  fields := #[]
  methods := #[k2m0, k2m1]
  instanceTypes := #[]
  staticTypes := #[]
  resolved := Array.replicate 144 none
  statics := none }

def pool3 : Array CpInfo := pool [(1, .class_ 2), (0, u "java/lang/Appendable"), (0, .class_ 4), (0, u "java/lang/Object")] 9

/-- java/lang/Appendable -/
def k3 : Class := { plain "java/lang/Appendable" (some 0) with
  accessFlags := 1537
  interfaces := #[]
  cf := some (fileOf pool3 1 #[] #[] 1537 3 #[] #[])
  fields := #[]
  methods := #[]
  instanceTypes := #[]
  staticTypes := #[]
  resolved := Array.replicate 14 none
  statics := none }

def pool4 : Array CpInfo := pool [(2, .class_ 4), (1, u "java/lang/CharSequence"), (42, .class_ 48), (0, u "java/lang/CharSequence$1CodePointIterator"), (10, .class_ 60), (0, u "java/lang/CharSequence$1CharIterator"), (5, .class_ 67), (0, u "java/lang/Object")] 63

/-- java/lang/CharSequence -/
def k4 : Class := { plain "java/lang/CharSequence" (some 0) with
  accessFlags := 1537
  interfaces := #[]
  cf := some (fileOf pool4 2 #[.nestMembers #[47, 59]] #[] 1537 66 #[] #[])
  fields := #[]
  methods := #[]
  instanceTypes := #[]
  staticTypes := #[]
  resolved := Array.replicate 131 none
  statics := none }

def pool5 : Array CpInfo := pool [(1, .class_ 2), (0, u "java/lang/String"), (0, .methodref 4 5), (0, .class_ 6), (0, .nameAndType 7 8), (0, u "java/lang/Object"), (0, u "<init>"), (0, u "()V"), (1, .class_ 12), (1, u "java/lang/AbstractStringBuilder"), (0, u "EMPTYVALUE"), (0, u "[B"), (0, .fieldref 10 16), (0, .nameAndType 17 14), (0, u "value"), (0, .fieldref 1 19), (0, .nameAndType 20 21), (0, u "COMPACT_STRINGS"), (0, u "Z"), (0, .fieldref 10 23), (0, .nameAndType 24 25), (0, u "coder"), (0, u "B"), (8, u "length"), (0, u "()I"), (0, .class_ 37), (0, u "java/lang/Integer"), (1, .integer 2147483647), (5, u "append"), (2, .class_ 49), (0, u "java/lang/CharSequence"), (25, u "maybeLatin1"), (3, .fieldref 10 80), (0, .nameAndType 81 82), (0, u "count"), (0, u "I"), (0, .methodref 10 84), (0, .nameAndType 85 86), (0, u "isLatin1"), (0, u "()Z"), (1, .class_ 90), (1, u "java/lang/StringLatin1"), (9, .methodref 10 101), (0, .nameAndType 102 103), (0, u "ensureCapacityInternal"), (0, u "(I)V"), (0, .methodref 10 105), (0, .nameAndType 106 107), (0, u "newCapacity"), (0, u "(I)I"), (0, .methodref 109 110), (0, .class_ 111), (0, .nameAndType 112 113), (0, u "java/util/Arrays"), (0, u "copyOf"), (0, u "([BI)[B"), (0, .methodref 115 116), (0, .class_ 117), (0, .nameAndType 118 119), (0, u "jdk/internal/util/ArraysSupport"), (0, u "newLength"), (0, u "(III)I"), (68, u "getChars"), (2, .methodref 88 192), (0, .nameAndType 193 194), (0, u "canEncode"), (0, u "(C)Z"), (50, .methodref 36 246), (0, .nameAndType 247 107), (0, u "stringSize"), (0, .methodref 36 249), (0, .nameAndType 188 250), (0, u "(II[B)I"), (41, u "(C)Ljava/lang/AbstractStringBuilder;"), (110, u "()[B"), (40, .class_ 445), (0, u "java/lang/Appendable"), (65, u "(I)Ljava/lang/AbstractStringBuilder;"), (40, u "getValue")] 56

def k5m0 : Method := { name := "<init>", desc := "()V", sig := { parameters := [], returnType := none }, accessFlags := 0, code := none }
def k5c1 : Code := { maxStack := 2, maxLocals := 2, code := jdk_68_method_2_code, exceptionTable := #[], attributes := #[] }
def k5m1 : Method := { name := "<init>", desc := "(I)V", sig := { parameters := [.int], returnType := none }, accessFlags := 0, code := some k5c1 }
def k5c2 : Code := { maxStack := 1, maxLocals := 1, code := jdk_68_method_6_code, exceptionTable := #[], attributes := #[] }
def k5m2 : Method := { name := "length", desc := "()I", sig := { parameters := [], returnType := some .int }, accessFlags := 1, code := some k5c2 }
def k5c3 : Code := { maxStack := 4, maxLocals := 3, code := jdk_68_method_9_code, exceptionTable := #[], attributes := #[] }
def k5m3 : Method := { name := "ensureCapacityInternal", desc := "(I)V", sig := { parameters := [.int], returnType := none }, accessFlags := 2, code := some k5c3 }
def k5c4 : Code := { maxStack := 5, maxLocals := 6, code := jdk_68_method_10_code, exceptionTable := #[], attributes := #[] }
def k5m4 : Method := { name := "newCapacity", desc := "(I)I", sig := { parameters := [.int], returnType := some .int }, accessFlags := 2, code := some k5c4 }
def k5c5 : Code := { maxStack := 5, maxLocals := 2, code := jdk_68_method_31_code, exceptionTable := #[], attributes := #[] }
def k5m5 : Method := { name := "append", desc := "(C)Ljava/lang/AbstractStringBuilder;", sig := { parameters := [.char], returnType := some (.object "java/lang/AbstractStringBuilder") }, accessFlags := 1, code := some k5c5 }
def k5c6 : Code := { maxStack := 4, maxLocals := 4, code := jdk_68_method_32_code, exceptionTable := #[], attributes := #[] }
def k5m6 : Method := { name := "append", desc := "(I)Ljava/lang/AbstractStringBuilder;", sig := { parameters := [.int], returnType := some (.object "java/lang/AbstractStringBuilder") }, accessFlags := 1, code := some k5c6 }
def k5c7 : Code := { maxStack := 1, maxLocals := 1, code := jdk_68_method_64_code, exceptionTable := #[], attributes := #[] }
def k5m7 : Method := { name := "getValue", desc := "()[B", sig := { parameters := [], returnType := some (.array .byte) }, accessFlags := 16, code := some k5c7 }
def k5c8 : Code := { maxStack := 1, maxLocals := 1, code := jdk_68_method_68_code, exceptionTable := #[], attributes := #[] }
def k5m8 : Method := { name := "isLatin1", desc := "()Z", sig := { parameters := [], returnType := some .boolean }, accessFlags := 16, code := some k5c8 }
/-- java/lang/AbstractStringBuilder -/
def k5 : Class := { plain "java/lang/AbstractStringBuilder" (some 0) with
  accessFlags := 1056
  interfaces := #[3, 4]
  cf := some (fileOf pool5 10 #[] #[{ accessFlags := 0, nameIndex := 7, descriptorIndex := 8, attributes := #[] }, { accessFlags := 0, nameIndex := 7, descriptorIndex := 103, attributes := #[] }, { accessFlags := 1, nameIndex := 34, descriptorIndex := 35, attributes := #[] }, { accessFlags := 2, nameIndex := 102, descriptorIndex := 103, attributes := #[] }, { accessFlags := 2, nameIndex := 106, descriptorIndex := 107, attributes := #[] }, { accessFlags := 1, nameIndex := 45, descriptorIndex := 292, attributes := #[] }, { accessFlags := 1, nameIndex := 45, descriptorIndex := 511, attributes := #[] }, { accessFlags := 16, nameIndex := 552, descriptorIndex := 403, attributes := #[] }, { accessFlags := 16, nameIndex := 85, descriptorIndex := 86, attributes := #[] }] 1056 4 #[444, 48] #[{ accessFlags := 0, nameIndex := 17, descriptorIndex := 14, attributes := #[] }, { accessFlags := 0, nameIndex := 24, descriptorIndex := 25, attributes := #[] }, { accessFlags := 0, nameIndex := 75, descriptorIndex := 21, attributes := #[] }, { accessFlags := 0, nameIndex := 81, descriptorIndex := 82, attributes := #[] }, { accessFlags := 26, nameIndex := 13, descriptorIndex := 14, attributes := #[] }])
  fields := #[{ name := "value", type := (.array .byte), accessFlags := 0, slot := 0, constantValue := 0 }, { name := "coder", type := .byte, accessFlags := 0, slot := 1, constantValue := 0 }, { name := "maybeLatin1", type := .boolean, accessFlags := 0, slot := 2, constantValue := 0 }, { name := "count", type := .int, accessFlags := 0, slot := 3, constantValue := 0 }, { name := "EMPTYVALUE", type := (.array .byte), accessFlags := 26, slot := 0, constantValue := 0 }]
  methods := #[k5m0, k5m1, k5m2, k5m3, k5m4, k5m5, k5m6, k5m7, k5m8]
  instanceTypes := #[(.array .byte), .byte, .boolean, .int]
  staticTypes := #[(.array .byte)]
  resolved := Array.replicate 609 none
  statics := none }

def pool6 : Array CpInfo := pool [(1, .class_ 2), (0, u "java/io/Serializable"), (0, .class_ 4), (0, u "java/lang/Object")] 2

/-- java/io/Serializable -/
def k6 : Class := { plain "java/io/Serializable" (some 0) with
  accessFlags := 1537
  interfaces := #[]
  cf := some (fileOf pool6 1 #[] #[] 1537 3 #[] #[])
  fields := #[]
  methods := #[]
  instanceTypes := #[]
  staticTypes := #[]
  resolved := Array.replicate 7 none
  statics := none }

def pool7 : Array CpInfo := pool [(1, .class_ 2), (0, u "java/lang/Comparable"), (0, .class_ 4), (0, u "java/lang/Object")] 7

/-- java/lang/Comparable -/
def k7 : Class := { plain "java/lang/Comparable" (some 0) with
  accessFlags := 1537
  interfaces := #[]
  cf := some (fileOf pool7 1 #[] #[] 1537 3 #[] #[])
  fields := #[]
  methods := #[]
  instanceTypes := #[]
  staticTypes := #[]
  resolved := Array.replicate 12 none
  statics := none }

def pool8 : Array CpInfo := pool [(1, .methodref 2 3), (0, .class_ 4), (0, .nameAndType 5 6), (0, u "java/lang/AbstractStringBuilder"), (0, u "<init>"), (0, u "(I)V"), (11, .class_ 20), (1, u "java/lang/String"), (3, .class_ 26), (1, u "java/lang/StringBuilder"), (0, u "append"), (22, .methodref 2 51), (0, .nameAndType 27 52), (0, u "(C)Ljava/lang/AbstractStringBuilder;"), (0, .methodref 2 54), (0, .nameAndType 27 55), (0, u "(I)Ljava/lang/AbstractStringBuilder;"), (81, .methodref 18 138), (0, .nameAndType 5 139), (0, u "(Ljava/lang/StringBuilder;)V"), (5, u "()V"), (10, u "()I"), (111, u "(I)Ljava/lang/StringBuilder;"), (17, u "(C)Ljava/lang/StringBuilder;"), (56, .methodref 2 344), (0, .nameAndType 345 156), (0, u "length"), (3, .class_ 350), (0, u "java/lang/Appendable"), (0, .class_ 352), (0, u "java/io/Serializable"), (0, .class_ 354), (0, u "java/lang/Comparable"), (0, .class_ 356), (0, u "java/lang/CharSequence"), (0, u "serialVersionUID"), (0, u "J"), (40, u "toString"), (0, u "()Ljava/lang/String;")] 21

def k8c0 : Code := { maxStack := 2, maxLocals := 1, code := jdk_67_method_1_code, exceptionTable := #[], attributes := #[] }
def k8m0 : Method := { name := "<init>", desc := "()V", sig := { parameters := [], returnType := none }, accessFlags := 1, code := some k8c0 }
def k8c1 : Code := { maxStack := 2, maxLocals := 2, code := jdk_67_method_14_code, exceptionTable := #[], attributes := #[] }
def k8m1 : Method := { name := "append", desc := "(C)Ljava/lang/StringBuilder;", sig := { parameters := [.char], returnType := some (.object "java/lang/StringBuilder") }, accessFlags := 1, code := some k8c1 }
def k8c2 : Code := { maxStack := 2, maxLocals := 2, code := jdk_67_method_15_code, exceptionTable := #[], attributes := #[] }
def k8m2 : Method := { name := "append", desc := "(I)Ljava/lang/StringBuilder;", sig := { parameters := [.int], returnType := some (.object "java/lang/StringBuilder") }, accessFlags := 1, code := some k8c2 }
def k8c3 : Code := { maxStack := 3, maxLocals := 1, code := jdk_67_method_42_code, exceptionTable := #[], attributes := #[] }
def k8m3 : Method := { name := "toString", desc := "()Ljava/lang/String;", sig := { parameters := [], returnType := some (.object "java/lang/String") }, accessFlags := 1, code := some k8c3 }
def k8c4 : Code := { maxStack := 1, maxLocals := 1, code := jdk_67_method_93_code, exceptionTable := #[], attributes := #[] }
def k8m4 : Method := { name := "length", desc := "()I", sig := { parameters := [], returnType := some .int }, accessFlags := 4161, code := some k8c4 }
/-- java/lang/StringBuilder -/
def k8 : Class := { plain "java/lang/StringBuilder" (some 5) with
  accessFlags := 49
  interfaces := #[3, 6, 7, 4]
  cf := some (fileOf pool8 24 #[] #[{ accessFlags := 1, nameIndex := 5, descriptorIndex := 145, attributes := #[] }, { accessFlags := 1, nameIndex := 27, descriptorIndex := 286, attributes := #[] }, { accessFlags := 1, nameIndex := 27, descriptorIndex := 268, attributes := #[] }, { accessFlags := 1, nameIndex := 399, descriptorIndex := 400, attributes := #[] }, { accessFlags := 4161, nameIndex := 345, descriptorIndex := 156, attributes := #[] }] 49 2 #[349, 351, 353, 355] #[{ accessFlags := 24, nameIndex := 357, descriptorIndex := 358, attributes := #[] }])
  fields := #[{ name := "serialVersionUID", type := .long, accessFlags := 24, slot := 0, constantValue := 0 }]
  methods := #[k8m0, k8m1, k8m2, k8m3, k8m4]
  instanceTypes := #[(.array .byte), .byte, .boolean, .int]
  staticTypes := #[.long]
  resolved := Array.replicate 422 none
  statics := none }

def pool9 : Array CpInfo := pool [(1, .class_ 2), (0, u "java/lang/constant/Constable"), (0, .class_ 4), (0, u "java/lang/Object")] 6

/-- java/lang/constant/Constable -/
def k9 : Class := { plain "java/lang/constant/Constable" (some 0) with
  accessFlags := 1537
  interfaces := #[]
  cf := some (fileOf pool9 1 #[] #[] 1537 3 #[] #[])
  fields := #[]
  methods := #[]
  instanceTypes := #[]
  staticTypes := #[]
  resolved := Array.replicate 11 none
  statics := none }

def pool10 : Array CpInfo := pool [(1, .class_ 2), (0, u "java/lang/constant/ConstantDesc"), (0, .class_ 4), (0, u "java/lang/Object")] 32

/-- java/lang/constant/ConstantDesc -/
def k10 : Class := { plain "java/lang/constant/ConstantDesc" (some 0) with
  accessFlags := 1537
  interfaces := #[]
  cf := some (fileOf pool10 1 #[] #[] 1537 3 #[] #[])
  fields := #[]
  methods := #[]
  instanceTypes := #[]
  staticTypes := #[]
  resolved := Array.replicate 37 none
  statics := none }

def pool11 : Array CpInfo := pool [(1, .methodref 2 3), (0, .class_ 4), (0, .nameAndType 5 6), (0, u "java/lang/Object"), (0, u "<init>"), (0, u "()V"), (2, .fieldref 10 11), (0, .class_ 12), (0, .nameAndType 13 14), (0, u "java/lang/String"), (0, u "value"), (0, u "[B"), (0, .fieldref 10 16), (0, .nameAndType 17 18), (0, u "coder"), (0, u "B"), (2, u "hash"), (0, u "I"), (2, u "hashIsZero"), (0, u "Z"), (11, .fieldref 10 39), (0, .nameAndType 40 26), (0, u "COMPACT_STRINGS"), (13, .methodref 55 56), (0, .class_ 57), (0, .nameAndType 58 59), (0, u "java/util/Arrays"), (0, u "copyOfRange"), (0, u "([BII)[B"), (47, .class_ 109), (1, u "java/lang/StringLatin1"), (32, u "()Z"), (191, u "()I"), (0, .methodref 10 336), (0, .nameAndType 17 337), (0, u "()B"), (2, u "()[B"), (22, u "([BI)C"), (27, u "(II)V"), (35, u "(I)C"), (61, .methodref 10 490), (0, .nameAndType 5 491), (0, u "(Ljava/lang/AbstractStringBuilder;Ljava/lang/Void;)V"), (0, .methodref 10 493), (0, .nameAndType 494 142), (0, u "isLatin1"), (0, .methodref 107 496), (0, .nameAndType 497 363), (0, u "charAt"), (3, u "checkIndex"), (4, .nameAndType 507 334), (0, u "length"), (41, .methodref 550 506), (0, .class_ 551), (0, u "java/lang/AbstractStringBuilder"), (0, .methodref 550 553), (0, .nameAndType 554 340), (0, u "getValue"), (20, .class_ 576), (0, u "java/lang/CharSequence"), (22, u "CASE_INSENSITIVE_ORDER"), (0, u "Ljava/util/Comparator;"), (91, u "isEmpty"), (354, .methodref 550 493), (5, .fieldref 1054 1055), (0, .class_ 1056), (0, .nameAndType 1057 1058), (0, u "jdk/internal/util/Preconditions"), (0, u "SIOOBE_FORMATTER"), (0, u "Ljava/util/function/BiFunction;"), (0, .methodref 1054 1060), (0, .nameAndType 501 1061), (0, u "(IILjava/util/function/BiFunction;)I"), (39, u "serialPersistentFields"), (0, u "[Ljava/io/ObjectStreamField;"), (0, .class_ 1104), (0, u "java/lang/String$CaseInsensitiveComparator"), (1, .class_ 1107), (0, u "java/io/Serializable"), (0, .class_ 1109), (0, u "java/lang/Comparable"), (0, .class_ 1111), (0, u "java/lang/constant/Constable"), (0, .class_ 1113), (0, u "java/lang/constant/ConstantDesc"), (2, u "serialVersionUID"), (0, u "J"), (3, u "REPL"), (0, u "C"), (2, u "LATIN1"), (1, u "UTF16"), (105, u "(Ljava/lang/StringBuilder;)V")] 217

def k11m0 : Method := { name := "<init>", desc := "()V", sig := { parameters := [], returnType := none }, accessFlags := 1, code := none }
def k11c1 : Code := { maxStack := 3, maxLocals := 2, code := jdk_42_method_53_code, exceptionTable := #[], attributes := #[] }
def k11m1 : Method := { name := "<init>", desc := "(Ljava/lang/StringBuilder;)V", sig := { parameters := [(.object "java/lang/StringBuilder")], returnType := none }, accessFlags := 1, code := some k11c1 }
def k11c2 : Code := { maxStack := 2, maxLocals := 1, code := jdk_42_method_54_code, exceptionTable := #[], attributes := #[] }
def k11m2 : Method := { name := "length", desc := "()I", sig := { parameters := [], returnType := some .int }, accessFlags := 1, code := some k11c2 }
def k11c3 : Code := { maxStack := 1, maxLocals := 1, code := jdk_42_method_55_code, exceptionTable := #[], attributes := #[] }
def k11m3 : Method := { name := "isEmpty", desc := "()Z", sig := { parameters := [], returnType := some .boolean }, accessFlags := 1, code := some k11c3 }
def k11c4 : Code := { maxStack := 2, maxLocals := 2, code := jdk_42_method_56_code, exceptionTable := #[], attributes := #[] }
def k11m4 : Method := { name := "charAt", desc := "(I)C", sig := { parameters := [.int], returnType := some .char }, accessFlags := 1, code := some k11c4 }
def k11c5 : Code := { maxStack := 5, maxLocals := 5, code := jdk_42_method_150_code, exceptionTable := #[], attributes := #[] }
def k11m5 : Method := { name := "<init>", desc := "(Ljava/lang/AbstractStringBuilder;Ljava/lang/Void;)V", sig := { parameters := [(.object "java/lang/AbstractStringBuilder"), (.object "java/lang/Void")], returnType := none }, accessFlags := 0, code := some k11c5 }
def k11c6 : Code := { maxStack := 1, maxLocals := 1, code := jdk_42_method_152_code, exceptionTable := #[], attributes := #[] }
def k11m6 : Method := { name := "coder", desc := "()B", sig := { parameters := [], returnType := some .byte }, accessFlags := 0, code := some k11c6 }
def k11c7 : Code := { maxStack := 1, maxLocals := 1, code := jdk_42_method_154_code, exceptionTable := #[], attributes := #[] }
def k11m7 : Method := { name := "isLatin1", desc := "()Z", sig := { parameters := [], returnType := some .boolean }, accessFlags := 0, code := some k11c7 }
def k11c8 : Code := { maxStack := 3, maxLocals := 2, code := jdk_42_method_155_code, exceptionTable := #[], attributes := #[] }
def k11m8 : Method := { name := "checkIndex", desc := "(II)V", sig := { parameters := [.int, .int], returnType := none }, accessFlags := 8, code := some k11c8 }
/-- java/lang/String -/
def k11 : Class := { plain "java/lang/String" (some 0) with
  accessFlags := 49
  interfaces := #[6, 7, 4, 9, 10]
  cf := some (fileOf pool11 10 #[.nestMembers #[1103]] #[{ accessFlags := 1, nameIndex := 5, descriptorIndex := 6, attributes := #[] }, { accessFlags := 1, nameIndex := 5, descriptorIndex := 1233, attributes := #[] }, { accessFlags := 1, nameIndex := 507, descriptorIndex := 334, attributes := #[] }, { accessFlags := 1, nameIndex := 692, descriptorIndex := 142, attributes := #[] }, { accessFlags := 1, nameIndex := 497, descriptorIndex := 427, attributes := #[] }, { accessFlags := 0, nameIndex := 5, descriptorIndex := 491, attributes := #[] }, { accessFlags := 0, nameIndex := 17, descriptorIndex := 337, attributes := #[] }, { accessFlags := 0, nameIndex := 494, descriptorIndex := 142, attributes := #[] }, { accessFlags := 8, nameIndex := 501, descriptorIndex := 391, attributes := #[] }] 49 2 #[1106, 1108, 575, 1110, 1112] #[{ accessFlags := 18, nameIndex := 13, descriptorIndex := 14, attributes := #[] }, { accessFlags := 18, nameIndex := 17, descriptorIndex := 18, attributes := #[] }, { accessFlags := 2, nameIndex := 21, descriptorIndex := 22, attributes := #[] }, { accessFlags := 2, nameIndex := 25, descriptorIndex := 26, attributes := #[] }, { accessFlags := 26, nameIndex := 1116, descriptorIndex := 1117, attributes := #[] }, { accessFlags := 24, nameIndex := 40, descriptorIndex := 26, attributes := #[] }, { accessFlags := 26, nameIndex := 1101, descriptorIndex := 1102, attributes := #[] }, { accessFlags := 26, nameIndex := 1121, descriptorIndex := 1122, attributes := #[] }, { accessFlags := 25, nameIndex := 599, descriptorIndex := 600, attributes := #[] }, { accessFlags := 24, nameIndex := 1125, descriptorIndex := 18, attributes := #[] }, { accessFlags := 24, nameIndex := 1127, descriptorIndex := 18, attributes := #[] }])
  fields := #[{ name := "value", type := (.array .byte), accessFlags := 18, slot := 0, constantValue := 0 }, { name := "coder", type := .byte, accessFlags := 18, slot := 1, constantValue := 0 }, { name := "hash", type := .int, accessFlags := 2, slot := 2, constantValue := 0 }, { name := "hashIsZero", type := .boolean, accessFlags := 2, slot := 3, constantValue := 0 }, { name := "serialVersionUID", type := .long, accessFlags := 26, slot := 0, constantValue := 0 }, { name := "COMPACT_STRINGS", type := .boolean, accessFlags := 24, slot := 1, constantValue := 0 }, { name := "serialPersistentFields", type := (.array (.object "java/io/ObjectStreamField")), accessFlags := 26, slot := 2, constantValue := 0 }, { name := "REPL", type := .char, accessFlags := 26, slot := 3, constantValue := 0 }, { name := "CASE_INSENSITIVE_ORDER", type := (.object "java/util/Comparator"), accessFlags := 25, slot := 4, constantValue := 0 }, { name := "LATIN1", type := .byte, accessFlags := 24, slot := 5, constantValue := 0 }, { name := "UTF16", type := .byte, accessFlags := 24, slot := 6, constantValue := 0 }]
  methods := #[k11m0, k11m1, k11m2, k11m3, k11m4, k11m5, k11m6, k11m7, k11m8]
  instanceTypes := #[(.array .byte), .byte, .int, .boolean]
  staticTypes := #[.long, .boolean, (.array (.object "java/io/ObjectStreamField")), .char, (.object "java/util/Comparator"), .byte, .byte]
  resolved := Array.replicate 1451 none
  statics := some 0 }

def pool12 : Array CpInfo := pool [(2, .class_ 4), (1, u "java/lang/Object"), (0, u "<init>"), (0, u "()V"), (7, .class_ 16), (1, u "java/util/Arrays"), (57, .class_ 76), (1, u "java/util/Arrays$NaturalOrder"), (32, u "()Ljava/lang/Object;"), (3, .class_ 115), (1, u "java/util/Arrays$LegacyMergeSort"), (1, u "Z"), (10, .nameAndType 129 109), (0, u "clone"), (9, u "copyOfRange"), (10, .methodref 151 152), (0, .class_ 153), (0, .nameAndType 154 155), (0, u "java/lang/System"), (0, u "arraycopy"), (0, u "(Ljava/lang/Object;ILjava/lang/Object;II)V"), (146, u "copyOf"), (1, .methodref 305 306), (0, .class_ 307), (0, .nameAndType 308 309), (0, u "java/lang/Math"), (0, u "min"), (0, u "(II)I"), (0, .methodref 311 128), (0, .class_ 312), (0, u "[B"), (26, .methodref 14 340), (0, .nameAndType 341 342), (0, u "copyOfRangeByte"), (0, u "([BII)[B"), (0, .methodref 14 344), (0, .nameAndType 345 346), (0, u "checkLength"), (0, u "(II)V"), (28, .class_ 376), (0, u "java/util/Arrays$ArrayList"), (68, u "$assertionsDisabled"), (269, u "MIN_ARRAY_SORT_GRAN"), (0, u "I"), (2, u "INSERTIONSORT_THRESHOLD"), (149, u "([BI)[B"), (105, .class_ 976), (0, u "java/util/Arrays$ArrayItr")] 52

def k12m0 : Method := { name := "<init>", desc := "()V", sig := { parameters := [], returnType := none }, accessFlags := 2, code := none }
def k12c1 : Code := { maxStack := 6, maxLocals := 3, code := jdk_65_method_121_code, exceptionTable := #[], attributes := #[] }
def k12m1 : Method := { name := "copyOf", desc := "([BI)[B", sig := { parameters := [(.array .byte), .int], returnType := some (.array .byte) }, accessFlags := 9, code := some k12c1 }
def k12c2 : Code := { maxStack := 4, maxLocals := 2, code := jdk_65_method_131_code, exceptionTable := #[], attributes := #[] }
def k12m2 : Method := { name := "checkLength", desc := "(II)V", sig := { parameters := [.int, .int], returnType := none }, accessFlags := 10, code := some k12c2 }
def k12c3 : Code := { maxStack := 3, maxLocals := 3, code := jdk_65_method_132_code, exceptionTable := #[], attributes := #[] }
def k12m3 : Method := { name := "copyOfRange", desc := "([BII)[B", sig := { parameters := [(.array .byte), .int, .int], returnType := some (.array .byte) }, accessFlags := 9, code := some k12c3 }
def k12c4 : Code := { maxStack := 6, maxLocals := 5, code := jdk_65_method_133_code, exceptionTable := #[], attributes := #[] }
def k12m4 : Method := { name := "copyOfRangeByte", desc := "([BII)[B", sig := { parameters := [(.array .byte), .int, .int], returnType := some (.array .byte) }, accessFlags := 10, code := some k12c4 }
/-- java/util/Arrays -/
def k12 : Class := { plain "java/util/Arrays" (some 0) with
  accessFlags := 49
  interfaces := #[]
  cf := some (fileOf pool12 14 #[.nestMembers #[975, 375, 113, 74]] #[{ accessFlags := 2, nameIndex := 5, descriptorIndex := 6, attributes := #[] }, { accessFlags := 9, nameIndex := 302, descriptorIndex := 869, attributes := #[] }, { accessFlags := 10, nameIndex := 345, descriptorIndex := 346, attributes := #[] }, { accessFlags := 9, nameIndex := 139, descriptorIndex := 342, attributes := #[] }, { accessFlags := 10, nameIndex := 341, descriptorIndex := 342, attributes := #[] }] 49 2 #[] #[{ accessFlags := 26, nameIndex := 715, descriptorIndex := 716, attributes := #[] }, { accessFlags := 26, nameIndex := 719, descriptorIndex := 716, attributes := #[] }, { accessFlags := 4120, nameIndex := 445, descriptorIndex := 117, attributes := #[] }])
  fields := #[{ name := "MIN_ARRAY_SORT_GRAN", type := .int, accessFlags := 26, slot := 0, constantValue := 0 }, { name := "INSERTIONSORT_THRESHOLD", type := .int, accessFlags := 26, slot := 1, constantValue := 0 }, { name := "$assertionsDisabled", type := .boolean, accessFlags := 4120, slot := 2, constantValue := 0 }]
  methods := #[k12m0, k12m1, k12m2, k12m3, k12m4]
  instanceTypes := #[]
  staticTypes := #[.int, .int, .boolean]
  resolved := Array.replicate 1029 none
  statics := none }

def pool13 : Array CpInfo := pool [(1, .class_ 2), (0, u "java/lang/Math"), (1, .class_ 6), (1, u "java/lang/Object"), (0, u "<init>"), (0, u "()V"), (89, .class_ 100), (1, u "java/lang/Math$RandomNumberGeneratorHolder"), (71, u "negativeZeroFloatBits"), (0, u "J"), (2, u "negativeZeroDoubleBits"), (21, u "max"), (2, u "min"), (43, u "$assertionsDisabled"), (0, u "Z"), (88, u "(II)I"), (2, u "twoToTheDoubleScaleDown"), (0, u "D"), (4, u "twoToTheDoubleScaleUp"), (9, u "E"), (3, u "PI"), (2, u "TAU"), (2, u "DEGREES_TO_RADIANS"), (0, u "RADIANS_TO_DEGREES")] 94

def k13m0 : Method := { name := "<init>", desc := "()V", sig := { parameters := [], returnType := none }, accessFlags := 2, code := none }
def k13c1 : Code := { maxStack := 2, maxLocals := 2, code := jdk_29_method_65_code, exceptionTable := #[], attributes := #[] }
def k13m1 : Method := { name := "max", desc := "(II)I", sig := { parameters := [.int, .int], returnType := some .int }, accessFlags := 9, code := some k13c1 }
def k13c2 : Code := { maxStack := 2, maxLocals := 2, code := jdk_29_method_69_code, exceptionTable := #[], attributes := #[] }
def k13m2 : Method := { name := "min", desc := "(II)I", sig := { parameters := [.int, .int], returnType := some .int }, accessFlags := 9, code := some k13c2 }
/-- java/lang/Math -/
def k13 : Class := { plain "java/lang/Math" (some 0) with
  accessFlags := 49
  interfaces := #[]
  cf := some (fileOf pool13 1 #[.nestMembers #[98]] #[{ accessFlags := 2, nameIndex := 7, descriptorIndex := 8, attributes := #[] }, { accessFlags := 9, nameIndex := 198, descriptorIndex := 335, attributes := #[] }, { accessFlags := 9, nameIndex := 201, descriptorIndex := 335, attributes := #[] }] 49 4 #[] #[{ accessFlags := 25, nameIndex := 354, descriptorIndex := 339, attributes := #[] }, { accessFlags := 25, nameIndex := 358, descriptorIndex := 339, attributes := #[] }, { accessFlags := 25, nameIndex := 361, descriptorIndex := 339, attributes := #[] }, { accessFlags := 26, nameIndex := 364, descriptorIndex := 339, attributes := #[] }, { accessFlags := 26, nameIndex := 365, descriptorIndex := 339, attributes := #[] }, { accessFlags := 26, nameIndex := 172, descriptorIndex := 173, attributes := #[] }, { accessFlags := 26, nameIndex := 176, descriptorIndex := 173, attributes := #[] }, { accessFlags := 8, nameIndex := 344, descriptorIndex := 339, attributes := #[] }, { accessFlags := 8, nameIndex := 338, descriptorIndex := 339, attributes := #[] }, { accessFlags := 4120, nameIndex := 245, descriptorIndex := 246, attributes := #[] }])
  fields := #[{ name := "E", type := .double, accessFlags := 25, slot := 0, constantValue := 0 }, { name := "PI", type := .double, accessFlags := 25, slot := 1, constantValue := 0 }, { name := "TAU", type := .double, accessFlags := 25, slot := 2, constantValue := 0 }, { name := "DEGREES_TO_RADIANS", type := .double, accessFlags := 26, slot := 3, constantValue := 0 }, { name := "RADIANS_TO_DEGREES", type := .double, accessFlags := 26, slot := 4, constantValue := 0 }, { name := "negativeZeroFloatBits", type := .long, accessFlags := 26, slot := 5, constantValue := 0 }, { name := "negativeZeroDoubleBits", type := .long, accessFlags := 26, slot := 6, constantValue := 0 }, { name := "twoToTheDoubleScaleUp", type := .double, accessFlags := 8, slot := 7, constantValue := 0 }, { name := "twoToTheDoubleScaleDown", type := .double, accessFlags := 8, slot := 8, constantValue := 0 }, { name := "$assertionsDisabled", type := .boolean, accessFlags := 4120, slot := 9, constantValue := 0 }]
  methods := #[k13m0, k13m1, k13m2]
  instanceTypes := #[]
  staticTypes := #[.double, .double, .double, .double, .double, .long, .long, .double, .double, .boolean]
  resolved := Array.replicate 460 none
  statics := none }

def pool14 : Array CpInfo := pool [(2, .class_ 4), (1, u "java/lang/Object"), (0, u "<init>"), (0, u "()V"), (1, .class_ 10), (1, u "java/lang/System"), (0, u "allowSecurityManager"), (0, u "I"), (16, u "cons"), (0, u "Ljava/io/Console;"), (77, .class_ 110), (1, u "java/lang/System$CallersHolder"), (43, u "initialErrStream"), (0, u "Ljava/io/PrintStream;"), (19, u "security"), (0, u "Ljava/lang/SecurityManager;"), (31, .class_ 209), (0, u "java/lang/System$1"), (7, u "props"), (0, u "Ljava/util/Properties;"), (2, u "lineSeparator"), (0, u "Ljava/lang/String;"), (96, .class_ 321), (1, u "java/lang/System$LoggerFinder"), (5, .class_ 328), (0, u "java/lang/System$Logger"), (67, u "err"), (2, u "out"), (91, u "notSupportedJnuEncoding"), (15, u "in"), (17, u "initialIn"), (0, u "Ljava/io/InputStream;"), (35, u "bootLayer"), (0, u "Ljava/lang/ModuleLayer;"), (99, .class_ 664), (0, u "java/lang/System$2"), (9, u "NEVER"), (2, u "MAYBE"), (49, u "arraycopy"), (0, u "(Ljava/lang/Object;ILjava/lang/Object;II)V"), (72, .class_ 802), (0, u "java/lang/System$Logger$Level")] 31

def k14m0 : Method := { name := "<init>", desc := "()V", sig := { parameters := [], returnType := none }, accessFlags := 2, code := none }
def k14m1 : Method := { name := "arraycopy", desc := "(Ljava/lang/Object;ILjava/lang/Object;II)V", sig := { parameters := [(.object "java/lang/Object"), .int, (.object "java/lang/Object"), .int, .int], returnType := none }, accessFlags := 265, code := none }
/-- java/lang/System -/
def k14 : Class := { plain "java/lang/System" (some 0) with
  accessFlags := 49
  interfaces := #[]
  cf := some (fileOf pool14 8 #[.nestMembers #[319, 327, 801, 108, 663, 208]] #[{ accessFlags := 2, nameIndex := 5, descriptorIndex := 6, attributes := #[] }, { accessFlags := 265, nameIndex := 727, descriptorIndex := 728, attributes := #[] }] 49 2 #[] #[{ accessFlags := 25, nameIndex := 507, descriptorIndex := 526, attributes := #[] }, { accessFlags := 25, nameIndex := 399, descriptorIndex := 155, attributes := #[] }, { accessFlags := 25, nameIndex := 396, descriptorIndex := 155, attributes := #[] }, { accessFlags := 10, nameIndex := 525, descriptorIndex := 526, attributes := #[] }, { accessFlags := 26, nameIndex := 674, descriptorIndex := 12, attributes := #[] }, { accessFlags := 26, nameIndex := 677, descriptorIndex := 12, attributes := #[] }, { accessFlags := 10, nameIndex := 11, descriptorIndex := 12, attributes := #[] }, { accessFlags := 74, nameIndex := 175, descriptorIndex := 176, attributes := #[] }, { accessFlags := 10, nameIndex := 491, descriptorIndex := 222, attributes := #[] }, { accessFlags := 74, nameIndex := 29, descriptorIndex := 30, attributes := #[] }, { accessFlags := 74, nameIndex := 154, descriptorIndex := 155, attributes := #[] }, { accessFlags := 10, nameIndex := 217, descriptorIndex := 218, attributes := #[] }, { accessFlags := 10, nameIndex := 221, descriptorIndex := 222, attributes := #[] }, { accessFlags := 8, nameIndex := 562, descriptorIndex := 563, attributes := #[] }])
  fields := #[{ name := "in", type := (.object "java/io/InputStream"), accessFlags := 25, slot := 0, constantValue := 0 }, { name := "out", type := (.object "java/io/PrintStream"), accessFlags := 25, slot := 1, constantValue := 0 }, { name := "err", type := (.object "java/io/PrintStream"), accessFlags := 25, slot := 2, constantValue := 0 }, { name := "initialIn", type := (.object "java/io/InputStream"), accessFlags := 10, slot := 3, constantValue := 0 }, { name := "NEVER", type := .int, accessFlags := 26, slot := 4, constantValue := 0 }, { name := "MAYBE", type := .int, accessFlags := 26, slot := 5, constantValue := 0 }, { name := "allowSecurityManager", type := .int, accessFlags := 10, slot := 6, constantValue := 0 }, { name := "security", type := (.object "java/lang/SecurityManager"), accessFlags := 74, slot := 7, constantValue := 0 }, { name := "notSupportedJnuEncoding", type := (.object "java/lang/String"), accessFlags := 10, slot := 8, constantValue := 0 }, { name := "cons", type := (.object "java/io/Console"), accessFlags := 74, slot := 9, constantValue := 0 }, { name := "initialErrStream", type := (.object "java/io/PrintStream"), accessFlags := 74, slot := 10, constantValue := 0 }, { name := "props", type := (.object "java/util/Properties"), accessFlags := 10, slot := 11, constantValue := 0 }, { name := "lineSeparator", type := (.object "java/lang/String"), accessFlags := 10, slot := 12, constantValue := 0 }, { name := "bootLayer", type := (.object "java/lang/ModuleLayer"), accessFlags := 8, slot := 13, constantValue := 0 }]
  methods := #[k14m0, k14m1]
  instanceTypes := #[]
  staticTypes := #[(.object "java/io/InputStream"), (.object "java/io/PrintStream"), (.object "java/io/PrintStream"), (.object "java/io/InputStream"), .int, .int, .int, (.object "java/lang/SecurityManager"), (.object "java/lang/String"), (.object "java/io/Console"), (.object "java/io/PrintStream"), (.object "java/util/Properties"), (.object "java/lang/String"), (.object "java/lang/ModuleLayer")]
  resolved := Array.replicate 834 none
  statics := none }

def pool15 : Array CpInfo := pool [(2, .class_ 4), (1, u "java/lang/Object"), (0, u "<init>"), (0, u "()V"), (1, .class_ 10), (1, u "java/lang/Number"), (2, .class_ 14), (0, u "java/io/Serializable"), (0, u "serialVersionUID"), (0, u "J")] 20

def k15m0 : Method := { name := "<init>", desc := "()V", sig := { parameters := [], returnType := none }, accessFlags := 1, code := none }
/-- java/lang/Number -/
def k15 : Class := { plain "java/lang/Number" (some 0) with
  accessFlags := 1057
  interfaces := #[6]
  cf := some (fileOf pool15 8 #[] #[{ accessFlags := 1, nameIndex := 5, descriptorIndex := 6, attributes := #[] }] 1057 2 #[13] #[{ accessFlags := 26, nameIndex := 15, descriptorIndex := 16, attributes := #[] }])
  fields := #[{ name := "serialVersionUID", type := .long, accessFlags := 26, slot := 0, constantValue := 0 }]
  methods := #[k15m0]
  instanceTypes := #[]
  staticTypes := #[.long]
  resolved := Array.replicate 37 none
  statics := none }

def pool16 : Array CpInfo := pool [(1, .class_ 2), (0, u "java/lang/Integer"), (16, u "digits"), (0, u "[C"), (33, u "(I)I"), (19, u "stringSize"), (2, u "getChars"), (0, u "(II[B)I"), (4, .fieldref 1 84), (0, .nameAndType 85 86), (0, u "DigitOnes"), (0, u "[B"), (0, .fieldref 1 88), (0, .nameAndType 89 86), (0, u "DigitTens"), (99, .class_ 190), (0, u "java/lang/Integer$IntegerCache"), (3, u "I"), (8, .class_ 204), (0, u "java/lang/Number"), (2, u "value"), (94, u "TYPE"), (0, u "Ljava/lang/Class;"), (0, .class_ 305), (0, u "java/lang/Comparable"), (0, .class_ 307), (0, u "java/lang/constant/Constable"), (0, .class_ 309), (0, u "java/lang/constant/ConstantDesc"), (0, u "MIN_VALUE"), (1, u "MAX_VALUE"), (3, u "SIZE"), (1, u "BYTES"), (1, u "serialVersionUID"), (0, u "J")] 131

def k16c0 : Code := { maxStack := 4, maxLocals := 7, code := jdk_33_method_12_code, exceptionTable := #[], attributes := #[] }
def k16m0 : Method := { name := "getChars", desc := "(II[B)I", sig := { parameters := [.int, .int, (.array .byte)], returnType := some .int }, accessFlags := 8, code := some k16c0 }
def k16c1 : Code := { maxStack := 2, maxLocals := 4, code := jdk_33_method_13_code, exceptionTable := #[], attributes := #[] }
def k16m1 : Method := { name := "stringSize", desc := "(I)I", sig := { parameters := [.int], returnType := some .int }, accessFlags := 8, code := some k16c1 }
/-- java/lang/Integer -/
def k16 : Class := { plain "java/lang/Integer" (some 15) with
  accessFlags := 49
  interfaces := #[7, 9, 10]
  cf := some (fileOf pool16 1 #[.nestMembers #[189]] #[{ accessFlags := 8, nameIndex := 77, descriptorIndex := 78, attributes := #[] }, { accessFlags := 8, nameIndex := 74, descriptorIndex := 54, attributes := #[] }] 49 203 #[304, 306, 308] #[{ accessFlags := 25, nameIndex := 310, descriptorIndex := 194, attributes := #[] }, { accessFlags := 25, nameIndex := 312, descriptorIndex := 194, attributes := #[] }, { accessFlags := 25, nameIndex := 302, descriptorIndex := 303, attributes := #[] }, { accessFlags := 24, nameIndex := 19, descriptorIndex := 20, attributes := #[] }, { accessFlags := 24, nameIndex := 89, descriptorIndex := 86, attributes := #[] }, { accessFlags := 24, nameIndex := 85, descriptorIndex := 86, attributes := #[] }, { accessFlags := 18, nameIndex := 207, descriptorIndex := 194, attributes := #[] }, { accessFlags := 25, nameIndex := 316, descriptorIndex := 194, attributes := #[] }, { accessFlags := 25, nameIndex := 318, descriptorIndex := 194, attributes := #[] }, { accessFlags := 26, nameIndex := 320, descriptorIndex := 321, attributes := #[] }])
  fields := #[{ name := "MIN_VALUE", type := .int, accessFlags := 25, slot := 0, constantValue := 0 }, { name := "MAX_VALUE", type := .int, accessFlags := 25, slot := 1, constantValue := 0 }, { name := "TYPE", type := (.object "java/lang/Class"), accessFlags := 25, slot := 2, constantValue := 0 }, { name := "digits", type := (.array .char), accessFlags := 24, slot := 3, constantValue := 0 }, { name := "DigitTens", type := (.array .byte), accessFlags := 24, slot := 4, constantValue := 0 }, { name := "DigitOnes", type := (.array .byte), accessFlags := 24, slot := 5, constantValue := 0 }, { name := "value", type := .int, accessFlags := 18, slot := 0, constantValue := 0 }, { name := "SIZE", type := .int, accessFlags := 25, slot := 6, constantValue := 0 }, { name := "BYTES", type := .int, accessFlags := 25, slot := 7, constantValue := 0 }, { name := "serialVersionUID", type := .long, accessFlags := 26, slot := 8, constantValue := 0 }]
  methods := #[k16m0, k16m1]
  instanceTypes := #[.int]
  staticTypes := #[.int, .int, (.object "java/lang/Class"), (.array .char), (.array .byte), (.array .byte), .int, .int, .long]
  resolved := Array.replicate 453 none
  statics := some 1 }

def pool17 : Array CpInfo := pool [(1, .class_ 2), (0, u "java/lang/String"), (1, .class_ 6), (1, u "java/lang/Object"), (0, u "<init>"), (0, u "()V"), (0, .methodref 1 10), (0, .nameAndType 11 12), (0, u "checkIndex"), (0, u "(II)V"), (1, .class_ 16), (1, u "java/lang/StringLatin1"), (36, u "([BI)C"), (36, u "canEncode"), (14, u "(C)Z"), (15, u "$assertionsDisabled"), (0, u "Z"), (98, .class_ 223), (1, u "java/lang/StringLatin1$LinesSpliterator"), (28, u "charAt"), (137, .class_ 391), (0, u "java/lang/StringLatin1$CharsSpliterator")] 3

def k17m0 : Method := { name := "<init>", desc := "()V", sig := { parameters := [], returnType := none }, accessFlags := 0, code := none }
def k17c1 : Code := { maxStack := 2, maxLocals := 2, code := jdk_43_method_2_code, exceptionTable := #[], attributes := #[] }
def k17m1 : Method := { name := "charAt", desc := "([BI)C", sig := { parameters := [(.array .byte), .int], returnType := some .char }, accessFlags := 9, code := some k17c1 }
def k17c2 : Code := { maxStack := 2, maxLocals := 1, code := jdk_43_method_3_code, exceptionTable := #[], attributes := #[] }
def k17m2 : Method := { name := "canEncode", desc := "(C)Z", sig := { parameters := [.char], returnType := some .boolean }, accessFlags := 9, code := some k17c2 }
/-- java/lang/StringLatin1 -/
def k17 : Class := { plain "java/lang/StringLatin1" (some 0) with
  accessFlags := 48
  interfaces := #[]
  cf := some (fileOf pool17 14 #[.nestMembers #[390, 221]] #[{ accessFlags := 0, nameIndex := 7, descriptorIndex := 8, attributes := #[] }, { accessFlags := 9, nameIndex := 252, descriptorIndex := 53, attributes := #[] }, { accessFlags := 9, nameIndex := 90, descriptorIndex := 105, attributes := #[] }] 48 4 #[] #[{ accessFlags := 4120, nameIndex := 121, descriptorIndex := 122, attributes := #[] }])
  fields := #[{ name := "$assertionsDisabled", type := .boolean, accessFlags := 4120, slot := 0, constantValue := 0 }]
  methods := #[k17m0, k17m1, k17m2]
  instanceTypes := #[]
  staticTypes := #[.boolean]
  resolved := Array.replicate 395 none
  statics := none }

def pool18 : Array CpInfo := pool [(2, .class_ 4), (1, u "java/lang/Object"), (0, u "<init>"), (0, u "()V"), (17, .class_ 26), (1, u "jdk/internal/util/Preconditions"), (6, u "checkIndex"), (21, .class_ 56), (0, u "jdk/internal/util/Preconditions$4"), (57, .class_ 115), (0, u "jdk/internal/util/Preconditions$1"), (7, u "SIOOBE_FORMATTER"), (0, u "Ljava/util/function/BiFunction;"), (0, .class_ 126), (0, u "jdk/internal/util/Preconditions$2"), (3, u "AIOOBE_FORMATTER"), (0, .class_ 132), (0, u "jdk/internal/util/Preconditions$3"), (3, u "IOOBE_FORMATTER"), (41, u "(IILjava/util/function/BiFunction;)I")] 15

def k18m0 : Method := { name := "<init>", desc := "()V", sig := { parameters := [], returnType := none }, accessFlags := 1, code := none }
def k18c1 : Code := { maxStack := 3, maxLocals := 3, code := jdk_41_method_11_code, exceptionTable := #[], attributes := #[] }
def k18m1 : Method := { name := "checkIndex", desc := "(IILjava/util/function/BiFunction;)I", sig := { parameters := [.int, .int, (.object "java/util/function/BiFunction")], returnType := some .int }, accessFlags := 9, code := some k18c1 }
/-- jdk/internal/util/Preconditions -/
def k18 : Class := { plain "jdk/internal/util/Preconditions" (some 0) with
  accessFlags := 33
  interfaces := #[]
  cf := some (fileOf pool18 24 #[.nestMembers #[55, 131, 125, 114]] #[{ accessFlags := 1, nameIndex := 5, descriptorIndex := 6, attributes := #[] }, { accessFlags := 9, nameIndex := 33, descriptorIndex := 178, attributes := #[] }] 33 2 #[] #[{ accessFlags := 25, nameIndex := 123, descriptorIndex := 124, attributes := #[] }, { accessFlags := 25, nameIndex := 130, descriptorIndex := 124, attributes := #[] }, { accessFlags := 25, nameIndex := 136, descriptorIndex := 124, attributes := #[] }])
  fields := #[{ name := "SIOOBE_FORMATTER", type := (.object "java/util/function/BiFunction"), accessFlags := 25, slot := 0, constantValue := 0 }, { name := "AIOOBE_FORMATTER", type := (.object "java/util/function/BiFunction"), accessFlags := 25, slot := 1, constantValue := 0 }, { name := "IOOBE_FORMATTER", type := (.object "java/util/function/BiFunction"), accessFlags := 25, slot := 2, constantValue := 0 }]
  methods := #[k18m0, k18m1]
  instanceTypes := #[]
  staticTypes := #[(.object "java/util/function/BiFunction"), (.object "java/util/function/BiFunction"), (.object "java/util/function/BiFunction")]
  resolved := Array.replicate 194 none
  statics := some 2 }

def pool19 : Array CpInfo := pool [(9, u "<init>"), (6, .class_ 18), (1, u "java/lang/Object"), (0, u "()V"), (1, .class_ 23), (1, u "jdk/internal/util/ArraysSupport"), (0, u "LOG2_ARRAY_LONG_INDEX_SCALE"), (0, u "I"), (2, u "U"), (0, u "Ljdk/internal/misc/Unsafe;"), (8, u "BIG_ENDIAN"), (0, u "Z"), (8, u "LOG2_BYTE_BIT_SIZE"), (4, u "LOG2_ARRAY_INT_INDEX_SCALE"), (54, u "JLA"), (0, u "Ljdk/internal/access/JavaLangAccess;"), (11, u "LOG2_ARRAY_BOOLEAN_INDEX_SCALE"), (9, u "LOG2_ARRAY_BYTE_INDEX_SCALE"), (5, u "LOG2_ARRAY_CHAR_INDEX_SCALE"), (5, u "LOG2_ARRAY_SHORT_INDEX_SCALE"), (18, u "LOG2_ARRAY_FLOAT_INDEX_SCALE"), (24, u "LOG2_ARRAY_DOUBLE_INDEX_SCALE"), (6, .methodref 195 196), (0, .class_ 197), (0, .nameAndType 198 199), (0, u "java/lang/Math"), (0, u "max"), (0, u "(II)I"), (0, .integer 2147483639), (76, u "T_BOOLEAN"), (2, u "T_CHAR"), (1, u "T_FLOAT"), (1, u "T_DOUBLE"), (1, u "T_BYTE"), (1, u "T_SHORT"), (1, u "T_INT"), (1, u "T_LONG"), (1, u "SOFT_MAX_ARRAY_LENGTH"), (56, u "newLength"), (0, u "(III)I")] 25

def k19m0 : Method := { name := "<init>", desc := "()V", sig := { parameters := [], returnType := none }, accessFlags := 2, code := none }
def k19c1 : Code := { maxStack := 3, maxLocals := 4, code := jdk_48_method_27_code, exceptionTable := #[], attributes := #[] }
def k19m1 : Method := { name := "newLength", desc := "(III)I", sig := { parameters := [.int, .int, .int], returnType := some .int }, accessFlags := 9, code := some k19c1 }
/-- jdk/internal/util/ArraysSupport -/
def k19 : Class := { plain "jdk/internal/util/ArraysSupport" (some 0) with
  accessFlags := 33
  interfaces := #[]
  cf := some (fileOf pool19 21 #[] #[{ accessFlags := 2, nameIndex := 9, descriptorIndex := 19, attributes := #[] }, { accessFlags := 9, nameIndex := 351, descriptorIndex := 352, attributes := #[] }] 33 16 #[] #[{ accessFlags := 24, nameIndex := 28, descriptorIndex := 29, attributes := #[] }, { accessFlags := 26, nameIndex := 38, descriptorIndex := 39, attributes := #[] }, { accessFlags := 25, nameIndex := 121, descriptorIndex := 25, attributes := #[] }, { accessFlags := 25, nameIndex := 131, descriptorIndex := 25, attributes := #[] }, { accessFlags := 25, nameIndex := 137, descriptorIndex := 25, attributes := #[] }, { accessFlags := 25, nameIndex := 143, descriptorIndex := 25, attributes := #[] }, { accessFlags := 25, nameIndex := 53, descriptorIndex := 25, attributes := #[] }, { accessFlags := 25, nameIndex := 24, descriptorIndex := 25, attributes := #[] }, { accessFlags := 25, nameIndex := 162, descriptorIndex := 25, attributes := #[] }, { accessFlags := 25, nameIndex := 187, descriptorIndex := 25, attributes := #[] }, { accessFlags := 26, nameIndex := 48, descriptorIndex := 25, attributes := #[] }, { accessFlags := 25, nameIndex := 277, descriptorIndex := 25, attributes := #[] }, { accessFlags := 25, nameIndex := 280, descriptorIndex := 25, attributes := #[] }, { accessFlags := 25, nameIndex := 282, descriptorIndex := 25, attributes := #[] }, { accessFlags := 25, nameIndex := 284, descriptorIndex := 25, attributes := #[] }, { accessFlags := 25, nameIndex := 286, descriptorIndex := 25, attributes := #[] }, { accessFlags := 25, nameIndex := 288, descriptorIndex := 25, attributes := #[] }, { accessFlags := 25, nameIndex := 290, descriptorIndex := 25, attributes := #[] }, { accessFlags := 25, nameIndex := 292, descriptorIndex := 25, attributes := #[] }, { accessFlags := 26, nameIndex := 108, descriptorIndex := 109, attributes := #[] }, { accessFlags := 25, nameIndex := 294, descriptorIndex := 25, attributes := #[] }])
  fields := #[{ name := "U", type := (.object "jdk/internal/misc/Unsafe"), accessFlags := 24, slot := 0, constantValue := 0 }, { name := "BIG_ENDIAN", type := .boolean, accessFlags := 26, slot := 1, constantValue := 0 }, { name := "LOG2_ARRAY_BOOLEAN_INDEX_SCALE", type := .int, accessFlags := 25, slot := 2, constantValue := 0 }, { name := "LOG2_ARRAY_BYTE_INDEX_SCALE", type := .int, accessFlags := 25, slot := 3, constantValue := 0 }, { name := "LOG2_ARRAY_CHAR_INDEX_SCALE", type := .int, accessFlags := 25, slot := 4, constantValue := 0 }, { name := "LOG2_ARRAY_SHORT_INDEX_SCALE", type := .int, accessFlags := 25, slot := 5, constantValue := 0 }, { name := "LOG2_ARRAY_INT_INDEX_SCALE", type := .int, accessFlags := 25, slot := 6, constantValue := 0 }, { name := "LOG2_ARRAY_LONG_INDEX_SCALE", type := .int, accessFlags := 25, slot := 7, constantValue := 0 }, { name := "LOG2_ARRAY_FLOAT_INDEX_SCALE", type := .int, accessFlags := 25, slot := 8, constantValue := 0 }, { name := "LOG2_ARRAY_DOUBLE_INDEX_SCALE", type := .int, accessFlags := 25, slot := 9, constantValue := 0 }, { name := "LOG2_BYTE_BIT_SIZE", type := .int, accessFlags := 26, slot := 10, constantValue := 0 }, { name := "T_BOOLEAN", type := .int, accessFlags := 25, slot := 11, constantValue := 0 }, { name := "T_CHAR", type := .int, accessFlags := 25, slot := 12, constantValue := 0 }, { name := "T_FLOAT", type := .int, accessFlags := 25, slot := 13, constantValue := 0 }, { name := "T_DOUBLE", type := .int, accessFlags := 25, slot := 14, constantValue := 0 }, { name := "T_BYTE", type := .int, accessFlags := 25, slot := 15, constantValue := 0 }, { name := "T_SHORT", type := .int, accessFlags := 25, slot := 16, constantValue := 0 }, { name := "T_INT", type := .int, accessFlags := 25, slot := 17, constantValue := 0 }, { name := "T_LONG", type := .int, accessFlags := 25, slot := 18, constantValue := 0 }, { name := "JLA", type := (.object "jdk/internal/access/JavaLangAccess"), accessFlags := 26, slot := 19, constantValue := 0 }, { name := "SOFT_MAX_ARRAY_LENGTH", type := .int, accessFlags := 25, slot := 20, constantValue := 0 }]
  methods := #[k19m0, k19m1]
  instanceTypes := #[]
  staticTypes := #[(.object "jdk/internal/misc/Unsafe"), .boolean, .int, .int, .int, .int, .int, .int, .int, .int, .int, .int, .int, .int, .int, .int, .int, .int, .int, (.object "jdk/internal/access/JavaLangAccess"), .int]
  resolved := Array.replicate 378 none
  statics := none }

def pool20 : Array CpInfo := pool [(1, .class_ 2), (0, u "java/lang/Cloneable"), (0, .class_ 4), (0, u "java/lang/Object")] 2

/-- java/lang/Cloneable -/
def k20 : Class := { plain "java/lang/Cloneable" (some 0) with
  accessFlags := 1537
  interfaces := #[]
  cf := some (fileOf pool20 1 #[] #[] 1537 3 #[] #[])
  fields := #[]
  methods := #[]
  instanceTypes := #[]
  staticTypes := #[]
  resolved := Array.replicate 7 none
  statics := none }

/-- the primitive byte -/
def k21 : Class := { plain "byte" none with kind := .primitive 'B', accessFlags := 0x411 }
/-- [B -/
def k22 : Class := { plain "[B" (some 0) with kind := .array 21 .byte, interfaces := #[20, 6], accessFlags := 1041 }

/-- the primitive int -/
def k23 : Class := { plain "int" none with kind := .primitive 'I', accessFlags := 0x411 }
/-- [I -/
def k24 : Class := { plain "[I" (some 0) with kind := .array 23 .int, interfaces := #[20, 6], accessFlags := 1041 }

def heap : Heap := #[{ cls := 11, slots := #[.long 0, .int 1, .null, .int 0, .null, .int 0, .int 0], vm := .statics 11 },
  { cls := 16, slots := #[.int 0, .int 0, .null, .null, .ref 4, .ref 3, .int 0, .int 0, .long 0], vm := .statics 16 },
  { cls := 18, slots := #[.null, .null, .null], vm := .statics 18 },
  { cls := 22, slots := #[.int 48, .int 49, .int 50, .int 51, .int 52, .int 53, .int 54, .int 55, .int 56, .int 57, .int 48, .int 49, .int 50, .int 51, .int 52, .int 53, .int 54, .int 55, .int 56, .int 57, .int 48, .int 49, .int 50, .int 51, .int 52, .int 53, .int 54, .int 55, .int 56, .int 57, .int 48, .int 49, .int 50, .int 51, .int 52, .int 53, .int 54, .int 55, .int 56, .int 57, .int 48, .int 49, .int 50, .int 51, .int 52, .int 53, .int 54, .int 55, .int 56, .int 57, .int 48, .int 49, .int 50, .int 51, .int 52, .int 53, .int 54, .int 55, .int 56, .int 57, .int 48, .int 49, .int 50, .int 51, .int 52, .int 53, .int 54, .int 55, .int 56, .int 57, .int 48, .int 49, .int 50, .int 51, .int 52, .int 53, .int 54, .int 55, .int 56, .int 57, .int 48, .int 49, .int 50, .int 51, .int 52, .int 53, .int 54, .int 55, .int 56, .int 57, .int 48, .int 49, .int 50, .int 51, .int 52, .int 53, .int 54, .int 55, .int 56, .int 57], vm := .none },
  { cls := 22, slots := #[.int 48, .int 48, .int 48, .int 48, .int 48, .int 48, .int 48, .int 48, .int 48, .int 48, .int 49, .int 49, .int 49, .int 49, .int 49, .int 49, .int 49, .int 49, .int 49, .int 49, .int 50, .int 50, .int 50, .int 50, .int 50, .int 50, .int 50, .int 50, .int 50, .int 50, .int 51, .int 51, .int 51, .int 51, .int 51, .int 51, .int 51, .int 51, .int 51, .int 51, .int 52, .int 52, .int 52, .int 52, .int 52, .int 52, .int 52, .int 52, .int 52, .int 52, .int 53, .int 53, .int 53, .int 53, .int 53, .int 53, .int 53, .int 53, .int 53, .int 53, .int 54, .int 54, .int 54, .int 54, .int 54, .int 54, .int 54, .int 54, .int 54, .int 54, .int 55, .int 55, .int 55, .int 55, .int 55, .int 55, .int 55, .int 55, .int 55, .int 55, .int 56, .int 56, .int 56, .int 56, .int 56, .int 56, .int 56, .int 56, .int 56, .int 56, .int 57, .int 57, .int 57, .int 57, .int 57, .int 57, .int 57, .int 57, .int 57, .int 57], vm := .none }]
def classes : Array Class := #[k0, k1, k2, k3, k4, k5, k6, k7, k8, k9, k10, k11, k12, k13, k14, k15, k16, k17, k18, k19, k20, k21, k22, k23, k24]
def interned : List (Array UInt16 × Addr) := []
def slotsUsed : Nat := 219
def theMethod : MethodId := ⟨1, 1⟩
def args0 : Array Value := #[.int 3, .int 5, .int 1234, .int 99]
def aboutOver (below : List Frame) : State where
  vm := { classes := classes, interned := interned.toArray }
  heap := heap
  slotsUsed := slotsUsed
  threads := #[{ frames := .invoking theMethod args0 :: below }]
def below0 : List Frame := [.native { method := ⟨0, 0⟩, args := #[] }]
def about1 : State := aboutOver below0
def p0 : Program := .bare "" "" ""
def e0 : Env := launch0.env 0 0 0
theorem w_frames : about1.frames = Frame.invoking theMethod args0 :: below0 := rfl
set_option maxRecDepth 65536 in
theorem w_args : argsFit about1.vm theMethod args0 = true := by decide +kernel
set_option maxRecDepth 65536 in
theorem w_heap : heapFits about1 = true := by decide +kernel
set_option maxRecDepth 65536 in
theorem w_runnable : about1.curStatus? = some .runnable := by decide +kernel
set_option maxRecDepth 65536 in
theorem w_alone : about1.alone = true := by decide +kernel
set_option maxRecDepth 65536 in
theorem w_named : about1.methodNamed? x = some theMethod := by decide +kernel
set_option maxRecDepth 65536 in
theorem w_hears : about1.hears theMethod below0 = true := by decide +kernel
set_option maxRecDepth 65536 in
theorem w_ripe : about1.ripe theMethod args0 below0 = true := by decide +kernel
theorem w_running : about1.status = .running := rfl
set_option maxRecDepth 65536 in
theorem w_room : about1.hasRoom e0.platform room_1 = true :=
  launch0.hasRoom_least _ room_1 (by decide +kernel) (by decide +kernel) (by decide +kernel) (by decide +kernel) (by decide +kernel) (by decide +kernel)
theorem allAtoms_all (ts : List Jvm.Cond) (a : Array Jvm.Value) (st : Jvm.State) : (allAtoms ts).before a st = ts.all (fun c => c.before a st) := by
  induction ts with
  | nil => rfl
  | cons c t ih =>
    show (Jvm.Cond.and c (allAtoms t)).before a st = _
    rw [Jvm.Cond.before_and, ih, List.all_cons]
def words1 : List Jvm.Cond := Jvm.Cond.code x code maxLocals ret :: tables_1
/-- a 'code' word, met by the world's own term for the bytes: nothing is compared byte by byte -/
theorem code_word {y : MethodName} {bytes : ByteArray} {mx : Nat} {rt : Option FieldType} {a : Array Value} {s : State} {m : MethodId} {meth : Method} {c : Code} (h1 : s.methodNamed? y = some m) (h2 : s.vm.method? m = some meth) (h3 : meth.code = some c) (h4 : c.code = bytes)
    (h5 : (c.maxLocals == mx && c.exceptionTable.isEmpty && decide (c.maxStack ≤ mostOperands) && decide (meth.sig.returnType = rt) && !meth.locks && decide (parseMethodDescriptor y.desc = some meth.sig)) = true) : (Jvm.Cond.code y bytes mx rt).before a s = true := by
  simp only [Bool.and_eq_true, beq_iff_eq, Bool.not_eq_true', decide_eq_true_eq] at h5
  obtain ⟨⟨⟨⟨⟨g1, g2⟩, g3⟩, g4⟩, g5⟩, g6⟩ := h5
  simp [Cond.before, Cond.holds, Cond.value, h1, h2, h3, h4, g1, g2, g3, g4, g5, g6]
def isCode : Jvm.Cond → Bool
  | .code _ _ _ _ => true
  | _ => false
theorem all_split {L : List Jvm.Cond} {P : Jvm.Cond → Bool} (h1 : L.all (fun c => isCode c || P c) = true) (h2 : ∀ c ∈ L.filter isCode, P c = true) : L.all P = true := by
  refine List.all_eq_true.mpr fun c hc => ?_
  have h := List.all_eq_true.mp h1 c hc
  rcases Bool.eq_false_or_eq_true (isCode c) with hi | hi
  · exact h2 c (List.mem_filter.mpr ⟨hc, hi⟩)
  · simpa [hi] using h
set_option maxRecDepth 65536 in
theorem w_c0 : (Jvm.Cond.code x code maxLocals ret).before args0 about1 = true := code_word (m := ⟨1, 1⟩) (meth := k1m1) (c := k1c1) (by decide +kernel) rfl rfl rfl (by decide +kernel)
set_option maxRecDepth 65536 in
theorem w_c1 : (Jvm.Cond.code ({ cls := "com/example/medianpoint/medianpoint/AnswerPrinterSiteNumbersPinLaw", name := "site", desc := "(I)I" } : Jvm.MethodName) method_3_code (1 : Nat) (Option.some Jvm.ClassFile.FieldType.int)).before args0 about1 = true := code_word (m := ⟨1, 2⟩) (meth := k1m2) (c := k1c2) (by decide +kernel) rfl rfl rfl (by decide +kernel)
set_option maxRecDepth 65536 in
theorem w_c2 : (Jvm.Cond.code ({ cls := "com/example/medianpoint/medianpoint/AnswerPrinter", name := "siteNumbers", desc := "([I)Ljava/lang/String;" } : Jvm.MethodName) prog_2_method_3_code (6 : Nat) (Option.some (Jvm.ClassFile.FieldType.object "java/lang/String"))).before args0 about1 = true := code_word (m := ⟨2, 1⟩) (meth := k2m1) (c := k2c1) (by decide +kernel) rfl rfl rfl (by decide +kernel)
set_option maxRecDepth 65536 in
theorem w_c3 : (Jvm.Cond.code ({ cls := "java/lang/StringBuilder", name := "<init>", desc := "()V" } : Jvm.MethodName) jdk_67_method_1_code (1 : Nat) (Option.none : Option Jvm.ClassFile.FieldType)).before args0 about1 = true := code_word (m := ⟨8, 0⟩) (meth := k8m0) (c := k8c0) (by decide +kernel) rfl rfl rfl (by decide +kernel)
set_option maxRecDepth 65536 in
theorem w_c4 : (Jvm.Cond.code ({ cls := "java/lang/AbstractStringBuilder", name := "<init>", desc := "(I)V" } : Jvm.MethodName) jdk_68_method_2_code (2 : Nat) (Option.none : Option Jvm.ClassFile.FieldType)).before args0 about1 = true := code_word (m := ⟨5, 1⟩) (meth := k5m1) (c := k5c1) (by decide +kernel) rfl rfl rfl (by decide +kernel)
set_option maxRecDepth 65536 in
theorem w_c5 : (Jvm.Cond.code ({ cls := "java/lang/Object", name := "<init>", desc := "()V" } : Jvm.MethodName) object_method_1_code (1 : Nat) (Option.none : Option Jvm.ClassFile.FieldType)).before args0 about1 = true := code_word (m := ⟨0, 0⟩) (meth := k0m0) (c := k0c0) (by decide +kernel) rfl rfl rfl (by decide +kernel)
set_option maxRecDepth 65536 in
theorem w_c6 : (Jvm.Cond.code ({ cls := "java/lang/StringBuilder", name := "toString", desc := "()Ljava/lang/String;" } : Jvm.MethodName) jdk_67_method_42_code (1 : Nat) (Option.some (Jvm.ClassFile.FieldType.object "java/lang/String"))).before args0 about1 = true := code_word (m := ⟨8, 3⟩) (meth := k8m3) (c := k8c3) (by decide +kernel) rfl rfl rfl (by decide +kernel)
set_option maxRecDepth 65536 in
theorem w_c7 : (Jvm.Cond.code ({ cls := "java/lang/String", name := "<init>", desc := "(Ljava/lang/StringBuilder;)V" } : Jvm.MethodName) jdk_42_method_53_code (2 : Nat) (Option.none : Option Jvm.ClassFile.FieldType)).before args0 about1 = true := code_word (m := ⟨11, 1⟩) (meth := k11m1) (c := k11c1) (by decide +kernel) rfl rfl rfl (by decide +kernel)
set_option maxRecDepth 65536 in
theorem w_c8 : (Jvm.Cond.code ({ cls := "java/lang/String", name := "<init>", desc := "(Ljava/lang/AbstractStringBuilder;Ljava/lang/Void;)V" } : Jvm.MethodName) jdk_42_method_150_code (5 : Nat) (Option.none : Option Jvm.ClassFile.FieldType)).before args0 about1 = true := code_word (m := ⟨11, 5⟩) (meth := k11m5) (c := k11c5) (by decide +kernel) rfl rfl rfl (by decide +kernel)
set_option maxRecDepth 65536 in
theorem w_c9 : (Jvm.Cond.code ({ cls := "java/lang/AbstractStringBuilder", name := "getValue", desc := "()[B" } : Jvm.MethodName) jdk_68_method_64_code (1 : Nat) (Option.some (Jvm.ClassFile.FieldType.array Jvm.ClassFile.FieldType.byte))).before args0 about1 = true := code_word (m := ⟨5, 7⟩) (meth := k5m7) (c := k5c7) (by decide +kernel) rfl rfl rfl (by decide +kernel)
set_option maxRecDepth 65536 in
theorem w_c10 : (Jvm.Cond.code ({ cls := "java/lang/StringBuilder", name := "length", desc := "()I" } : Jvm.MethodName) jdk_67_method_93_code (1 : Nat) (Option.some Jvm.ClassFile.FieldType.int)).before args0 about1 = true := code_word (m := ⟨8, 4⟩) (meth := k8m4) (c := k8c4) (by decide +kernel) rfl rfl rfl (by decide +kernel)
set_option maxRecDepth 65536 in
theorem w_c11 : (Jvm.Cond.code ({ cls := "java/lang/AbstractStringBuilder", name := "length", desc := "()I" } : Jvm.MethodName) jdk_68_method_6_code (1 : Nat) (Option.some Jvm.ClassFile.FieldType.int)).before args0 about1 = true := code_word (m := ⟨5, 2⟩) (meth := k5m2) (c := k5c2) (by decide +kernel) rfl rfl rfl (by decide +kernel)
set_option maxRecDepth 65536 in
theorem w_c12 : (Jvm.Cond.code ({ cls := "java/lang/AbstractStringBuilder", name := "isLatin1", desc := "()Z" } : Jvm.MethodName) jdk_68_method_68_code (1 : Nat) (Option.some Jvm.ClassFile.FieldType.boolean)).before args0 about1 = true := code_word (m := ⟨5, 8⟩) (meth := k5m8) (c := k5c8) (by decide +kernel) rfl rfl rfl (by decide +kernel)
set_option maxRecDepth 65536 in
theorem w_c13 : (Jvm.Cond.code ({ cls := "java/util/Arrays", name := "copyOfRange", desc := "([BII)[B" } : Jvm.MethodName) jdk_65_method_132_code (3 : Nat) (Option.some (Jvm.ClassFile.FieldType.array Jvm.ClassFile.FieldType.byte))).before args0 about1 = true := code_word (m := ⟨12, 3⟩) (meth := k12m3) (c := k12c3) (by decide +kernel) rfl rfl rfl (by decide +kernel)
set_option maxRecDepth 65536 in
theorem w_c14 : (Jvm.Cond.code ({ cls := "java/util/Arrays", name := "copyOfRangeByte", desc := "([BII)[B" } : Jvm.MethodName) jdk_65_method_133_code (5 : Nat) (Option.some (Jvm.ClassFile.FieldType.array Jvm.ClassFile.FieldType.byte))).before args0 about1 = true := code_word (m := ⟨12, 4⟩) (meth := k12m4) (c := k12c4) (by decide +kernel) rfl rfl rfl (by decide +kernel)
set_option maxRecDepth 65536 in
theorem w_c15 : (Jvm.Cond.code ({ cls := "java/util/Arrays", name := "checkLength", desc := "(II)V" } : Jvm.MethodName) jdk_65_method_131_code (2 : Nat) (Option.none : Option Jvm.ClassFile.FieldType)).before args0 about1 = true := code_word (m := ⟨12, 2⟩) (meth := k12m2) (c := k12c2) (by decide +kernel) rfl rfl rfl (by decide +kernel)
set_option maxRecDepth 65536 in
theorem w_c16 : (Jvm.Cond.code ({ cls := "java/lang/Math", name := "min", desc := "(II)I" } : Jvm.MethodName) jdk_29_method_69_code (2 : Nat) (Option.some Jvm.ClassFile.FieldType.int)).before args0 about1 = true := code_word (m := ⟨13, 2⟩) (meth := k13m2) (c := k13c2) (by decide +kernel) rfl rfl rfl (by decide +kernel)
set_option maxRecDepth 65536 in
theorem w_c17 : (Jvm.Cond.code ({ cls := "java/lang/String", name := "isEmpty", desc := "()Z" } : Jvm.MethodName) jdk_42_method_55_code (1 : Nat) (Option.some Jvm.ClassFile.FieldType.boolean)).before args0 about1 = true := code_word (m := ⟨11, 3⟩) (meth := k11m3) (c := k11c3) (by decide +kernel) rfl rfl rfl (by decide +kernel)
set_option maxRecDepth 65536 in
theorem w_c18 : (Jvm.Cond.code ({ cls := "java/lang/StringBuilder", name := "append", desc := "(I)Ljava/lang/StringBuilder;" } : Jvm.MethodName) jdk_67_method_15_code (2 : Nat) (Option.some (Jvm.ClassFile.FieldType.object "java/lang/StringBuilder"))).before args0 about1 = true := code_word (m := ⟨8, 2⟩) (meth := k8m2) (c := k8c2) (by decide +kernel) rfl rfl rfl (by decide +kernel)
set_option maxRecDepth 65536 in
theorem w_c19 : (Jvm.Cond.code ({ cls := "java/lang/AbstractStringBuilder", name := "append", desc := "(I)Ljava/lang/AbstractStringBuilder;" } : Jvm.MethodName) jdk_68_method_32_code (4 : Nat) (Option.some (Jvm.ClassFile.FieldType.object "java/lang/AbstractStringBuilder"))).before args0 about1 = true := code_word (m := ⟨5, 6⟩) (meth := k5m6) (c := k5c6) (by decide +kernel) rfl rfl rfl (by decide +kernel)
set_option maxRecDepth 65536 in
theorem w_c20 : (Jvm.Cond.code ({ cls := "java/lang/Integer", name := "stringSize", desc := "(I)I" } : Jvm.MethodName) jdk_33_method_13_code (4 : Nat) (Option.some Jvm.ClassFile.FieldType.int)).before args0 about1 = true := code_word (m := ⟨16, 1⟩) (meth := k16m1) (c := k16c1) (by decide +kernel) rfl rfl rfl (by decide +kernel)
set_option maxRecDepth 65536 in
theorem w_c21 : (Jvm.Cond.code ({ cls := "java/lang/AbstractStringBuilder", name := "ensureCapacityInternal", desc := "(I)V" } : Jvm.MethodName) jdk_68_method_9_code (3 : Nat) (Option.none : Option Jvm.ClassFile.FieldType)).before args0 about1 = true := code_word (m := ⟨5, 3⟩) (meth := k5m3) (c := k5c3) (by decide +kernel) rfl rfl rfl (by decide +kernel)
set_option maxRecDepth 65536 in
theorem w_c22 : (Jvm.Cond.code ({ cls := "java/lang/Integer", name := "getChars", desc := "(II[B)I" } : Jvm.MethodName) jdk_33_method_12_code (7 : Nat) (Option.some Jvm.ClassFile.FieldType.int)).before args0 about1 = true := code_word (m := ⟨16, 0⟩) (meth := k16m0) (c := k16c0) (by decide +kernel) rfl rfl rfl (by decide +kernel)
set_option maxRecDepth 65536 in
theorem w_c23 : (Jvm.Cond.code ({ cls := "java/lang/StringBuilder", name := "append", desc := "(C)Ljava/lang/StringBuilder;" } : Jvm.MethodName) jdk_67_method_14_code (2 : Nat) (Option.some (Jvm.ClassFile.FieldType.object "java/lang/StringBuilder"))).before args0 about1 = true := code_word (m := ⟨8, 1⟩) (meth := k8m1) (c := k8c1) (by decide +kernel) rfl rfl rfl (by decide +kernel)
set_option maxRecDepth 65536 in
theorem w_c24 : (Jvm.Cond.code ({ cls := "java/lang/AbstractStringBuilder", name := "append", desc := "(C)Ljava/lang/AbstractStringBuilder;" } : Jvm.MethodName) jdk_68_method_31_code (2 : Nat) (Option.some (Jvm.ClassFile.FieldType.object "java/lang/AbstractStringBuilder"))).before args0 about1 = true := code_word (m := ⟨5, 5⟩) (meth := k5m5) (c := k5c5) (by decide +kernel) rfl rfl rfl (by decide +kernel)
set_option maxRecDepth 65536 in
theorem w_c25 : (Jvm.Cond.code ({ cls := "java/lang/StringLatin1", name := "canEncode", desc := "(C)Z" } : Jvm.MethodName) jdk_43_method_3_code (1 : Nat) (Option.some Jvm.ClassFile.FieldType.boolean)).before args0 about1 = true := code_word (m := ⟨17, 2⟩) (meth := k17m2) (c := k17c2) (by decide +kernel) rfl rfl rfl (by decide +kernel)
set_option maxRecDepth 65536 in
theorem w_c26 : (Jvm.Cond.code ({ cls := "com/example/medianpoint/medianpoint/AnswerPrinterSiteNumbersPinLaw", name := "numberAt", desc := "(Ljava/lang/String;II)Z" } : Jvm.MethodName) method_6_code (4 : Nat) (Option.some Jvm.ClassFile.FieldType.boolean)).before args0 about1 = true := code_word (m := ⟨1, 5⟩) (meth := k1m5) (c := k1c5) (by decide +kernel) rfl rfl rfl (by decide +kernel)
set_option maxRecDepth 65536 in
theorem w_c27 : (Jvm.Cond.code ({ cls := "com/example/medianpoint/medianpoint/AnswerPrinterSiteNumbersPinLaw", name := "digits", desc := "(I)I" } : Jvm.MethodName) method_5_code (1 : Nat) (Option.some Jvm.ClassFile.FieldType.int)).before args0 about1 = true := code_word (m := ⟨1, 4⟩) (meth := k1m4) (c := k1c4) (by decide +kernel) rfl rfl rfl (by decide +kernel)
set_option maxRecDepth 65536 in
theorem w_c28 : (Jvm.Cond.code ({ cls := "java/lang/String", name := "length", desc := "()I" } : Jvm.MethodName) jdk_42_method_54_code (1 : Nat) (Option.some Jvm.ClassFile.FieldType.int)).before args0 about1 = true := code_word (m := ⟨11, 2⟩) (meth := k11m2) (c := k11c2) (by decide +kernel) rfl rfl rfl (by decide +kernel)
set_option maxRecDepth 65536 in
theorem w_c29 : (Jvm.Cond.code ({ cls := "java/lang/String", name := "coder", desc := "()B" } : Jvm.MethodName) jdk_42_method_152_code (1 : Nat) (Option.some Jvm.ClassFile.FieldType.byte)).before args0 about1 = true := code_word (m := ⟨11, 6⟩) (meth := k11m6) (c := k11c6) (by decide +kernel) rfl rfl rfl (by decide +kernel)
set_option maxRecDepth 65536 in
theorem w_c30 : (Jvm.Cond.code ({ cls := "com/example/medianpoint/medianpoint/AnswerPrinterSiteNumbersPinLaw", name := "digitOk", desc := "(Ljava/lang/String;IIIII)Z" } : Jvm.MethodName) method_7_code (6 : Nat) (Option.some Jvm.ClassFile.FieldType.boolean)).before args0 about1 = true := code_word (m := ⟨1, 6⟩) (meth := k1m6) (c := k1c6) (by decide +kernel) rfl rfl rfl (by decide +kernel)
set_option maxRecDepth 65536 in
theorem w_c31 : (Jvm.Cond.code ({ cls := "java/lang/String", name := "charAt", desc := "(I)C" } : Jvm.MethodName) jdk_42_method_56_code (2 : Nat) (Option.some Jvm.ClassFile.FieldType.char)).before args0 about1 = true := code_word (m := ⟨11, 4⟩) (meth := k11m4) (c := k11c4) (by decide +kernel) rfl rfl rfl (by decide +kernel)
set_option maxRecDepth 65536 in
theorem w_c32 : (Jvm.Cond.code ({ cls := "java/lang/String", name := "isLatin1", desc := "()Z" } : Jvm.MethodName) jdk_42_method_154_code (1 : Nat) (Option.some Jvm.ClassFile.FieldType.boolean)).before args0 about1 = true := code_word (m := ⟨11, 7⟩) (meth := k11m7) (c := k11c7) (by decide +kernel) rfl rfl rfl (by decide +kernel)
set_option maxRecDepth 65536 in
theorem w_c33 : (Jvm.Cond.code ({ cls := "java/lang/StringLatin1", name := "charAt", desc := "([BI)C" } : Jvm.MethodName) jdk_43_method_2_code (2 : Nat) (Option.some Jvm.ClassFile.FieldType.char)).before args0 about1 = true := code_word (m := ⟨17, 1⟩) (meth := k17m1) (c := k17c1) (by decide +kernel) rfl rfl rfl (by decide +kernel)
set_option maxRecDepth 65536 in
theorem w_c34 : (Jvm.Cond.code ({ cls := "java/lang/String", name := "checkIndex", desc := "(II)V" } : Jvm.MethodName) jdk_42_method_155_code (2 : Nat) (Option.none : Option Jvm.ClassFile.FieldType)).before args0 about1 = true := code_word (m := ⟨11, 8⟩) (meth := k11m8) (c := k11c8) (by decide +kernel) rfl rfl rfl (by decide +kernel)
set_option maxRecDepth 65536 in
theorem w_c35 : (Jvm.Cond.code ({ cls := "jdk/internal/util/Preconditions", name := "checkIndex", desc := "(IILjava/util/function/BiFunction;)I" } : Jvm.MethodName) jdk_41_method_11_code (3 : Nat) (Option.some Jvm.ClassFile.FieldType.int)).before args0 about1 = true := code_word (m := ⟨18, 1⟩) (meth := k18m1) (c := k18c1) (by decide +kernel) rfl rfl rfl (by decide +kernel)
set_option maxRecDepth 65536 in
theorem w_c36 : (Jvm.Cond.code ({ cls := "com/example/medianpoint/medianpoint/AnswerPrinterSiteNumbersPinLaw", name := "blankAt", desc := "(Ljava/lang/String;I)Z" } : Jvm.MethodName) method_4_code (2 : Nat) (Option.some Jvm.ClassFile.FieldType.boolean)).before args0 about1 = true := code_word (m := ⟨1, 3⟩) (meth := k1m3) (c := k1c3) (by decide +kernel) rfl rfl rfl (by decide +kernel)
set_option maxRecDepth 65536 in
theorem w_c37 : (Jvm.Cond.code ({ cls := "java/lang/AbstractStringBuilder", name := "newCapacity", desc := "(I)I" } : Jvm.MethodName) jdk_68_method_10_code (6 : Nat) (Option.some Jvm.ClassFile.FieldType.int)).before args0 about1 = true := code_word (m := ⟨5, 4⟩) (meth := k5m4) (c := k5c4) (by decide +kernel) rfl rfl rfl (by decide +kernel)
set_option maxRecDepth 65536 in
theorem w_c38 : (Jvm.Cond.code ({ cls := "jdk/internal/util/ArraysSupport", name := "newLength", desc := "(III)I" } : Jvm.MethodName) jdk_48_method_27_code (4 : Nat) (Option.some Jvm.ClassFile.FieldType.int)).before args0 about1 = true := code_word (m := ⟨19, 1⟩) (meth := k19m1) (c := k19c1) (by decide +kernel) rfl rfl rfl (by decide +kernel)
set_option maxRecDepth 65536 in
theorem w_c39 : (Jvm.Cond.code ({ cls := "java/lang/Math", name := "max", desc := "(II)I" } : Jvm.MethodName) jdk_29_method_65_code (2 : Nat) (Option.some Jvm.ClassFile.FieldType.int)).before args0 about1 = true := code_word (m := ⟨13, 1⟩) (meth := k13m1) (c := k13c1) (by decide +kernel) rfl rfl rfl (by decide +kernel)
set_option maxRecDepth 65536 in
theorem w_c40 : (Jvm.Cond.code ({ cls := "java/util/Arrays", name := "copyOf", desc := "([BI)[B" } : Jvm.MethodName) jdk_65_method_121_code (3 : Nat) (Option.some (Jvm.ClassFile.FieldType.array Jvm.ClassFile.FieldType.byte))).before args0 about1 = true := code_word (m := ⟨12, 1⟩) (meth := k12m1) (c := k12c1) (by decide +kernel) rfl rfl rfl (by decide +kernel)
def codes1 : List Jvm.Cond := [Jvm.Cond.code x code maxLocals ret, Jvm.Cond.code ({ cls := "com/example/medianpoint/medianpoint/AnswerPrinterSiteNumbersPinLaw", name := "site", desc := "(I)I" } : Jvm.MethodName) method_3_code (1 : Nat) (Option.some Jvm.ClassFile.FieldType.int), Jvm.Cond.code ({ cls := "com/example/medianpoint/medianpoint/AnswerPrinter", name := "siteNumbers", desc := "([I)Ljava/lang/String;" } : Jvm.MethodName) prog_2_method_3_code (6 : Nat) (Option.some (Jvm.ClassFile.FieldType.object "java/lang/String")), Jvm.Cond.code ({ cls := "java/lang/StringBuilder", name := "<init>", desc := "()V" } : Jvm.MethodName) jdk_67_method_1_code (1 : Nat) (Option.none : Option Jvm.ClassFile.FieldType), Jvm.Cond.code ({ cls := "java/lang/AbstractStringBuilder", name := "<init>", desc := "(I)V" } : Jvm.MethodName) jdk_68_method_2_code (2 : Nat) (Option.none : Option Jvm.ClassFile.FieldType), Jvm.Cond.code ({ cls := "java/lang/Object", name := "<init>", desc := "()V" } : Jvm.MethodName) object_method_1_code (1 : Nat) (Option.none : Option Jvm.ClassFile.FieldType), Jvm.Cond.code ({ cls := "java/lang/StringBuilder", name := "toString", desc := "()Ljava/lang/String;" } : Jvm.MethodName) jdk_67_method_42_code (1 : Nat) (Option.some (Jvm.ClassFile.FieldType.object "java/lang/String")), Jvm.Cond.code ({ cls := "java/lang/String", name := "<init>", desc := "(Ljava/lang/StringBuilder;)V" } : Jvm.MethodName) jdk_42_method_53_code (2 : Nat) (Option.none : Option Jvm.ClassFile.FieldType), Jvm.Cond.code ({ cls := "java/lang/String", name := "<init>", desc := "(Ljava/lang/AbstractStringBuilder;Ljava/lang/Void;)V" } : Jvm.MethodName) jdk_42_method_150_code (5 : Nat) (Option.none : Option Jvm.ClassFile.FieldType), Jvm.Cond.code ({ cls := "java/lang/AbstractStringBuilder", name := "getValue", desc := "()[B" } : Jvm.MethodName) jdk_68_method_64_code (1 : Nat) (Option.some (Jvm.ClassFile.FieldType.array Jvm.ClassFile.FieldType.byte)), Jvm.Cond.code ({ cls := "java/lang/StringBuilder", name := "length", desc := "()I" } : Jvm.MethodName) jdk_67_method_93_code (1 : Nat) (Option.some Jvm.ClassFile.FieldType.int), Jvm.Cond.code ({ cls := "java/lang/AbstractStringBuilder", name := "length", desc := "()I" } : Jvm.MethodName) jdk_68_method_6_code (1 : Nat) (Option.some Jvm.ClassFile.FieldType.int), Jvm.Cond.code ({ cls := "java/lang/AbstractStringBuilder", name := "isLatin1", desc := "()Z" } : Jvm.MethodName) jdk_68_method_68_code (1 : Nat) (Option.some Jvm.ClassFile.FieldType.boolean), Jvm.Cond.code ({ cls := "java/util/Arrays", name := "copyOfRange", desc := "([BII)[B" } : Jvm.MethodName) jdk_65_method_132_code (3 : Nat) (Option.some (Jvm.ClassFile.FieldType.array Jvm.ClassFile.FieldType.byte)), Jvm.Cond.code ({ cls := "java/util/Arrays", name := "copyOfRangeByte", desc := "([BII)[B" } : Jvm.MethodName) jdk_65_method_133_code (5 : Nat) (Option.some (Jvm.ClassFile.FieldType.array Jvm.ClassFile.FieldType.byte)), Jvm.Cond.code ({ cls := "java/util/Arrays", name := "checkLength", desc := "(II)V" } : Jvm.MethodName) jdk_65_method_131_code (2 : Nat) (Option.none : Option Jvm.ClassFile.FieldType), Jvm.Cond.code ({ cls := "java/lang/Math", name := "min", desc := "(II)I" } : Jvm.MethodName) jdk_29_method_69_code (2 : Nat) (Option.some Jvm.ClassFile.FieldType.int), Jvm.Cond.code ({ cls := "java/lang/String", name := "isEmpty", desc := "()Z" } : Jvm.MethodName) jdk_42_method_55_code (1 : Nat) (Option.some Jvm.ClassFile.FieldType.boolean), Jvm.Cond.code ({ cls := "java/lang/StringBuilder", name := "append", desc := "(I)Ljava/lang/StringBuilder;" } : Jvm.MethodName) jdk_67_method_15_code (2 : Nat) (Option.some (Jvm.ClassFile.FieldType.object "java/lang/StringBuilder")), Jvm.Cond.code ({ cls := "java/lang/AbstractStringBuilder", name := "append", desc := "(I)Ljava/lang/AbstractStringBuilder;" } : Jvm.MethodName) jdk_68_method_32_code (4 : Nat) (Option.some (Jvm.ClassFile.FieldType.object "java/lang/AbstractStringBuilder")), Jvm.Cond.code ({ cls := "java/lang/Integer", name := "stringSize", desc := "(I)I" } : Jvm.MethodName) jdk_33_method_13_code (4 : Nat) (Option.some Jvm.ClassFile.FieldType.int), Jvm.Cond.code ({ cls := "java/lang/AbstractStringBuilder", name := "ensureCapacityInternal", desc := "(I)V" } : Jvm.MethodName) jdk_68_method_9_code (3 : Nat) (Option.none : Option Jvm.ClassFile.FieldType), Jvm.Cond.code ({ cls := "java/lang/Integer", name := "getChars", desc := "(II[B)I" } : Jvm.MethodName) jdk_33_method_12_code (7 : Nat) (Option.some Jvm.ClassFile.FieldType.int), Jvm.Cond.code ({ cls := "java/lang/StringBuilder", name := "append", desc := "(C)Ljava/lang/StringBuilder;" } : Jvm.MethodName) jdk_67_method_14_code (2 : Nat) (Option.some (Jvm.ClassFile.FieldType.object "java/lang/StringBuilder")), Jvm.Cond.code ({ cls := "java/lang/AbstractStringBuilder", name := "append", desc := "(C)Ljava/lang/AbstractStringBuilder;" } : Jvm.MethodName) jdk_68_method_31_code (2 : Nat) (Option.some (Jvm.ClassFile.FieldType.object "java/lang/AbstractStringBuilder")), Jvm.Cond.code ({ cls := "java/lang/StringLatin1", name := "canEncode", desc := "(C)Z" } : Jvm.MethodName) jdk_43_method_3_code (1 : Nat) (Option.some Jvm.ClassFile.FieldType.boolean), Jvm.Cond.code ({ cls := "com/example/medianpoint/medianpoint/AnswerPrinterSiteNumbersPinLaw", name := "numberAt", desc := "(Ljava/lang/String;II)Z" } : Jvm.MethodName) method_6_code (4 : Nat) (Option.some Jvm.ClassFile.FieldType.boolean), Jvm.Cond.code ({ cls := "com/example/medianpoint/medianpoint/AnswerPrinterSiteNumbersPinLaw", name := "digits", desc := "(I)I" } : Jvm.MethodName) method_5_code (1 : Nat) (Option.some Jvm.ClassFile.FieldType.int), Jvm.Cond.code ({ cls := "java/lang/String", name := "length", desc := "()I" } : Jvm.MethodName) jdk_42_method_54_code (1 : Nat) (Option.some Jvm.ClassFile.FieldType.int), Jvm.Cond.code ({ cls := "java/lang/String", name := "coder", desc := "()B" } : Jvm.MethodName) jdk_42_method_152_code (1 : Nat) (Option.some Jvm.ClassFile.FieldType.byte), Jvm.Cond.code ({ cls := "com/example/medianpoint/medianpoint/AnswerPrinterSiteNumbersPinLaw", name := "digitOk", desc := "(Ljava/lang/String;IIIII)Z" } : Jvm.MethodName) method_7_code (6 : Nat) (Option.some Jvm.ClassFile.FieldType.boolean), Jvm.Cond.code ({ cls := "java/lang/String", name := "charAt", desc := "(I)C" } : Jvm.MethodName) jdk_42_method_56_code (2 : Nat) (Option.some Jvm.ClassFile.FieldType.char), Jvm.Cond.code ({ cls := "java/lang/String", name := "isLatin1", desc := "()Z" } : Jvm.MethodName) jdk_42_method_154_code (1 : Nat) (Option.some Jvm.ClassFile.FieldType.boolean), Jvm.Cond.code ({ cls := "java/lang/StringLatin1", name := "charAt", desc := "([BI)C" } : Jvm.MethodName) jdk_43_method_2_code (2 : Nat) (Option.some Jvm.ClassFile.FieldType.char), Jvm.Cond.code ({ cls := "java/lang/String", name := "checkIndex", desc := "(II)V" } : Jvm.MethodName) jdk_42_method_155_code (2 : Nat) (Option.none : Option Jvm.ClassFile.FieldType), Jvm.Cond.code ({ cls := "jdk/internal/util/Preconditions", name := "checkIndex", desc := "(IILjava/util/function/BiFunction;)I" } : Jvm.MethodName) jdk_41_method_11_code (3 : Nat) (Option.some Jvm.ClassFile.FieldType.int), Jvm.Cond.code ({ cls := "com/example/medianpoint/medianpoint/AnswerPrinterSiteNumbersPinLaw", name := "blankAt", desc := "(Ljava/lang/String;I)Z" } : Jvm.MethodName) method_4_code (2 : Nat) (Option.some Jvm.ClassFile.FieldType.boolean), Jvm.Cond.code ({ cls := "java/lang/AbstractStringBuilder", name := "newCapacity", desc := "(I)I" } : Jvm.MethodName) jdk_68_method_10_code (6 : Nat) (Option.some Jvm.ClassFile.FieldType.int), Jvm.Cond.code ({ cls := "jdk/internal/util/ArraysSupport", name := "newLength", desc := "(III)I" } : Jvm.MethodName) jdk_48_method_27_code (4 : Nat) (Option.some Jvm.ClassFile.FieldType.int), Jvm.Cond.code ({ cls := "java/lang/Math", name := "max", desc := "(II)I" } : Jvm.MethodName) jdk_29_method_65_code (2 : Nat) (Option.some Jvm.ClassFile.FieldType.int), Jvm.Cond.code ({ cls := "java/util/Arrays", name := "copyOf", desc := "([BI)[B" } : Jvm.MethodName) jdk_65_method_121_code (3 : Nat) (Option.some (Jvm.ClassFile.FieldType.array Jvm.ClassFile.FieldType.byte))]
set_option maxRecDepth 65536 in
theorem codes_eq : words1.filter isCode = codes1 := rfl
theorem w_codes : ∀ c ∈ words1.filter isCode, c.before args0 about1 = true := by
  rw [codes_eq]
  intro c hc
  simp only [codes1, List.mem_cons, List.not_mem_nil, or_false] at hc
  rcases hc with rfl | rfl | rfl | rfl | rfl | rfl | rfl | rfl | rfl | rfl | rfl | rfl | rfl | rfl | rfl | rfl | rfl | rfl | rfl | rfl | rfl | rfl | rfl | rfl | rfl | rfl | rfl | rfl | rfl | rfl | rfl | rfl | rfl | rfl | rfl | rfl | rfl | rfl | rfl | rfl | rfl
  · exact w_c0
  · exact w_c1
  · exact w_c2
  · exact w_c3
  · exact w_c4
  · exact w_c5
  · exact w_c6
  · exact w_c7
  · exact w_c8
  · exact w_c9
  · exact w_c10
  · exact w_c11
  · exact w_c12
  · exact w_c13
  · exact w_c14
  · exact w_c15
  · exact w_c16
  · exact w_c17
  · exact w_c18
  · exact w_c19
  · exact w_c20
  · exact w_c21
  · exact w_c22
  · exact w_c23
  · exact w_c24
  · exact w_c25
  · exact w_c26
  · exact w_c27
  · exact w_c28
  · exact w_c29
  · exact w_c30
  · exact w_c31
  · exact w_c32
  · exact w_c33
  · exact w_c34
  · exact w_c35
  · exact w_c36
  · exact w_c37
  · exact w_c38
  · exact w_c39
  · exact w_c40
set_option maxRecDepth 65536 in
theorem w_t1 : (words1.take 24).all (fun c => isCode c || c.before args0 about1) = true := by decide +kernel
set_option maxRecDepth 65536 in
theorem w_t2 : ((words1.drop 24).take 24).all (fun c => isCode c || c.before args0 about1) = true := by decide +kernel
set_option maxRecDepth 65536 in
theorem w_t3 : (((words1.drop 24).drop 24).take 24).all (fun c => isCode c || c.before args0 about1) = true := by decide +kernel
set_option maxRecDepth 65536 in
theorem w_t4 : ((((words1.drop 24).drop 24).drop 24).take 24).all (fun c => isCode c || c.before args0 about1) = true := by decide +kernel
set_option maxRecDepth 65536 in
theorem w_t5 : (((((words1.drop 24).drop 24).drop 24).drop 24).take 24).all (fun c => isCode c || c.before args0 about1) = true := by decide +kernel
set_option maxRecDepth 65536 in
theorem w_t6 : ((((((words1.drop 24).drop 24).drop 24).drop 24).drop 24).take 24).all (fun c => isCode c || c.before args0 about1) = true := by decide +kernel
set_option maxRecDepth 65536 in
theorem w_t7 : (((((((words1.drop 24).drop 24).drop 24).drop 24).drop 24).drop 24).take 24).all (fun c => isCode c || c.before args0 about1) = true := by decide +kernel
set_option maxRecDepth 65536 in
theorem w_t8 : ((((((((words1.drop 24).drop 24).drop 24).drop 24).drop 24).drop 24).drop 24).take 24).all (fun c => isCode c || c.before args0 about1) = true := by decide +kernel
set_option maxRecDepth 65536 in
theorem w_t9 : ((((((((words1.drop 24).drop 24).drop 24).drop 24).drop 24).drop 24).drop 24).drop 24).all (fun c => isCode c || c.before args0 about1) = true := by decide +kernel
theorem w_tables : (allAtoms (Jvm.Cond.code x code maxLocals ret :: tables_1)).before args0 about1 = true := by
  rw [allAtoms_all]
  show words1.all (fun c => c.before args0 about1) = true
  refine all_split ?_ w_codes
  rw [← List.take_append_drop 24 words1, List.all_append, w_t1, ← List.take_append_drop 24 (words1.drop 24), List.all_append, w_t2, ← List.take_append_drop 24 ((words1.drop 24).drop 24), List.all_append, w_t3, ← List.take_append_drop 24 (((words1.drop 24).drop 24).drop 24), List.all_append, w_t4, ← List.take_append_drop 24 ((((words1.drop 24).drop 24).drop 24).drop 24), List.all_append, w_t5, ← List.take_append_drop 24 (((((words1.drop 24).drop 24).drop 24).drop 24).drop 24), List.all_append, w_t6, ← List.take_append_drop 24 ((((((words1.drop 24).drop 24).drop 24).drop 24).drop 24).drop 24), List.all_append, w_t7, ← List.take_append_drop 24 (((((((words1.drop 24).drop 24).drop 24).drop 24).drop 24).drop 24).drop 24), List.all_append, w_t8, w_t9]
  rfl
set_option maxRecDepth 65536 in
theorem w_rest : rest_1_c.before args0 about1 = true := by decide +kernel
set_option maxRecDepth 65536 in
theorem w_case : (Jvm.Cond.and given_1 narrow_1).before args0 about1 = true := by decide +kernel
theorem w_applies : (headSpec (Jvm.Cond.code x code maxLocals ret :: tables_1) room_1).applies x e0.platform about1 = true :=
  (Spec.applies_iff w_frames).mpr ⟨w_running, w_runnable, w_alone, w_named, w_hears, w_ripe, w_room, w_tables⟩
theorem atStart : AtStart classFile x code maxLocals ret World_1 tables_1 room_1 Calls_1 rest_1 Pre_1 launch0 p0 e0 about1 theMethod args0 below0 :=
  ⟨lists_1, trivial, launch0.admits_env _ _ _, launch0.least_env, fairChoices_fair.cas, fairChoices_fair.clock, w_frames, w_args, w_heap, w_applies, trivial, w_rest, w_case⟩
end start1
theorem witness_1 : WitnessClaimed_1 := ⟨start1.p0, start1.e0, start1.about1, start1.theMethod, start1.args0, start1.below0, start1.atStart⟩
end Jvm.Pilot.@@N@@
