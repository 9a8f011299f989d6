import JvmDerived
import JvmDerived.Pilot.@@N@@Statement
import JvmDerived.Pilot.@@N@@Code
set_option linter.unusedVariables false
set_option linter.unusedSimpArgs false

namespace Jvm.OwnGo
open Sem ClassFile Op Lib Jvm.Stand Jvm.Free Jvm.LawKit Jvm.RoadKit
/-- what is known of a body while it is walked -/
def Cx (Z : State) (y : MethodName) (code : ByteArray) (ml : Nat) (ret : Option FieldType) (p : Program) (s : State) (m : MethodId) (meth : Method) (c : Code) : Prop :=
  p.tables.exec = Jvm.exec ∧ c.code = code ∧ Z.Warmed39 s.vm ∧ s.vm.findClass y.cls = some m.cls ∧ c.maxLocals = ml ∧ meth.sig.returnType = ret ∧ meth.locks = false ∧ meth.name = y.name
/-- the start that the last Stand is over: the start itself, or (w) the start with tables that have interned -/
def OkW (w : Bool) (s s' T' : State) : Prop := s' = s ∨ (w = true ∧ ∃ (vm : Vm) (k1 : Nat), s' = s.setVm vm ∧ s.Since vm k1 ∧ k1 ≤ T'.heap.size)
/-- from the frame (pc, Ls, st) over the heap h, with at most k cells and n slots made so far, the body of y returns with Q -/
def GoB (w : Bool) (l : Launch) (Z : State) (y : MethodName) (code : ByteArray) (ml : Nat) (ret : Option FieldType) (R : Room) (Q : Option Value → Heap → Prop) (k n : Nat) (h : Heap) (pc : Nat) (Ls : Array Slot) (st : List Value) : Prop :=
  ∀ (p : Program) (e : Env) (s : State) (m : MethodId) (args : Array Value) (below : List Frame) (meth : Method) (c : Code), Cx Z y code ml ret p s m meth c →
  ∀ (T : State) (L : List Loc) (k' n' : Nat), Stand p l e R s m args below meth c T L k' n' → k' ≤ k → n' ≤ n → Fr Z.heap.size L → T.heap = h →
  ∃ (s' : State) (v : Option Value) (T' : State) (L' : List Loc) (k'' n'' : Nat), OkW w s s' T' ∧ Stand p l e R s' m args below meth c T' L' k'' n'' ∧ k'' ≤ R.cells ∧ n'' ≤ R.slots ∧ Fr Z.heap.size L' ∧ Q v T'.heap ∧ (ret = none → v = none) ∧
    ∀ fs, (∀ (f : JFrame) (acts : List Action), f.method = m → f.locked = none → f.entered = [] → (doReturn e (T'.setTop f) acts v).1 = T'.setFrames fs) → Steps p.tables e below (T.setTop (mkF m pc Ls st)) (T'.setFrames fs)
abbrev Go (l : Launch) (Z : State) (y : MethodName) (code : ByteArray) (ml : Nat) (ret : Option FieldType) (R : Room) (Q : Option Value → Heap → Prop) (k n : Nat) (h : Heap) (pc : Nat) (Ls : Array Slot) (st : List Value) : Prop := GoB false l Z y code ml ret R Q k n h pc Ls st
/-- the shapes of an answer -/
def QI (P : Int32 → Heap → Prop) (v : Option Value) (h : Heap) : Prop := ∃ z : Int32, v = some (.int z) ∧ P z h
def QJ (P : Int64 → Heap → Prop) (v : Option Value) (h : Heap) : Prop := ∃ z : Int64, v = some (.long z) ∧ P z h
def QR (P : Value → Heap → Prop) (v : Option Value) (h : Heap) : Prop := ∃ z : Value, v = some z ∧ P z h
def QV (P : Heap → Prop) (v : Option Value) (h : Heap) : Prop := v = none ∧ P h
section Laws
variable {wf : Bool} {l : Launch} {Z : State} {y : MethodName} {code : ByteArray} {ml : Nat} {ret : Option FieldType} {R : Room} {Q : Option Value → Heap → Prop} {k n : Nat} {h : Heap} {pc : Nat} {Ls : Array Slot} {st : List Value} {a0 : Array Value}
theorem GoB.pure {pc' : Nat} {Ls' : Array Slot} {st' : List Value} (g : GoB wf l Z y code ml ret R Q k n h pc' Ls' st')
    (f : ∀ (p : Program) (e : Env) (s : State) (m : MethodId) (args : Array Value) (below : List Frame) (meth : Method) (c : Code), Cx Z y code ml ret p s m meth c → ∀ (T : State) (L : List Loc) (k' n' : Nat), Stand p l e R s m args below meth c T L k' n' → T.heap = h → ∀ target, Steps p.tables e below (T.setTop (mkF m pc' Ls' st')) target → Steps p.tables e below (T.setTop (mkF m pc Ls st)) target) :
    GoB wf l Z y code ml ret R Q k n h pc Ls st := by
  intro p e s m args below meth c K T L k' n' X h1 h2 N hT
  obtain ⟨s', v, T', L', k'', n'', ok', X', b1, b2, N', q, hv, stp⟩ := g p e s m args below meth c K T L k' n' X h1 h2 N hT
  exact ⟨s', v, T', L', k'', n'', ok', X', b1, b2, N', q, hv, fun fs hl => f p e s m args below meth c K T L k' n' X hT _ (stp fs hl)⟩
/-- a step that moves the state: by a law that hands out the new Stand -/
theorem GoB.move {pc' : Nat} {Ls' : Array Slot} {st' : List Value} {kk nn : Nat} {P : Heap → Prop} (g : ∀ h', P h' → GoB wf l Z y code ml ret R Q kk nn h' pc' Ls' st')
    (f : ∀ (p : Program) (e : Env) (s : State) (m : MethodId) (args : Array Value) (below : List Frame) (meth : Method) (c : Code), Cx Z y code ml ret p s m meth c → ∀ (T : State) (L : List Loc) (k' n' : Nat), Stand p l e R s m args below meth c T L k' n' → k' ≤ k → n' ≤ n → Fr Z.heap.size L → T.heap = h →
      ∃ (T' : State) (L' : List Loc) (k'' n'' : Nat), Stand p l e R s m args below meth c T' L' k'' n'' ∧ k'' ≤ kk ∧ n'' ≤ nn ∧ Fr Z.heap.size L' ∧ P T'.heap ∧ ∀ target, Steps p.tables e below (T'.setTop (mkF m pc' Ls' st')) target → Steps p.tables e below (T.setTop (mkF m pc Ls st)) target) :
    GoB wf l Z y code ml ret R Q k n h pc Ls st := by
  intro p e s m args below meth c K T L k' n' X h1 h2 N hT
  obtain ⟨T1, L1, k1, n1, X1, c1, c2, N1, p1, s1⟩ := f p e s m args below meth c K T L k' n' X h1 h2 N hT
  obtain ⟨s', v, T', L', k'', n'', ok', X', b1, b2, N', q, hv, stp⟩ := g _ p1 p e s m args below meth c K T1 L1 k1 n1 X1 c1 c2 N1 rfl
  exact ⟨s', v, T', L', k'', n'', ok', X', b1, b2, N', q, hv, fun fs hl => s1 _ (stp fs hl)⟩
theorem GoB.le {k₀ n₀ : Nat} (g : GoB wf l Z y code ml ret R Q k n h pc Ls st) (hk : k₀ ≤ k) (hn : n₀ ≤ n) : GoB wf l Z y code ml ret R Q k₀ n₀ h pc Ls st :=
  fun p e s m args below meth c K T L k' n' X h1 h2 N hT => g p e s m args below meth c K T L k' n' X (Nat.le_trans h1 hk) (Nat.le_trans h2 hn) N hT
theorem GoB.mono {Q' : Option Value → Heap → Prop} (g : GoB wf l Z y code ml ret R Q k n h pc Ls st) (hq : ∀ v h', Q v h' → Q' v h') : GoB wf l Z y code ml ret R Q' k n h pc Ls st := by
  intro p e s m args below meth c K T L k' n' X h1 h2 N hT
  obtain ⟨s', v, T', L', k'', n'', ok', X', b1, b2, N', q, r⟩ := g p e s m args below meth c K T L k' n' X h1 h2 N hT
  exact ⟨s', v, T', L', k'', n'', ok', X', b1, b2, N', hq _ _ q, r⟩
theorem Go.nameI {x : Int32} (g : ∀ v : Int32, v = x → GoB wf l Z y code ml ret R Q k n h pc Ls (.int v :: st)) : GoB wf l Z y code ml ret R Q k n h pc Ls (.int x :: st) := g x rfl
theorem Go.nameJ {x : Int64} (g : ∀ v : Int64, v = x → GoB wf l Z y code ml ret R Q k n h pc Ls (.long v :: st)) : GoB wf l Z y code ml ret R Q k n h pc Ls (.long x :: st) := g x rfl

theorem Go.iadd {x z : Int32} (q : Nat) (hd : decode code pc = .ok (.iadd, 1))  (hq : pc + 1 = q) (g : GoB wf l Z y code ml ret R Q k n h q Ls (.int (x + z) :: st)) : GoB wf l Z y code ml ret R Q k n h pc Ls (.int z :: .int x :: st) := by
  subst hq; exact g.pure fun p e s m args below meth c K T L k' n' X hT t r => XS.iadd X.here K.1 rfl (hb K.2.1 hd) rfl  r
theorem Go.isub {x z : Int32} (q : Nat) (hd : decode code pc = .ok (.isub, 1))  (hq : pc + 1 = q) (g : GoB wf l Z y code ml ret R Q k n h q Ls (.int (x - z) :: st)) : GoB wf l Z y code ml ret R Q k n h pc Ls (.int z :: .int x :: st) := by
  subst hq; exact g.pure fun p e s m args below meth c K T L k' n' X hT t r => XS.isub X.here K.1 rfl (hb K.2.1 hd) rfl  r
theorem Go.iand {x z : Int32} (q : Nat) (hd : decode code pc = .ok (.iand, 1))  (hq : pc + 1 = q) (g : GoB wf l Z y code ml ret R Q k n h q Ls (.int (x &&& z) :: st)) : GoB wf l Z y code ml ret R Q k n h pc Ls (.int z :: .int x :: st) := by
  subst hq; exact g.pure fun p e s m args below meth c K T L k' n' X hT t r => XS.iand X.here K.1 rfl (hb K.2.1 hd) rfl  r
theorem Go.imul {x z : Int32} (q : Nat) (hd : decode code pc = .ok (.imul, 1))  (hq : pc + 1 = q) (g : GoB wf l Z y code ml ret R Q k n h q Ls (.int (x * z) :: st)) : GoB wf l Z y code ml ret R Q k n h pc Ls (.int z :: .int x :: st) := by
  subst hq; exact g.pure fun p e s m args below meth c K T L k' n' X hT t r => XS.imul X.here K.1 rfl (hb K.2.1 hd) rfl  r
theorem Go.ixor {x z : Int32} (q : Nat) (hd : decode code pc = .ok (.ixor, 1))  (hq : pc + 1 = q) (g : GoB wf l Z y code ml ret R Q k n h q Ls (.int (x ^^^ z) :: st)) : GoB wf l Z y code ml ret R Q k n h pc Ls (.int z :: .int x :: st) := by
  subst hq; exact g.pure fun p e s m args below meth c K T L k' n' X hT t r => XT.ixor X.here K.1 rfl (hb K.2.1 hd) rfl  r
theorem Go.ior {x z : Int32} (q : Nat) (hd : decode code pc = .ok (.ior, 1))  (hq : pc + 1 = q) (g : GoB wf l Z y code ml ret R Q k n h q Ls (.int (x ||| z) :: st)) : GoB wf l Z y code ml ret R Q k n h pc Ls (.int z :: .int x :: st) := by
  subst hq; exact g.pure fun p e s m args below meth c K T L k' n' X hT t r => XT.ior X.here K.1 rfl (hb K.2.1 hd) rfl  r
theorem Go.ishl {x z : Int32} (q : Nat) (hd : decode code pc = .ok (.ishl, 1))  (hq : pc + 1 = q) (g : GoB wf l Z y code ml ret R Q k n h q Ls (.int (x <<< (z &&& 31)) :: st)) : GoB wf l Z y code ml ret R Q k n h pc Ls (.int z :: .int x :: st) := by
  subst hq; exact g.pure fun p e s m args below meth c K T L k' n' X hT t r => XT.ishl X.here K.1 rfl (hb K.2.1 hd) rfl  r
theorem Go.ishr {x z : Int32} (q : Nat) (hd : decode code pc = .ok (.ishr, 1))  (hq : pc + 1 = q) (g : GoB wf l Z y code ml ret R Q k n h q Ls (.int (x >>> (z &&& 31)) :: st)) : GoB wf l Z y code ml ret R Q k n h pc Ls (.int z :: .int x :: st) := by
  subst hq; exact g.pure fun p e s m args below meth c K T L k' n' X hT t r => XT.ishr X.here K.1 rfl (hb K.2.1 hd) rfl  r
theorem Go.iushr {x z : Int32} (q : Nat) (hd : decode code pc = .ok (.iushr, 1))  (hq : pc + 1 = q) (g : GoB wf l Z y code ml ret R Q k n h q Ls (.int (XT.ushr x z) :: st)) : GoB wf l Z y code ml ret R Q k n h pc Ls (.int z :: .int x :: st) := by
  subst hq; exact g.pure fun p e s m args below meth c K T L k' n' X hT t r => XT.iushr X.here K.1 rfl (hb K.2.1 hd) rfl  r
theorem Go.idiv {x z : Int32} (q : Nat) (hd : decode code pc = .ok (.idiv, 1)) (hz : z ≠ 0) (hq : pc + 1 = q) (g : GoB wf l Z y code ml ret R Q k n h q Ls (.int (x / z) :: st)) : GoB wf l Z y code ml ret R Q k n h pc Ls (.int z :: .int x :: st) := by
  subst hq; exact g.pure fun p e s m args below meth c K T L k' n' X hT t r => XS.idiv X.here K.1 rfl (hb K.2.1 hd) rfl hz r
theorem Go.irem {x z : Int32} (q : Nat) (hd : decode code pc = .ok (.irem, 1)) (hz : z ≠ 0) (hq : pc + 1 = q) (g : GoB wf l Z y code ml ret R Q k n h q Ls (.int (x % z) :: st)) : GoB wf l Z y code ml ret R Q k n h pc Ls (.int z :: .int x :: st) := by
  subst hq; exact g.pure fun p e s m args below meth c K T L k' n' X hT t r => iremM X K.1 rfl (hb K.2.1 hd) rfl hz r
theorem Go.ineg {x : Int32} (q : Nat) (hd : decode code pc = .ok (.ineg, 1))  (hq : pc + 1 = q) (g : GoB wf l Z y code ml ret R Q k n h q Ls (.int (-x) :: st)) : GoB wf l Z y code ml ret R Q k n h pc Ls (.int x :: st) := by
  subst hq; exact g.pure fun p e s m args below meth c K T L k' n' X hT t r => XS.ineg X.here K.1 rfl (hb K.2.1 hd) rfl  r
theorem Go.ladd {x z : Int64} (q : Nat) (hd : decode code pc = .ok (.ladd, 1))  (hq : pc + 1 = q) (g : GoB wf l Z y code ml ret R Q k n h q Ls (.long (x + z) :: st)) : GoB wf l Z y code ml ret R Q k n h pc Ls (.long z :: .long x :: st) := by
  subst hq; exact g.pure fun p e s m args below meth c K T L k' n' X hT t r => XT.ladd X.here K.1 rfl (hb K.2.1 hd) rfl  r
theorem Go.lsub {x z : Int64} (q : Nat) (hd : decode code pc = .ok (.lsub, 1))  (hq : pc + 1 = q) (g : GoB wf l Z y code ml ret R Q k n h q Ls (.long (x - z) :: st)) : GoB wf l Z y code ml ret R Q k n h pc Ls (.long z :: .long x :: st) := by
  subst hq; exact g.pure fun p e s m args below meth c K T L k' n' X hT t r => XT.lsub X.here K.1 rfl (hb K.2.1 hd) rfl  r
theorem Go.lmul {x z : Int64} (q : Nat) (hd : decode code pc = .ok (.lmul, 1))  (hq : pc + 1 = q) (g : GoB wf l Z y code ml ret R Q k n h q Ls (.long (x * z) :: st)) : GoB wf l Z y code ml ret R Q k n h pc Ls (.long z :: .long x :: st) := by
  subst hq; exact g.pure fun p e s m args below meth c K T L k' n' X hT t r => XT.lmul X.here K.1 rfl (hb K.2.1 hd) rfl  r
theorem Go.land {x z : Int64} (q : Nat) (hd : decode code pc = .ok (.land, 1))  (hq : pc + 1 = q) (g : GoB wf l Z y code ml ret R Q k n h q Ls (.long (x &&& z) :: st)) : GoB wf l Z y code ml ret R Q k n h pc Ls (.long z :: .long x :: st) := by
  subst hq; exact g.pure fun p e s m args below meth c K T L k' n' X hT t r => XT.land X.here K.1 rfl (hb K.2.1 hd) rfl  r
theorem Go.lor {x z : Int64} (q : Nat) (hd : decode code pc = .ok (.lor, 1))  (hq : pc + 1 = q) (g : GoB wf l Z y code ml ret R Q k n h q Ls (.long (x ||| z) :: st)) : GoB wf l Z y code ml ret R Q k n h pc Ls (.long z :: .long x :: st) := by
  subst hq; exact g.pure fun p e s m args below meth c K T L k' n' X hT t r => XT.lor X.here K.1 rfl (hb K.2.1 hd) rfl  r
theorem Go.lxor {x z : Int64} (q : Nat) (hd : decode code pc = .ok (.lxor, 1))  (hq : pc + 1 = q) (g : GoB wf l Z y code ml ret R Q k n h q Ls (.long (x ^^^ z) :: st)) : GoB wf l Z y code ml ret R Q k n h pc Ls (.long z :: .long x :: st) := by
  subst hq; exact g.pure fun p e s m args below meth c K T L k' n' X hT t r => XT.lxor X.here K.1 rfl (hb K.2.1 hd) rfl  r
theorem Go.ldiv {x z : Int64} (q : Nat) (hd : decode code pc = .ok (.ldiv, 1)) (hz : z ≠ 0) (hq : pc + 1 = q) (g : GoB wf l Z y code ml ret R Q k n h q Ls (.long (x / z) :: st)) : GoB wf l Z y code ml ret R Q k n h pc Ls (.long z :: .long x :: st) := by
  subst hq; exact g.pure fun p e s m args below meth c K T L k' n' X hT t r => XT.ldiv X.here K.1 rfl (hb K.2.1 hd) rfl hz r
theorem Go.lrem {x z : Int64} (q : Nat) (hd : decode code pc = .ok (.lrem, 1)) (hz : z ≠ 0) (hq : pc + 1 = q) (g : GoB wf l Z y code ml ret R Q k n h q Ls (.long (x - (x / z) * z) :: st)) : GoB wf l Z y code ml ret R Q k n h pc Ls (.long z :: .long x :: st) := by
  subst hq; exact g.pure fun p e s m args below meth c K T L k' n' X hT t r => XT.lrem X.here K.1 rfl (hb K.2.1 hd) rfl hz r
theorem Go.lneg {x : Int64} (q : Nat) (hd : decode code pc = .ok (.lneg, 1))  (hq : pc + 1 = q) (g : GoB wf l Z y code ml ret R Q k n h q Ls (.long (-x) :: st)) : GoB wf l Z y code ml ret R Q k n h pc Ls (.long x :: st) := by
  subst hq; exact g.pure fun p e s m args below meth c K T L k' n' X hT t r => XT.lneg X.here K.1 rfl (hb K.2.1 hd) rfl  r
theorem Go.lshl {x : Int64} {z : Int32} (q : Nat) (hd : decode code pc = .ok (.lshl, 1))  (hq : pc + 1 = q) (g : GoB wf l Z y code ml ret R Q k n h q Ls (.long (x <<< (z.toInt64 &&& 63)) :: st)) : GoB wf l Z y code ml ret R Q k n h pc Ls (.int z :: .long x :: st) := by
  subst hq; exact g.pure fun p e s m args below meth c K T L k' n' X hT t r => XT.lshl X.here K.1 rfl (hb K.2.1 hd) rfl  r
theorem Go.lshr {x : Int64} {z : Int32} (q : Nat) (hd : decode code pc = .ok (.lshr, 1))  (hq : pc + 1 = q) (g : GoB wf l Z y code ml ret R Q k n h q Ls (.long (x >>> (z.toInt64 &&& 63)) :: st)) : GoB wf l Z y code ml ret R Q k n h pc Ls (.int z :: .long x :: st) := by
  subst hq; exact g.pure fun p e s m args below meth c K T L k' n' X hT t r => XT.lshr X.here K.1 rfl (hb K.2.1 hd) rfl  r
theorem Go.lushr {x : Int64} {z : Int32} (q : Nat) (hd : decode code pc = .ok (.lushr, 1))  (hq : pc + 1 = q) (g : GoB wf l Z y code ml ret R Q k n h q Ls (.long (XT.ushrL x z) :: st)) : GoB wf l Z y code ml ret R Q k n h pc Ls (.int z :: .long x :: st) := by
  subst hq; exact g.pure fun p e s m args below meth c K T L k' n' X hT t r => XT.lushr X.here K.1 rfl (hb K.2.1 hd) rfl  r
theorem Go.lcmp {x z : Int64} (q : Nat) (hd : decode code pc = .ok (.lcmp, 1))  (hq : pc + 1 = q) (g : GoB wf l Z y code ml ret R Q k n h q Ls (.int (XT.cmpL x z) :: st)) : GoB wf l Z y code ml ret R Q k n h pc Ls (.long z :: .long x :: st) := by
  subst hq; exact g.pure fun p e s m args below meth c K T L k' n' X hT t r => XT.lcmp X.here K.1 rfl (hb K.2.1 hd) rfl  r
theorem Go.i2l {x : Int32} (q : Nat) (hd : decode code pc = .ok (.i2l, 1))  (hq : pc + 1 = q) (g : GoB wf l Z y code ml ret R Q k n h q Ls (.long x.toInt64 :: st)) : GoB wf l Z y code ml ret R Q k n h pc Ls (.int x :: st) := by
  subst hq; exact g.pure fun p e s m args below meth c K T L k' n' X hT t r => XT.i2l X.here K.1 rfl (hb K.2.1 hd) rfl  r
theorem Go.l2i {x : Int64} (q : Nat) (hd : decode code pc = .ok (.l2i, 1))  (hq : pc + 1 = q) (g : GoB wf l Z y code ml ret R Q k n h q Ls (.int x.toInt32 :: st)) : GoB wf l Z y code ml ret R Q k n h pc Ls (.long x :: st) := by
  subst hq; exact g.pure fun p e s m args below meth c K T L k' n' X hT t r => XT.l2i X.here K.1 rfl (hb K.2.1 hd) rfl  r
theorem Go.i2b {x : Int32} (q : Nat) (hd : decode code pc = .ok (.i2b, 1))  (hq : pc + 1 = q) (g : GoB wf l Z y code ml ret R Q k n h q Ls (.int x.toInt8.toInt32 :: st)) : GoB wf l Z y code ml ret R Q k n h pc Ls (.int x :: st) := by
  subst hq; exact g.pure fun p e s m args below meth c K T L k' n' X hT t r => XT.i2b X.here K.1 rfl (hb K.2.1 hd) rfl  r
theorem Go.i2c {x : Int32} (q : Nat) (hd : decode code pc = .ok (.i2c, 1))  (hq : pc + 1 = q) (g : GoB wf l Z y code ml ret R Q k n h q Ls (.int x.toUInt32.toUInt16.toUInt32.toInt32 :: st)) : GoB wf l Z y code ml ret R Q k n h pc Ls (.int x :: st) := by
  subst hq; exact g.pure fun p e s m args below meth c K T L k' n' X hT t r => XT.i2c X.here K.1 rfl (hb K.2.1 hd) rfl  r
theorem Go.i2s {x : Int32} (q : Nat) (hd : decode code pc = .ok (.i2s, 1))  (hq : pc + 1 = q) (g : GoB wf l Z y code ml ret R Q k n h q Ls (.int x.toInt16.toInt32 :: st)) : GoB wf l Z y code ml ret R Q k n h pc Ls (.int x :: st) := by
  subst hq; exact g.pure fun p e s m args below meth c K T L k' n' X hT t r => XT.i2s X.here K.1 rfl (hb K.2.1 hd) rfl  r
theorem Go.pop {x : Value} (q : Nat) (hd : decode code pc = .ok (.pop, 1)) (hc : x.category = 1) (hq : pc + 1 = q) (g : GoB wf l Z y code ml ret R Q k n h q Ls (st)) : GoB wf l Z y code ml ret R Q k n h pc Ls (x :: st) := by
  subst hq; exact g.pure fun p e s m args below meth c K T L k' n' X hT t r => XT.pop X.here K.1 rfl (hb K.2.1 hd) rfl hc r
theorem Go.dup {x : Value} (q : Nat) (hd : decode code pc = .ok (.dup, 1)) (hc : x.category = 1) (hq : pc + 1 = q) (g : GoB wf l Z y code ml ret R Q k n h q Ls (x :: x :: st)) : GoB wf l Z y code ml ret R Q k n h pc Ls (x :: st) := by
  subst hq; exact g.pure fun p e s m args below meth c K T L k' n' X hT t r => XS.dup X.here K.1 rfl (hb K.2.1 hd) rfl hc r
theorem Go.dupX1 {x z : Value} (q : Nat) (hd : decode code pc = .ok (.dup_x1, 1)) (hc : x.category = 1) (hc' : z.category = 1) (hq : pc + 1 = q) (g : GoB wf l Z y code ml ret R Q k n h q Ls (x :: z :: x :: st)) : GoB wf l Z y code ml ret R Q k n h pc Ls (x :: z :: st) := by
  subst hq; exact g.pure fun p e s m args below meth c K T L k' n' X hT t r => XT.dupX1 X.here K.1 rfl (hb K.2.1 hd) rfl hc hc' r
theorem Go.dup2 {x z : Value} (q : Nat) (hd : decode code pc = .ok (.dup2, 1)) (hc : x.category = 1) (hc' : z.category = 1) (hq : pc + 1 = q) (g : GoB wf l Z y code ml ret R Q k n h q Ls (x :: z :: x :: z :: st)) : GoB wf l Z y code ml ret R Q k n h pc Ls (x :: z :: st) := by
  subst hq; exact g.pure fun p e s m args below meth c K T L k' n' X hT t r => XT.dup2 X.here K.1 rfl (hb K.2.1 hd) rfl hc hc' r
theorem Go.dup2L {x : Int64} (q : Nat) (hd : decode code pc = .ok (.dup2, 1))  (hq : pc + 1 = q) (g : GoB wf l Z y code ml ret R Q k n h q Ls (.long x :: .long x :: st)) : GoB wf l Z y code ml ret R Q k n h pc Ls (.long x :: st) := by
  subst hq; exact g.pure fun p e s m args below meth c K T L k' n' X hT t r => XT.dup2L X.here K.1 rfl (hb K.2.1 hd) rfl  r
theorem Go.iconst {i : Int} (q : Nat) (v : Int32) (hd : decode code pc = .ok (.iconst i, 1)) (hv : Int32.ofInt i = v) (hq : pc + 1 = q) (g : GoB wf l Z y code ml ret R Q k n h q Ls (.int v :: st)) : GoB wf l Z y code ml ret R Q k n h pc Ls st := by
  subst hq; exact g.pure fun p e s m args below meth c K T L k' n' X hT t r => XT.iconstV X.here K.1 rfl v (hb K.2.1 hd) hv r
theorem Go.bipush {i : Int} (q : Nat) (v : Int32) (hd : decode code pc = .ok (.bipush i, 2)) (hv : (Int8.ofInt i).toInt32 = v) (hq : pc + 2 = q) (g : GoB wf l Z y code ml ret R Q k n h q Ls (.int v :: st)) : GoB wf l Z y code ml ret R Q k n h pc Ls st := by
  subst hq; exact g.pure fun p e s m args below meth c K T L k' n' X hT t r => XT.bipushV X.here K.1 rfl v (hb K.2.1 hd) hv r
theorem Go.sipush {i : Int} (q : Nat) (v : Int32) (hd : decode code pc = .ok (.sipush i, 3)) (hv : (Int16.ofInt i).toInt32 = v) (hq : pc + 3 = q) (g : GoB wf l Z y code ml ret R Q k n h q Ls (.int v :: st)) : GoB wf l Z y code ml ret R Q k n h pc Ls st := by
  subst hq; exact g.pure fun p e s m args below meth c K T L k' n' X hT t r => XT.sipushV X.here K.1 rfl v (hb K.2.1 hd) hv r
theorem Go.lconst {i : Fin 2} (q : Nat) (v : Int64) (hd : decode code pc = .ok (.lconst i, 1)) (hv : Int64.ofNat i = v) (hq : pc + 1 = q) (g : GoB wf l Z y code ml ret R Q k n h q Ls (.long v :: st)) : GoB wf l Z y code ml ret R Q k n h pc Ls st := by
  subst hq; exact g.pure fun p e s m args below meth c K T L k' n' X hT t r => XT.lconstV X.here K.1 rfl v (hb K.2.1 hd) hv r
theorem Go.aconst_null (q : Nat) (hd : decode code pc = .ok (.aconst_null, 1)) (hq : pc + 1 = q) (g : GoB wf l Z y code ml ret R Q k n h q Ls (.null :: st)) : GoB wf l Z y code ml ret R Q k n h pc Ls st := by
  subst hq; exact g.pure fun p e s m args below meth c K T L k' n' X hT t r => XS.aconstNull X.here K.1 rfl (hb K.2.1 hd) r
theorem Go.ldc {i : Nat} {v : Int32} (q : Nat) (hd : decode code pc = .ok (.ldc i, 2)) (w : (Cond.constant y.cls i v).before a0 Z = true) (hq : pc + 2 = q) (g : GoB wf l Z y code ml ret R Q k n h q Ls (.int v :: st)) : GoB wf l Z y code ml ret R Q k n h pc Ls st := by
  subst hq; exact g.pure fun p e s m args below meth c K T L k' n' X hT t r => X.ldcI K.1 K.2.2.2.1 (mvT K.2.2.1 w) rfl (hb K.2.1 hd) r
theorem Go.ldc_w {i : Nat} {v : Int32} (q : Nat) (hd : decode code pc = .ok (.ldc_w i, 3)) (w : (Cond.constant y.cls i v).before a0 Z = true) (hq : pc + 3 = q) (g : GoB wf l Z y code ml ret R Q k n h q Ls (.int v :: st)) : GoB wf l Z y code ml ret R Q k n h pc Ls st := by
  subst hq; exact g.pure fun p e s m args below meth c K T L k' n' X hT t r => X.ldcWI K.1 K.2.2.2.1 (mvT K.2.2.1 w) rfl (hb K.2.1 hd) r
theorem Go.ldc2_w {i : Nat} {v : Int64} (q : Nat) (hd : decode code pc = .ok (.ldc2_w i, 3)) (w : (Cond.constantLong y.cls i v).before a0 Z = true) (hq : pc + 3 = q) (g : GoB wf l Z y code ml ret R Q k n h q Ls (.long v :: st)) : GoB wf l Z y code ml ret R Q k n h pc Ls st := by
  subst hq; exact g.pure fun p e s m args below meth c K T L k' n' X hT t r => X.ldc2J K.1 K.2.2.2.1 (mvT K.2.2.1 w) rfl (hb K.2.1 hd) r
theorem Go.iload {i : Nat} {v : Int32} (q : Nat) (hd : decode code pc = .ok (.iload i, 2)) (hl : Ls[i]? = some (.val (.int v))) (hq : pc + 2 = q) (g : GoB wf l Z y code ml ret R Q k n h q Ls (.int v :: st)) : GoB wf l Z y code ml ret R Q k n h pc Ls st := by
  subst hq; exact g.pure fun p e s m args below meth c K T L k' n' X hT t r => XS.iload X.here K.1 rfl (hb K.2.1 hd) hl r
theorem Go.iload_n {i : Fin 4} {v : Int32} (q : Nat) (hd : decode code pc = .ok (.iload_n i, 1)) (hl : Ls[i.val]? = some (.val (.int v))) (hq : pc + 1 = q) (g : GoB wf l Z y code ml ret R Q k n h q Ls (.int v :: st)) : GoB wf l Z y code ml ret R Q k n h pc Ls st := by
  subst hq; exact g.pure fun p e s m args below meth c K T L k' n' X hT t r => XS.iloadN X.here K.1 rfl (hb K.2.1 hd) hl r
theorem Go.lload {i : Nat} {v : Int64} (q : Nat) (hd : decode code pc = .ok (.lload i, 2)) (hl : Ls[i]? = some (.val (.long v))) (hq : pc + 2 = q) (g : GoB wf l Z y code ml ret R Q k n h q Ls (.long v :: st)) : GoB wf l Z y code ml ret R Q k n h pc Ls st := by
  subst hq; exact g.pure fun p e s m args below meth c K T L k' n' X hT t r => XT.lload X.here K.1 rfl (hb K.2.1 hd) hl r
theorem Go.lload_n {i : Fin 4} {v : Int64} (q : Nat) (hd : decode code pc = .ok (.lload_n i, 1)) (hl : Ls[i.val]? = some (.val (.long v))) (hq : pc + 1 = q) (g : GoB wf l Z y code ml ret R Q k n h q Ls (.long v :: st)) : GoB wf l Z y code ml ret R Q k n h pc Ls st := by
  subst hq; exact g.pure fun p e s m args below meth c K T L k' n' X hT t r => XT.lloadN X.here K.1 rfl (hb K.2.1 hd) hl r
theorem Go.aload {i : Nat} {v : Value} (q : Nat) (hd : decode code pc = .ok (.aload i, 2)) (hl : Ls[i]? = some (.val v)) (hv : v.isRef = true) (hq : pc + 2 = q) (g : GoB wf l Z y code ml ret R Q k n h q Ls (v :: st)) : GoB wf l Z y code ml ret R Q k n h pc Ls st := by
  subst hq; exact g.pure fun p e s m args below meth c K T L k' n' X hT t r => XS.aload X.here K.1 rfl (hb K.2.1 hd) hl hv r
theorem Go.aload_n {i : Fin 4} {v : Value} (q : Nat) (hd : decode code pc = .ok (.aload_n i, 1)) (hl : Ls[i.val]? = some (.val v)) (hv : v.isRef = true) (hq : pc + 1 = q) (g : GoB wf l Z y code ml ret R Q k n h q Ls (v :: st)) : GoB wf l Z y code ml ret R Q k n h pc Ls st := by
  subst hq; exact g.pure fun p e s m args below meth c K T L k' n' X hT t r => XS.aloadN X.here K.1 rfl (hb K.2.1 hd) hl hv r
theorem Go.istore {i : Nat} {v : Int32} (q : Nat) (Ls' : Array Slot) (hd : decode code pc = .ok (.istore i, 2)) (hl : storeLocals Ls i (.int v) = some Ls') (hq : pc + 2 = q) (g : GoB wf l Z y code ml ret R Q k n h q Ls' st) : GoB wf l Z y code ml ret R Q k n h pc Ls (.int v :: st) := by
  subst hq; exact g.pure fun p e s m args below meth c K T L k' n' X hT t r => XS.istore X.here K.1 rfl (hb K.2.1 hd) rfl hl r
theorem Go.istore_n {i : Fin 4} {v : Int32} (q : Nat) (Ls' : Array Slot) (hd : decode code pc = .ok (.istore_n i, 1)) (hl : storeLocals Ls i.val (.int v) = some Ls') (hq : pc + 1 = q) (g : GoB wf l Z y code ml ret R Q k n h q Ls' st) : GoB wf l Z y code ml ret R Q k n h pc Ls (.int v :: st) := by
  subst hq; exact g.pure fun p e s m args below meth c K T L k' n' X hT t r => XS.istoreN X.here K.1 rfl (hb K.2.1 hd) rfl hl r
theorem Go.lstore {i : Nat} {v : Int64} (q : Nat) (Ls' : Array Slot) (hd : decode code pc = .ok (.lstore i, 2)) (hl : storeLocals Ls i (.long v) = some Ls') (hq : pc + 2 = q) (g : GoB wf l Z y code ml ret R Q k n h q Ls' st) : GoB wf l Z y code ml ret R Q k n h pc Ls (.long v :: st) := by
  subst hq; exact g.pure fun p e s m args below meth c K T L k' n' X hT t r => XT.lstore X.here K.1 rfl (hb K.2.1 hd) rfl hl r
theorem Go.lstore_n {i : Fin 4} {v : Int64} (q : Nat) (Ls' : Array Slot) (hd : decode code pc = .ok (.lstore_n i, 1)) (hl : storeLocals Ls i.val (.long v) = some Ls') (hq : pc + 1 = q) (g : GoB wf l Z y code ml ret R Q k n h q Ls' st) : GoB wf l Z y code ml ret R Q k n h pc Ls (.long v :: st) := by
  subst hq; exact g.pure fun p e s m args below meth c K T L k' n' X hT t r => XT.lstoreN X.here K.1 rfl (hb K.2.1 hd) rfl hl r
theorem Go.astore {i : Nat} {v : Value} (q : Nat) (Ls' : Array Slot) (hd : decode code pc = .ok (.astore i, 2)) (hv : v.isRef = true) (hl : storeLocals Ls i v = some Ls') (hq : pc + 2 = q) (g : GoB wf l Z y code ml ret R Q k n h q Ls' st) : GoB wf l Z y code ml ret R Q k n h pc Ls (v :: st) := by
  subst hq; exact g.pure fun p e s m args below meth c K T L k' n' X hT t r => XS.astore X.here K.1 rfl (hb K.2.1 hd) rfl hv hl r
theorem Go.astore_n {i : Fin 4} {v : Value} (q : Nat) (Ls' : Array Slot) (hd : decode code pc = .ok (.astore_n i, 1)) (hv : v.isRef = true) (hl : storeLocals Ls i.val v = some Ls') (hq : pc + 1 = q) (g : GoB wf l Z y code ml ret R Q k n h q Ls' st) : GoB wf l Z y code ml ret R Q k n h pc Ls (v :: st) := by
  subst hq; exact g.pure fun p e s m args below meth c K T L k' n' X hT t r => XS.astoreN X.here K.1 rfl (hb K.2.1 hd) rfl hv hl r
theorem Go.iinc {i : Nat} {cst : Int} {x : Int32} (q : Nat) (v : Int32) (Ls' : Array Slot) (hd : decode code pc = .ok (.iinc i cst, 3)) (hv : Int32.ofInt cst = v) (hl : Ls[i]? = some (.val (.int x))) (hl' : storeLocals Ls i (.int (x + v)) = some Ls') (hq : pc + 3 = q) (g : GoB wf l Z y code ml ret R Q k n h q Ls' st) : GoB wf l Z y code ml ret R Q k n h pc Ls st := by
  subst hq; exact g.pure fun p e s m args below meth c K T L k' n' X hT t r => XT.iincV X.here K.1 rfl v (hb K.2.1 hd) hv hl hl' r
theorem Go.goto {o : Int} (q : Nat) (hd : decode code pc = .ok (.goto o, 3)) (ho : 0 ≤ (pc : Int) + o) (hq : ((pc : Int) + o).toNat = q) (g : GoB wf l Z y code ml ret R Q k n h q Ls st) : GoB wf l Z y code ml ret R Q k n h pc Ls st :=
  g.pure fun p e s m args below meth c K T L k' n' X hT t r => XS.goto X.here K.1 rfl rfl (hb K.2.1 hd) ho hq r
theorem Go.icmp_eq {o : Int} {x z : Int32} (q1 q2 : Nat) (hd : decode code pc = .ok (.if_icmp .eq o, 3)) (ho : 0 ≤ (pc : Int) + o) (h1 : ((pc : Int) + o).toNat = q1) (h2 : pc + 3 = q2) (g1 : x = z → GoB wf l Z y code ml ret R Q k n h q1 Ls st) (g2 : ¬ x = z → GoB wf l Z y code ml ret R Q k n h q2 Ls st) : GoB wf l Z y code ml ret R Q k n h pc Ls (.int z :: .int x :: st) := by
  subst h2
  by_cases hc : x = z
  · exact (g1 hc).pure fun p e s m args below meth c K T L k' n' X hT t r => XS.icmpYes X.here K.1 rfl rfl (hb K.2.1 hd) rfl (XT.ii_eq_t hc) ho h1 r
  · exact (g2 (by first | exact hc | exact Decidable.not_not.mp hc)).pure fun p e s m args below meth c K T L k' n' X hT t r => XS.icmpNo X.here K.1 rfl (hb K.2.1 hd) rfl (XT.ii_eq_f (by first | exact hc | exact Decidable.not_not.mp hc)) r
theorem Go.lcmp_eq {o : Int} {x z : Int64} (q1 q2 : Nat) (hd : decode code pc = .ok (.ifCond .eq o, 3)) (ho : 0 ≤ (pc : Int) + o) (h1 : ((pc : Int) + o).toNat = q1) (h2 : pc + 3 = q2) (g1 : x = z → GoB wf l Z y code ml ret R Q k n h q1 Ls st) (g2 : ¬ x = z → GoB wf l Z y code ml ret R Q k n h q2 Ls st) : GoB wf l Z y code ml ret R Q k n h pc Ls (.int (XT.cmpL x z) :: st) := by
  subst h2
  by_cases hc : x = z
  · exact (g1 hc).pure fun p e s m args below meth c K T L k' n' X hT t r => XS.ifYes X.here K.1 rfl rfl (hb K.2.1 hd) rfl (XT.ll_eq_t hc) ho h1 r
  · exact (g2 (by first | exact hc | exact Decidable.not_not.mp hc)).pure fun p e s m args below meth c K T L k' n' X hT t r => XS.ifNo X.here K.1 rfl (hb K.2.1 hd) rfl (XT.ll_eq_f (by first | exact hc | exact Decidable.not_not.mp hc)) r
theorem Go.icmp_ne {o : Int} {x z : Int32} (q1 q2 : Nat) (hd : decode code pc = .ok (.if_icmp .ne o, 3)) (ho : 0 ≤ (pc : Int) + o) (h1 : ((pc : Int) + o).toNat = q1) (h2 : pc + 3 = q2) (g1 : ¬ x = z → GoB wf l Z y code ml ret R Q k n h q1 Ls st) (g2 : x = z → GoB wf l Z y code ml ret R Q k n h q2 Ls st) : GoB wf l Z y code ml ret R Q k n h pc Ls (.int z :: .int x :: st) := by
  subst h2
  by_cases hc : ¬ x = z
  · exact (g1 hc).pure fun p e s m args below meth c K T L k' n' X hT t r => XS.icmpYes X.here K.1 rfl rfl (hb K.2.1 hd) rfl (XT.ii_ne_t hc) ho h1 r
  · exact (g2 (by first | exact hc | exact Decidable.not_not.mp hc)).pure fun p e s m args below meth c K T L k' n' X hT t r => XS.icmpNo X.here K.1 rfl (hb K.2.1 hd) rfl (XT.ii_ne_f (by first | exact hc | exact Decidable.not_not.mp hc)) r
theorem Go.lcmp_ne {o : Int} {x z : Int64} (q1 q2 : Nat) (hd : decode code pc = .ok (.ifCond .ne o, 3)) (ho : 0 ≤ (pc : Int) + o) (h1 : ((pc : Int) + o).toNat = q1) (h2 : pc + 3 = q2) (g1 : ¬ x = z → GoB wf l Z y code ml ret R Q k n h q1 Ls st) (g2 : x = z → GoB wf l Z y code ml ret R Q k n h q2 Ls st) : GoB wf l Z y code ml ret R Q k n h pc Ls (.int (XT.cmpL x z) :: st) := by
  subst h2
  by_cases hc : ¬ x = z
  · exact (g1 hc).pure fun p e s m args below meth c K T L k' n' X hT t r => XS.ifYes X.here K.1 rfl rfl (hb K.2.1 hd) rfl (XT.ll_ne_t hc) ho h1 r
  · exact (g2 (by first | exact hc | exact Decidable.not_not.mp hc)).pure fun p e s m args below meth c K T L k' n' X hT t r => XS.ifNo X.here K.1 rfl (hb K.2.1 hd) rfl (XT.ll_ne_f (by first | exact hc | exact Decidable.not_not.mp hc)) r
theorem Go.icmp_lt {o : Int} {x z : Int32} (q1 q2 : Nat) (hd : decode code pc = .ok (.if_icmp .lt o, 3)) (ho : 0 ≤ (pc : Int) + o) (h1 : ((pc : Int) + o).toNat = q1) (h2 : pc + 3 = q2) (g1 : x < z → GoB wf l Z y code ml ret R Q k n h q1 Ls st) (g2 : ¬ x < z → GoB wf l Z y code ml ret R Q k n h q2 Ls st) : GoB wf l Z y code ml ret R Q k n h pc Ls (.int z :: .int x :: st) := by
  subst h2
  by_cases hc : x < z
  · exact (g1 hc).pure fun p e s m args below meth c K T L k' n' X hT t r => XS.icmpYes X.here K.1 rfl rfl (hb K.2.1 hd) rfl (XT.ii_lt_t hc) ho h1 r
  · exact (g2 (by first | exact hc | exact Decidable.not_not.mp hc)).pure fun p e s m args below meth c K T L k' n' X hT t r => XS.icmpNo X.here K.1 rfl (hb K.2.1 hd) rfl (XT.ii_lt_f (by first | exact hc | exact Decidable.not_not.mp hc)) r
theorem Go.lcmp_lt {o : Int} {x z : Int64} (q1 q2 : Nat) (hd : decode code pc = .ok (.ifCond .lt o, 3)) (ho : 0 ≤ (pc : Int) + o) (h1 : ((pc : Int) + o).toNat = q1) (h2 : pc + 3 = q2) (g1 : x < z → GoB wf l Z y code ml ret R Q k n h q1 Ls st) (g2 : ¬ x < z → GoB wf l Z y code ml ret R Q k n h q2 Ls st) : GoB wf l Z y code ml ret R Q k n h pc Ls (.int (XT.cmpL x z) :: st) := by
  subst h2
  by_cases hc : x < z
  · exact (g1 hc).pure fun p e s m args below meth c K T L k' n' X hT t r => XS.ifYes X.here K.1 rfl rfl (hb K.2.1 hd) rfl (XT.ll_lt_t hc) ho h1 r
  · exact (g2 (by first | exact hc | exact Decidable.not_not.mp hc)).pure fun p e s m args below meth c K T L k' n' X hT t r => XS.ifNo X.here K.1 rfl (hb K.2.1 hd) rfl (XT.ll_lt_f (by first | exact hc | exact Decidable.not_not.mp hc)) r
theorem Go.icmp_ge {o : Int} {x z : Int32} (q1 q2 : Nat) (hd : decode code pc = .ok (.if_icmp .ge o, 3)) (ho : 0 ≤ (pc : Int) + o) (h1 : ((pc : Int) + o).toNat = q1) (h2 : pc + 3 = q2) (g1 : ¬ x < z → GoB wf l Z y code ml ret R Q k n h q1 Ls st) (g2 : x < z → GoB wf l Z y code ml ret R Q k n h q2 Ls st) : GoB wf l Z y code ml ret R Q k n h pc Ls (.int z :: .int x :: st) := by
  subst h2
  by_cases hc : ¬ x < z
  · exact (g1 hc).pure fun p e s m args below meth c K T L k' n' X hT t r => XS.icmpYes X.here K.1 rfl rfl (hb K.2.1 hd) rfl (XT.ii_ge_t hc) ho h1 r
  · exact (g2 (by first | exact hc | exact Decidable.not_not.mp hc)).pure fun p e s m args below meth c K T L k' n' X hT t r => XS.icmpNo X.here K.1 rfl (hb K.2.1 hd) rfl (XT.ii_ge_f (by first | exact hc | exact Decidable.not_not.mp hc)) r
theorem Go.lcmp_ge {o : Int} {x z : Int64} (q1 q2 : Nat) (hd : decode code pc = .ok (.ifCond .ge o, 3)) (ho : 0 ≤ (pc : Int) + o) (h1 : ((pc : Int) + o).toNat = q1) (h2 : pc + 3 = q2) (g1 : ¬ x < z → GoB wf l Z y code ml ret R Q k n h q1 Ls st) (g2 : x < z → GoB wf l Z y code ml ret R Q k n h q2 Ls st) : GoB wf l Z y code ml ret R Q k n h pc Ls (.int (XT.cmpL x z) :: st) := by
  subst h2
  by_cases hc : ¬ x < z
  · exact (g1 hc).pure fun p e s m args below meth c K T L k' n' X hT t r => XS.ifYes X.here K.1 rfl rfl (hb K.2.1 hd) rfl (XT.ll_ge_t hc) ho h1 r
  · exact (g2 (by first | exact hc | exact Decidable.not_not.mp hc)).pure fun p e s m args below meth c K T L k' n' X hT t r => XS.ifNo X.here K.1 rfl (hb K.2.1 hd) rfl (XT.ll_ge_f (by first | exact hc | exact Decidable.not_not.mp hc)) r
theorem Go.icmp_gt {o : Int} {x z : Int32} (q1 q2 : Nat) (hd : decode code pc = .ok (.if_icmp .gt o, 3)) (ho : 0 ≤ (pc : Int) + o) (h1 : ((pc : Int) + o).toNat = q1) (h2 : pc + 3 = q2) (g1 : z < x → GoB wf l Z y code ml ret R Q k n h q1 Ls st) (g2 : ¬ z < x → GoB wf l Z y code ml ret R Q k n h q2 Ls st) : GoB wf l Z y code ml ret R Q k n h pc Ls (.int z :: .int x :: st) := by
  subst h2
  by_cases hc : z < x
  · exact (g1 hc).pure fun p e s m args below meth c K T L k' n' X hT t r => XS.icmpYes X.here K.1 rfl rfl (hb K.2.1 hd) rfl (XT.ii_gt_t hc) ho h1 r
  · exact (g2 (by first | exact hc | exact Decidable.not_not.mp hc)).pure fun p e s m args below meth c K T L k' n' X hT t r => XS.icmpNo X.here K.1 rfl (hb K.2.1 hd) rfl (XT.ii_gt_f (by first | exact hc | exact Decidable.not_not.mp hc)) r
theorem Go.lcmp_gt {o : Int} {x z : Int64} (q1 q2 : Nat) (hd : decode code pc = .ok (.ifCond .gt o, 3)) (ho : 0 ≤ (pc : Int) + o) (h1 : ((pc : Int) + o).toNat = q1) (h2 : pc + 3 = q2) (g1 : z < x → GoB wf l Z y code ml ret R Q k n h q1 Ls st) (g2 : ¬ z < x → GoB wf l Z y code ml ret R Q k n h q2 Ls st) : GoB wf l Z y code ml ret R Q k n h pc Ls (.int (XT.cmpL x z) :: st) := by
  subst h2
  by_cases hc : z < x
  · exact (g1 hc).pure fun p e s m args below meth c K T L k' n' X hT t r => XS.ifYes X.here K.1 rfl rfl (hb K.2.1 hd) rfl (XT.ll_gt_t hc) ho h1 r
  · exact (g2 (by first | exact hc | exact Decidable.not_not.mp hc)).pure fun p e s m args below meth c K T L k' n' X hT t r => XS.ifNo X.here K.1 rfl (hb K.2.1 hd) rfl (XT.ll_gt_f (by first | exact hc | exact Decidable.not_not.mp hc)) r
theorem Go.icmp_le {o : Int} {x z : Int32} (q1 q2 : Nat) (hd : decode code pc = .ok (.if_icmp .le o, 3)) (ho : 0 ≤ (pc : Int) + o) (h1 : ((pc : Int) + o).toNat = q1) (h2 : pc + 3 = q2) (g1 : ¬ z < x → GoB wf l Z y code ml ret R Q k n h q1 Ls st) (g2 : z < x → GoB wf l Z y code ml ret R Q k n h q2 Ls st) : GoB wf l Z y code ml ret R Q k n h pc Ls (.int z :: .int x :: st) := by
  subst h2
  by_cases hc : ¬ z < x
  · exact (g1 hc).pure fun p e s m args below meth c K T L k' n' X hT t r => XS.icmpYes X.here K.1 rfl rfl (hb K.2.1 hd) rfl (XT.ii_le_t hc) ho h1 r
  · exact (g2 (by first | exact hc | exact Decidable.not_not.mp hc)).pure fun p e s m args below meth c K T L k' n' X hT t r => XS.icmpNo X.here K.1 rfl (hb K.2.1 hd) rfl (XT.ii_le_f (by first | exact hc | exact Decidable.not_not.mp hc)) r
theorem Go.lcmp_le {o : Int} {x z : Int64} (q1 q2 : Nat) (hd : decode code pc = .ok (.ifCond .le o, 3)) (ho : 0 ≤ (pc : Int) + o) (h1 : ((pc : Int) + o).toNat = q1) (h2 : pc + 3 = q2) (g1 : ¬ z < x → GoB wf l Z y code ml ret R Q k n h q1 Ls st) (g2 : z < x → GoB wf l Z y code ml ret R Q k n h q2 Ls st) : GoB wf l Z y code ml ret R Q k n h pc Ls (.int (XT.cmpL x z) :: st) := by
  subst h2
  by_cases hc : ¬ z < x
  · exact (g1 hc).pure fun p e s m args below meth c K T L k' n' X hT t r => XS.ifYes X.here K.1 rfl rfl (hb K.2.1 hd) rfl (XT.ll_le_t hc) ho h1 r
  · exact (g2 (by first | exact hc | exact Decidable.not_not.mp hc)).pure fun p e s m args below meth c K T L k' n' X hT t r => XS.ifNo X.here K.1 rfl (hb K.2.1 hd) rfl (XT.ll_le_f (by first | exact hc | exact Decidable.not_not.mp hc)) r
theorem if0_eq_t {x : Int32} (h : x = 0) : ifCond.holds .eq x = true := by
  have e : ifCond.holds .eq x = if_icmp.holds .eq x 0 := rfl
  rw [e]; exact XT.ii_eq_t h
theorem if0_eq_f {x : Int32} (h : ¬ x = 0) : ifCond.holds .eq x = false := by
  have e : ifCond.holds .eq x = if_icmp.holds .eq x 0 := rfl
  rw [e]; exact XT.ii_eq_f h
theorem Go.if_eq {o : Int} {x : Int32} (q1 q2 : Nat) (hd : decode code pc = .ok (.ifCond .eq o, 3)) (ho : 0 ≤ (pc : Int) + o) (h1 : ((pc : Int) + o).toNat = q1) (h2 : pc + 3 = q2) (g1 : x = 0 → GoB wf l Z y code ml ret R Q k n h q1 Ls st) (g2 : ¬ x = 0 → GoB wf l Z y code ml ret R Q k n h q2 Ls st) : GoB wf l Z y code ml ret R Q k n h pc Ls (.int x :: st) := by
  subst h2
  by_cases hc : x = 0
  · exact (g1 hc).pure fun p e s m args below meth c K T L k' n' X hT t r => XS.ifYes X.here K.1 rfl rfl (hb K.2.1 hd) rfl (if0_eq_t hc) ho h1 r
  · exact (g2 (by first | exact hc | exact Decidable.not_not.mp hc)).pure fun p e s m args below meth c K T L k' n' X hT t r => XS.ifNo X.here K.1 rfl (hb K.2.1 hd) rfl (if0_eq_f (by first | exact hc | exact Decidable.not_not.mp hc)) r
theorem if0_ne_t {x : Int32} (h : ¬ x = 0) : ifCond.holds .ne x = true := by
  have e : ifCond.holds .ne x = if_icmp.holds .ne x 0 := rfl
  rw [e]; exact XT.ii_ne_t h
theorem if0_ne_f {x : Int32} (h : x = 0) : ifCond.holds .ne x = false := by
  have e : ifCond.holds .ne x = if_icmp.holds .ne x 0 := rfl
  rw [e]; exact XT.ii_ne_f h
theorem Go.if_ne {o : Int} {x : Int32} (q1 q2 : Nat) (hd : decode code pc = .ok (.ifCond .ne o, 3)) (ho : 0 ≤ (pc : Int) + o) (h1 : ((pc : Int) + o).toNat = q1) (h2 : pc + 3 = q2) (g1 : ¬ x = 0 → GoB wf l Z y code ml ret R Q k n h q1 Ls st) (g2 : x = 0 → GoB wf l Z y code ml ret R Q k n h q2 Ls st) : GoB wf l Z y code ml ret R Q k n h pc Ls (.int x :: st) := by
  subst h2
  by_cases hc : ¬ x = 0
  · exact (g1 hc).pure fun p e s m args below meth c K T L k' n' X hT t r => XS.ifYes X.here K.1 rfl rfl (hb K.2.1 hd) rfl (if0_ne_t hc) ho h1 r
  · exact (g2 (by first | exact hc | exact Decidable.not_not.mp hc)).pure fun p e s m args below meth c K T L k' n' X hT t r => XS.ifNo X.here K.1 rfl (hb K.2.1 hd) rfl (if0_ne_f (by first | exact hc | exact Decidable.not_not.mp hc)) r
theorem if0_lt_t {x : Int32} (h : x < 0) : ifCond.holds .lt x = true := by
  have e : ifCond.holds .lt x = if_icmp.holds .lt x 0 := rfl
  rw [e]; exact XT.ii_lt_t h
theorem if0_lt_f {x : Int32} (h : ¬ x < 0) : ifCond.holds .lt x = false := by
  have e : ifCond.holds .lt x = if_icmp.holds .lt x 0 := rfl
  rw [e]; exact XT.ii_lt_f h
theorem Go.if_lt {o : Int} {x : Int32} (q1 q2 : Nat) (hd : decode code pc = .ok (.ifCond .lt o, 3)) (ho : 0 ≤ (pc : Int) + o) (h1 : ((pc : Int) + o).toNat = q1) (h2 : pc + 3 = q2) (g1 : x < 0 → GoB wf l Z y code ml ret R Q k n h q1 Ls st) (g2 : ¬ x < 0 → GoB wf l Z y code ml ret R Q k n h q2 Ls st) : GoB wf l Z y code ml ret R Q k n h pc Ls (.int x :: st) := by
  subst h2
  by_cases hc : x < 0
  · exact (g1 hc).pure fun p e s m args below meth c K T L k' n' X hT t r => XS.ifYes X.here K.1 rfl rfl (hb K.2.1 hd) rfl (if0_lt_t hc) ho h1 r
  · exact (g2 (by first | exact hc | exact Decidable.not_not.mp hc)).pure fun p e s m args below meth c K T L k' n' X hT t r => XS.ifNo X.here K.1 rfl (hb K.2.1 hd) rfl (if0_lt_f (by first | exact hc | exact Decidable.not_not.mp hc)) r
theorem if0_ge_t {x : Int32} (h : ¬ x < 0) : ifCond.holds .ge x = true := by
  have e : ifCond.holds .ge x = if_icmp.holds .ge x 0 := rfl
  rw [e]; exact XT.ii_ge_t h
theorem if0_ge_f {x : Int32} (h : x < 0) : ifCond.holds .ge x = false := by
  have e : ifCond.holds .ge x = if_icmp.holds .ge x 0 := rfl
  rw [e]; exact XT.ii_ge_f h
theorem Go.if_ge {o : Int} {x : Int32} (q1 q2 : Nat) (hd : decode code pc = .ok (.ifCond .ge o, 3)) (ho : 0 ≤ (pc : Int) + o) (h1 : ((pc : Int) + o).toNat = q1) (h2 : pc + 3 = q2) (g1 : ¬ x < 0 → GoB wf l Z y code ml ret R Q k n h q1 Ls st) (g2 : x < 0 → GoB wf l Z y code ml ret R Q k n h q2 Ls st) : GoB wf l Z y code ml ret R Q k n h pc Ls (.int x :: st) := by
  subst h2
  by_cases hc : ¬ x < 0
  · exact (g1 hc).pure fun p e s m args below meth c K T L k' n' X hT t r => XS.ifYes X.here K.1 rfl rfl (hb K.2.1 hd) rfl (if0_ge_t hc) ho h1 r
  · exact (g2 (by first | exact hc | exact Decidable.not_not.mp hc)).pure fun p e s m args below meth c K T L k' n' X hT t r => XS.ifNo X.here K.1 rfl (hb K.2.1 hd) rfl (if0_ge_f (by first | exact hc | exact Decidable.not_not.mp hc)) r
theorem if0_gt_t {x : Int32} (h : 0 < x) : ifCond.holds .gt x = true := by
  have e : ifCond.holds .gt x = if_icmp.holds .gt x 0 := rfl
  rw [e]; exact XT.ii_gt_t h
theorem if0_gt_f {x : Int32} (h : ¬ 0 < x) : ifCond.holds .gt x = false := by
  have e : ifCond.holds .gt x = if_icmp.holds .gt x 0 := rfl
  rw [e]; exact XT.ii_gt_f h
theorem Go.if_gt {o : Int} {x : Int32} (q1 q2 : Nat) (hd : decode code pc = .ok (.ifCond .gt o, 3)) (ho : 0 ≤ (pc : Int) + o) (h1 : ((pc : Int) + o).toNat = q1) (h2 : pc + 3 = q2) (g1 : 0 < x → GoB wf l Z y code ml ret R Q k n h q1 Ls st) (g2 : ¬ 0 < x → GoB wf l Z y code ml ret R Q k n h q2 Ls st) : GoB wf l Z y code ml ret R Q k n h pc Ls (.int x :: st) := by
  subst h2
  by_cases hc : 0 < x
  · exact (g1 hc).pure fun p e s m args below meth c K T L k' n' X hT t r => XS.ifYes X.here K.1 rfl rfl (hb K.2.1 hd) rfl (if0_gt_t hc) ho h1 r
  · exact (g2 (by first | exact hc | exact Decidable.not_not.mp hc)).pure fun p e s m args below meth c K T L k' n' X hT t r => XS.ifNo X.here K.1 rfl (hb K.2.1 hd) rfl (if0_gt_f (by first | exact hc | exact Decidable.not_not.mp hc)) r
theorem if0_le_t {x : Int32} (h : ¬ 0 < x) : ifCond.holds .le x = true := by
  have e : ifCond.holds .le x = if_icmp.holds .le x 0 := rfl
  rw [e]; exact XT.ii_le_t h
theorem if0_le_f {x : Int32} (h : 0 < x) : ifCond.holds .le x = false := by
  have e : ifCond.holds .le x = if_icmp.holds .le x 0 := rfl
  rw [e]; exact XT.ii_le_f h
theorem Go.if_le {o : Int} {x : Int32} (q1 q2 : Nat) (hd : decode code pc = .ok (.ifCond .le o, 3)) (ho : 0 ≤ (pc : Int) + o) (h1 : ((pc : Int) + o).toNat = q1) (h2 : pc + 3 = q2) (g1 : ¬ 0 < x → GoB wf l Z y code ml ret R Q k n h q1 Ls st) (g2 : 0 < x → GoB wf l Z y code ml ret R Q k n h q2 Ls st) : GoB wf l Z y code ml ret R Q k n h pc Ls (.int x :: st) := by
  subst h2
  by_cases hc : ¬ 0 < x
  · exact (g1 hc).pure fun p e s m args below meth c K T L k' n' X hT t r => XS.ifYes X.here K.1 rfl rfl (hb K.2.1 hd) rfl (if0_le_t hc) ho h1 r
  · exact (g2 (by first | exact hc | exact Decidable.not_not.mp hc)).pure fun p e s m args below meth c K T L k' n' X hT t r => XS.ifNo X.here K.1 rfl (hb K.2.1 hd) rfl (if0_le_f (by first | exact hc | exact Decidable.not_not.mp hc)) r
theorem Go.ifnull_no {o : Int} {b : Addr} (q : Nat) (hd : decode code pc = .ok (.ifnull o, 3)) (hq : pc + 3 = q) (g : GoB wf l Z y code ml ret R Q k n h q Ls st) : GoB wf l Z y code ml ret R Q k n h pc Ls (.ref b :: st) := by
  subst hq; exact g.pure fun p e s m args below meth c K T L k' n' X hT t r => XS.ifnullNo X.here K.1 rfl (hb K.2.1 hd) rfl r
theorem Go.ifnull_yes {o : Int} (q : Nat) (hd : decode code pc = .ok (.ifnull o, 3)) (ho : 0 ≤ (pc : Int) + o) (hq : ((pc : Int) + o).toNat = q) (g : GoB wf l Z y code ml ret R Q k n h q Ls st) : GoB wf l Z y code ml ret R Q k n h pc Ls (.null :: st) :=
  g.pure fun p e s m args below meth c K T L k' n' X hT t r => XS.ifnullYes X.here K.1 rfl rfl (hb K.2.1 hd) rfl ho hq r
theorem Go.ifnonnull_yes {o : Int} {b : Addr} (q : Nat) (hd : decode code pc = .ok (.ifnonnull o, 3)) (ho : 0 ≤ (pc : Int) + o) (hq : ((pc : Int) + o).toNat = q) (g : GoB wf l Z y code ml ret R Q k n h q Ls st) : GoB wf l Z y code ml ret R Q k n h pc Ls (.ref b :: st) :=
  g.pure fun p e s m args below meth c K T L k' n' X hT t r => XT.ifnonnullYes X.here K.1 rfl rfl (hb K.2.1 hd) rfl ho hq r
theorem Go.ifnonnull_no {o : Int} (q : Nat) (hd : decode code pc = .ok (.ifnonnull o, 3)) (hq : pc + 3 = q) (g : GoB wf l Z y code ml ret R Q k n h q Ls st) : GoB wf l Z y code ml ret R Q k n h pc Ls (.null :: st) := by
  subst hq; exact g.pure fun p e s m args below meth c K T L k' n' X hT t r => XT.ifnonnullNo X.here K.1 rfl (hb K.2.1 hd) rfl r
theorem Go.acmp {cd : ACond} {o : Int} {x z : Value} (q : Nat) (same : Bool) (hd : decode code pc = .ok (.if_acmp cd o, 3)) (h1 : x.isRef = true) (h2 : z.isRef = true) (hs : decide (x = z) = same) (ho : 0 ≤ (pc : Int) + o) (hq : q = if acV cd same = true then ((pc : Int) + o).toNat else pc + 3) (g : GoB wf l Z y code ml ret R Q k n h q Ls st) : GoB wf l Z y code ml ret R Q k n h pc Ls (z :: x :: st) :=
  g.pure fun p e s m args below meth c K T L k' n' X hT t r => Jvm.RoadKit.acmp X K.1 rfl h1 h2 rfl (hb K.2.1 hd) rfl hs ho hq r
theorem Go.acmp_eq {o : Int} {x z : Addr} (q1 q2 : Nat) (hd : decode code pc = .ok (.if_acmp .eq o, 3)) (ho : 0 ≤ (pc : Int) + o) (h1 : ((pc : Int) + o).toNat = q1) (h2 : pc + 3 = q2) (g1 : x = z → GoB wf l Z y code ml ret R Q k n h q1 Ls st) (g2 : ¬ x = z → GoB wf l Z y code ml ret R Q k n h q2 Ls st) : GoB wf l Z y code ml ret R Q k n h pc Ls (.ref z :: .ref x :: st) := by
  subst h1 h2
  by_cases hc : x = z
  · exact Go.acmp _ true hd rfl rfl (by simp [hc]) ho rfl (by simpa [acV] using g1 hc)
  · exact Go.acmp _ false hd rfl rfl (by simp [hc]) ho rfl (by simpa [acV] using g2 hc)
theorem Go.acmp_ne {o : Int} {x z : Addr} (q1 q2 : Nat) (hd : decode code pc = .ok (.if_acmp .ne o, 3)) (ho : 0 ≤ (pc : Int) + o) (h1 : ((pc : Int) + o).toNat = q1) (h2 : pc + 3 = q2) (g1 : ¬ x = z → GoB wf l Z y code ml ret R Q k n h q1 Ls st) (g2 : x = z → GoB wf l Z y code ml ret R Q k n h q2 Ls st) : GoB wf l Z y code ml ret R Q k n h pc Ls (.ref z :: .ref x :: st) := by
  subst h1 h2
  by_cases hc : x = z
  · exact Go.acmp _ true hd rfl rfl (by simp [hc]) ho rfl (by simpa [acV] using g2 hc)
  · exact Go.acmp _ false hd rfl rfl (by simp [hc]) ho rfl (by simpa [acV] using g1 hc)

theorem Go.retV {v : Value} {t : FieldType} {i : Instr} (hd : decode code pc = .ok (i, 1)) (hret : ret = some t) (hn : narrow t v = v)
    (hi : (i = .ireturn ∧ (t = .int ∨ t = .boolean ∨ t = .byte ∨ t = .char ∨ t = .short) ∧ ∃ z, v = .int z) ∨ (i = .lreturn ∧ t = .long ∧ ∃ z, v = .long z) ∨ (i = .dreturn ∧ t = .double ∧ ∃ z, v = .double z) ∨ (i = .freturn ∧ t = .float ∧ ∃ z, v = .float z) ∨ (i = .areturn ∧ t.isReference = true ∧ v.isRef = true))
    (hk : k ≤ R.cells) (hN : n ≤ R.slots) (hQ : Q (some v) h) : GoB wf l Z y code ml ret R Q k n h pc Ls (v :: st) := by
  intro p e s m args below meth c K T L k' n' X h1 h2 N hT
  refine ⟨s, some v, T, L, k', n', Or.inl rfl, X, Nat.le_trans h1 hk, Nat.le_trans h2 hN, N, hT ▸ hQ, fun e => ?_, fun fs hl => ?_⟩
  · rw [hret] at e; cases e
  · exact retOut X K.1 (K.2.2.2.2.2.1.trans hret) hn hi (hb K.2.1 hd) hl
theorem Go.ireturn {z : Int32} {P : Int32 → Heap → Prop} (hd : decode code pc = .ok (.ireturn, 1)) (hret : ret = some .int) (hk : k ≤ R.cells) (hN : n ≤ R.slots) (hP : P z h) : GoB wf l Z y code ml ret R (QI P) k n h pc Ls (.int z :: st) :=
  Go.retV hd hret rfl (Or.inl ⟨rfl, Or.inl rfl, z, rfl⟩) hk hN ⟨z, rfl, hP⟩
theorem Go.lreturn {z : Int64} {P : Int64 → Heap → Prop} (hd : decode code pc = .ok (.lreturn, 1)) (hret : ret = some .long) (hk : k ≤ R.cells) (hN : n ≤ R.slots) (hP : P z h) : GoB wf l Z y code ml ret R (QJ P) k n h pc Ls (.long z :: st) :=
  Go.retV hd hret rfl (Or.inr (Or.inl ⟨rfl, rfl, z, rfl⟩)) hk hN ⟨z, rfl, hP⟩
theorem Go.areturn {z : Value} {t : FieldType} {P : Value → Heap → Prop} (hd : decode code pc = .ok (.areturn, 1)) (hret : ret = some t) (ht : t.isReference = true) (hz : z.isRef = true) (hk : k ≤ R.cells) (hN : n ≤ R.slots) (hP : P z h) : GoB wf l Z y code ml ret R (QR P) k n h pc Ls (z :: st) := by
  refine Go.retV hd hret ?_ (Or.inr (Or.inr (Or.inr (Or.inr ⟨rfl, ht, hz⟩)))) hk hN ⟨z, rfl, hP⟩
  cases t <;> cases z <;> first | rfl | (simp [Value.isRef] at hz)
/-- a boolean, byte, char or short: narrowed -/
theorem Go.nreturn {z z' : Int32} {t : FieldType} {P : Int32 → Heap → Prop} (hd : decode code pc = .ok (.ireturn, 1)) (hret : ret = some t) (ht : t = .boolean ∨ t = .byte ∨ t = .char ∨ t = .short) (hz : nar t z = z') (hk : k ≤ R.cells) (hN : n ≤ R.slots) (hP : P z' h) : GoB wf l Z y code ml ret R (QI P) k n h pc Ls (.int z :: st) := by
  subst hz
  intro p e s m args below meth c K T L k' n' X h1 h2 N hT
  refine ⟨s, some (.int (nar t z)), T, L, k', n', Or.inl rfl, X, Nat.le_trans h1 hk, Nat.le_trans h2 hN, N, ⟨_, rfl, hT ▸ hP⟩, fun e => ?_, fun fs hl => ?_⟩
  · rw [hret] at e; cases e
  · exact retN X K.1 (K.2.2.2.2.2.1.trans hret) ht (hb K.2.1 hd) hl
theorem Go.vreturn {P : Heap → Prop} (hd : decode code pc = .ok (.return_, 1)) (hret : ret = none) (hk : k ≤ R.cells) (hN : n ≤ R.slots) (hP : P h) : GoB wf l Z y code ml ret R (QV P) k n h pc Ls [] := by
  intro p e s m args below meth c K T L k' n' X h1 h2 N hT
  exact ⟨s, none, T, L, k', n', Or.inl rfl, X, Nat.le_trans h1 hk, Nat.le_trans h2 hN, N, ⟨rfl, hT ▸ hP⟩, fun _ => rfl, fun fs hl => X.returnOut K.1 (K.2.2.2.2.2.1.trans hret) (hb K.2.1 hd) hl⟩
/-- the whole body, as a contract -/
theorem Go.met {as' : Array Value} (hx : plainFor y = true) (hent : ∀ m, entryFrame m as' ml = mkF m 0 Ls []) (G : Go l Z y code ml ret R Q 0 0 h 0 Ls []) (ws : List Jvm.Cond) :
    MetFree l y (head1 (Jvm.Cond.code y code ml ret :: ws) R) (fun a U => a = as' ∧ Z.Warmed39 U.vm ∧ U.heap = h) (fun _ _ _ _ _ => True) (fun _ U o U' => ∃ v L, o = .returned v ∧ (Q v U'.heap ∧ Fr Z.heap.size L) ∧ FrameEnd U o U' L R.cells R.slots) := by
  refine MetFree.of_bodySF hx hisR ?_
  intro p e s m args below meth c s₁ Bd hml hP hK
  obtain ⟨rfl, hZ, hh⟩ := hP
  have X0 : Stand p l e R s m args below meth c s₁ [] 0 0 := Stand.of_body Bd
  have e0 : s₁.heap = h := by rw [← hh, Bd.state]; rfl
  have hnm := (name_of_methodNamed Bd.named Bd.method).1
  obtain ⟨s', v, T', L', k'', n'', ok', X', b1, b2, N', q, hv, stp⟩ := G p e s m args below meth c ⟨Bd.exec, Bd.bytes, hZ, findClass_of_methodNamed Bd.named, hml, Bd.returns, Bd.notSynchronized, hnm⟩ s₁ [] 0 0 X0 (Nat.le_refl _) (Nat.le_refl _) (Fr.nil _) e0
  obtain rfl : s' = s := ok'.elim id (fun q => absurd q.1 (by decide))
  obtain ⟨fs, hr, hrun, hended, hW, hsame⟩ := X'.leave (v := v) (fun hh => hv (by rw [← Bd.returns]; exact hh))
  refine ⟨_, _, castTop (hent m) (stp fs hr), hrun, hended, v, L', rfl, ⟨q, N'⟩, ⟨_, rfl⟩, hW, hsame.mono b1 b2⟩


theorem Go.getfield {i : Nat} {O nm d : String} {a : Addr} {v : Value} (q : Nat) (hd : decode code pc = .ok (.getfield i, 3)) (w : (Cond.fieldLink y.cls i O nm d).before a0 Z = true) (F : Fld Z h a O nm d v) (hq : pc + 3 = q) (g : GoB wf l Z y code ml ret R Q k n h q Ls (v :: st)) : GoB wf l Z y code ml ret R Q k n h pc Ls (.ref a :: st) := by
  subst hq
  refine GoB.move (P := fun h' => h' = h) (kk := k) (nn := n) (fun h' e => e ▸ g) ?_
  intro p e s m args below meth c K T L k' n' X h1 h2 N hT
  obtain ⟨T', X', e', s'⟩ := getF X K.1 K.2.2.1 K.2.2.2.1 (host := "") (Or.inl w) Via.refl hT F (g := mkF m pc Ls (.ref a :: st)) rfl rfl (hb K.2.1 hd)
  exact ⟨T', L, k', n', X', h1, h2, N, e', s'⟩
theorem Go.getfieldN {i : Nat} {O nm d host : String} {a : Addr} {v : Value} (q : Nat) (hd : decode code pc = .ok (.getfield i, 3)) (w : (Cond.fieldLinkNest y.cls i O nm d host).before a0 Z = true) (F : Fld Z h a O nm d v) (hq : pc + 3 = q) (g : GoB wf l Z y code ml ret R Q k n h q Ls (v :: st)) : GoB wf l Z y code ml ret R Q k n h pc Ls (.ref a :: st) := by
  subst hq
  refine GoB.move (P := fun h' => h' = h) (kk := k) (nn := n) (fun h' e => e ▸ g) ?_
  intro p e s m args below meth c K T L k' n' X h1 h2 N hT
  obtain ⟨T', X', e', s'⟩ := getF X K.1 K.2.2.1 K.2.2.2.1 (host := host) (Or.inr w) Via.refl hT F (g := mkF m pc Ls (.ref a :: st)) rfl rfl (hb K.2.1 hd)
  exact ⟨T', L, k', n', X', h1, h2, N, e', s'⟩
theorem Go.getfieldU {i : Nat} {R0 O nm d : String} {a : Addr} {v : Value} (q : Nat) (hd : decode code pc = .ok (.getfield i, 3)) (w : (Cond.fieldLink y.cls i R0 nm d).before a0 Z = true) (via : Via Z R0 O nm d) (F : Fld Z h a O nm d v) (hq : pc + 3 = q) (g : GoB wf l Z y code ml ret R Q k n h q Ls (v :: st)) : GoB wf l Z y code ml ret R Q k n h pc Ls (.ref a :: st) := by
  subst hq
  refine GoB.move (P := fun h' => h' = h) (kk := k) (nn := n) (fun h' e => e ▸ g) ?_
  intro p e s m args below meth c K T L k' n' X h1 h2 N hT
  obtain ⟨T', X', e', s'⟩ := getF X K.1 K.2.2.1 K.2.2.2.1 (host := "") (Or.inl w) via hT F (g := mkF m pc Ls (.ref a :: st)) rfl rfl (hb K.2.1 hd)
  exact ⟨T', L, k', n', X', h1, h2, N, e', s'⟩
theorem Go.getstatic {i : Nat} {O nm d : String} {v : Value} (q : Nat) (hd : decode code pc = .ok (.getstatic i, 3)) (w : (Cond.fieldLink y.cls i O nm d).before a0 Z = true) (F : Sta Z h O nm d v) (hq : pc + 3 = q) (g : GoB wf l Z y code ml ret R Q k n h q Ls (v :: st)) : GoB wf l Z y code ml ret R Q k n h pc Ls st := by
  subst hq
  refine GoB.move (P := fun h' => h' = h) (kk := k) (nn := n) (fun h' e => e ▸ g) ?_
  intro p e s m args below meth c K T L k' n' X h1 h2 N hT
  obtain ⟨T', X', e', s'⟩ := getS X K.1 K.2.2.1 (host := "") K.2.2.2.1 w Via.refl hT F (g := mkF m pc Ls st) rfl (hb K.2.1 hd)
  exact ⟨T', L, k', n', X', h1, h2, N, e', s'⟩
theorem Go.putfield {i kk : Nat} {C O nm d : String} {ty : FieldType} {a : Addr} {v old : Value} (q : Nat) (hd : decode code pc = .ok (.putfield i, 3)) (w : (Cond.fieldLink y.cls i O nm d).before a0 Z = true) (F : Fld Z h a O nm d old) (E : Exa Z h a C) (hL : (Cond.lays C O nm d).before a0 Z = true ∨ ((Cond.laysFinal C O nm d).before a0 Z = true ∧ y.cls = O ∧ y.name = "<init>"))
    (wi : (Cond.instantiable C kk).before a0 Z = true) (hty : parseFieldDescriptor d = some ty) (hn : narrow ty v = v) (hf : fits ty v = true) (hge : Z.heap.size ≤ a) (hq : pc + 3 = q)
    (g : ∀ h', Wr h h' a (Jvm.RoadKit.slotOf Z O nm d) v → GoB wf l Z y code ml ret R Q k n h' q Ls st) : GoB wf l Z y code ml ret R Q k n h pc Ls (v :: .ref a :: st) := by
  subst hq
  refine GoB.move (P := fun h' => Wr h h' a (Jvm.RoadKit.slotOf Z O nm d) v) (kk := k) (nn := n) g ?_
  intro p e s m args below meth c K T L k' n' X h1 h2 N hT
  obtain ⟨T', h', X', e', W', s'⟩ := putF X K.1 K.2.2.1 K.2.2.2.1 (host := "") (Or.inl w) Via.refl hT F E (hL.imp id fun ⟨a1, a2, a3⟩ => ⟨a1, a2, K.2.2.2.2.2.2.2.trans a3⟩) wi hty hn hf (g := mkF m pc Ls (v :: .ref a :: st)) rfl rfl (hb K.2.1 hd)
  exact ⟨T', _, k', n', X', h1, h2, Fr.snoc X' N hge, e' ▸ W', s'⟩
theorem Go.putfieldU {i kk : Nat} {R0 C O nm d : String} {ty : FieldType} {a : Addr} {v old : Value} (q : Nat) (hd : decode code pc = .ok (.putfield i, 3)) (w : (Cond.fieldLink y.cls i R0 nm d).before a0 Z = true) (via : Via Z R0 O nm d) (F : Fld Z h a O nm d old) (E : Exa Z h a C) (hL : (Cond.lays C O nm d).before a0 Z = true ∨ ((Cond.laysFinal C O nm d).before a0 Z = true ∧ y.cls = O ∧ y.name = "<init>"))
    (wi : (Cond.instantiable C kk).before a0 Z = true) (hty : parseFieldDescriptor d = some ty) (hn : narrow ty v = v) (hf : fits ty v = true) (hge : Z.heap.size ≤ a) (hq : pc + 3 = q)
    (g : ∀ h', Wr h h' a (Jvm.RoadKit.slotOf Z O nm d) v → GoB wf l Z y code ml ret R Q k n h' q Ls st) : GoB wf l Z y code ml ret R Q k n h pc Ls (v :: .ref a :: st) := by
  subst hq
  refine GoB.move (P := fun h' => Wr h h' a (Jvm.RoadKit.slotOf Z O nm d) v) (kk := k) (nn := n) g ?_
  intro p e s m args below meth c K T L k' n' X h1 h2 N hT
  obtain ⟨T', h', X', e', W', s'⟩ := putF X K.1 K.2.2.1 K.2.2.2.1 (host := "") (Or.inl w) via hT F E (hL.imp id fun ⟨a1, a2, a3⟩ => ⟨a1, a2, K.2.2.2.2.2.2.2.trans a3⟩) wi hty hn hf (g := mkF m pc Ls (v :: .ref a :: st)) rfl rfl (hb K.2.1 hd)
  exact ⟨T', _, k', n', X', h1, h2, Fr.snoc X' N hge, e' ▸ W', s'⟩
/-- a field that narrows (boolean, byte, char, short) -/
theorem Go.putfieldN {i kk : Nat} {C O nm d : String} {ty : FieldType} {a : Addr} {v v' old : Value} (q : Nat) (hd : decode code pc = .ok (.putfield i, 3)) (w : (Cond.fieldLink y.cls i O nm d).before a0 Z = true) (F : Fld Z h a O nm d old) (E : Exa Z h a C) (hL : (Cond.lays C O nm d).before a0 Z = true ∨ ((Cond.laysFinal C O nm d).before a0 Z = true ∧ y.cls = O ∧ y.name = "<init>"))
    (wi : (Cond.instantiable C kk).before a0 Z = true) (hty : parseFieldDescriptor d = some ty) (hn : narrow ty v = v') (hf : fits ty v' = true) (hge : Z.heap.size ≤ a) (hq : pc + 3 = q)
    (g : ∀ h', Wr h h' a (Jvm.RoadKit.slotOf Z O nm d) v' → GoB wf l Z y code ml ret R Q k n h' q Ls st) : GoB wf l Z y code ml ret R Q k n h pc Ls (v :: .ref a :: st) := by
  subst hq
  refine GoB.move (P := fun h' => Wr h h' a (Jvm.RoadKit.slotOf Z O nm d) v') (kk := k) (nn := n) g ?_
  intro p e s m args below meth c K T L k' n' X h1 h2 N hT
  obtain ⟨T', h', X', e', W', s'⟩ := putFN X K.1 K.2.2.1 K.2.2.2.1 w Via.refl hT F E (hL.imp id fun ⟨a1, a2, a3⟩ => ⟨a1, a2, K.2.2.2.2.2.2.2.trans a3⟩) wi hty hn hf (g := mkF m pc Ls (v :: .ref a :: st)) rfl rfl (hb K.2.1 hd)
  exact ⟨T', _, k', n', X', h1, h2, Fr.snoc X' N hge, e' ▸ W', s'⟩
theorem Go.new {i sz : Nat} {C : String} (q : Nat) (hd : decode code pc = .ok (.new i, 3)) (w : (Cond.classLink y.cls i C).before a0 Z = true) (wi : (Cond.instantiable C sz).before a0 Z = true) (wz : (Cond.initialized C).before a0 Z = true) (hk : k + 1 ≤ R.cells) (hN : n + sz ≤ R.slots) (hq : pc + 3 = q)
    (g : ∀ (a : Addr) h', a = h.size → Ext h h' → Exa Z h' a C → (∀ {O nm d : String} {ty : FieldType}, Laid Z a0 C O nm d → parseFieldDescriptor d = some ty → Fld Z h' a O nm d (defaultValue ty)) → GoB wf l Z y code ml ret R Q (k + 1) (n + sz) h' q Ls (.ref a :: st)) : GoB wf l Z y code ml ret R Q k n h pc Ls st := by
  subst hq
  refine GoB.move (P := fun h' => Ext h h' ∧ Exa Z h' h.size C ∧ (∀ {O nm d : String} {ty : FieldType}, Laid Z a0 C O nm d → parseFieldDescriptor d = some ty → Fld Z h' h.size O nm d (defaultValue ty))) (kk := k + 1) (nn := n + sz) (fun h' p => g h.size h' rfl p.1 p.2.1 p.2.2) ?_
  intro p e s m args below meth c K T L k' n' X h1 h2 N hT
  obtain ⟨T', h', X', e', E', A', D', -, s'⟩ := newO X K.1 K.2.2.1 K.2.2.2.1 w wi wz hT (g := mkF m pc Ls st) rfl (hb K.2.1 hd) (Nat.le_trans (Nat.add_le_add_right h1 1) hk) (Nat.le_trans (Nat.add_le_add_right h2 sz) hN)
  subst e'
  exact ⟨T', L, k' + 1, n' + sz, X', Nat.add_le_add_right h1 1, Nat.add_le_add_right h2 sz, N, ⟨E', A', D'⟩, s'⟩
theorem Go.initO {i : Nat} {a : Addr} (W : Nat) (q : Nat) (hd : decode code pc = .ok (.invokespecial i, 3)) (w1 : (Cond.methodLink y.cls i Lib.objectInit).before a0 Z = true) (w2 : (Cond.instanceMethod Lib.objectInit).before a0 Z = true) (w3 : (Cond.code Lib.objectInit ⟨#[0xb1]⟩ 1 none).before a0 Z = true)
    (hsz : Ls.size = ml) (hf : 1 ≤ R.frames) (hW : (st.map fun v => v.category).sum ≤ W) (hl : W + 12 ≤ R.locals) (hq : pc + 3 = q) (g : GoB wf l Z y code ml ret R Q k n h q Ls st) : GoB wf l Z y code ml ret R Q k n h pc Ls (.ref a :: st) := by
  subst hq
  refine GoB.move (P := fun h' => h' = h) (kk := k) (nn := n) (fun h' e => e ▸ g) ?_
  intro p e s m args below meth c K T L k' n' X h1 h2 N hT
  obtain ⟨T', X', e', s'⟩ := Jvm.RoadKit.initO X K.1 K.2.2.1 K.2.2.2.1 w1 w2 w3 hT (g := mkF m pc Ls (.ref a :: st)) rfl (hsz.trans K.2.2.2.2.1.symm) rfl (hb K.2.1 hd) hf (W := W) (by show 2 * 0 + _ ≤ _; rw [Nat.mul_zero, Nat.zero_add]; exact hW) hl
  exact ⟨T', L, k', n', X', h1, h2, N, e', s'⟩


section Calls
variable {y' : MethodName} {code' : ByteArray} {ml' : Nat} {ret' : Option FieldType} {R' : Room} {Q' : Option Value → Heap → Prop} {Ls' : Array Slot} {i W : Nat}
theorem Go.callS (argsL : List Value) (rest : List Value) (q : Nat) (hd : decode code pc = .ok (.invokestatic i, 3)) (w1 : (Cond.methodLink y.cls i y').before a0 Z = true) (w2 : (Cond.static y').before a0 Z = true) (w3 : (Cond.initialized y'.cls).before a0 Z = true) (w4 : (Cond.code y' code' ml' ret').before a0 Z = true)
    (hpl : plainFor y' = true) (hy : y'.cls ≠ "java/lang/invoke/MethodHandle" ∧ y'.cls ≠ "java/lang/invoke/VarHandle") (hlen : ∀ sig, parseMethodDescriptor y'.desc = some sig → argsL.length = sig.parameters.length) (hst : st = argsL.reverse ++ rest) (hent : ∀ m, entryFrame m argsL.toArray ml' = mkF m 0 Ls' [])
    (G : Go l Z y' code' ml' ret' R' Q' 0 0 h 0 Ls' []) (W : Nat) (hsz : Ls.size = ml) (hW : (rest.map fun v => v.category).sum ≤ W) (hf : R'.frames + 1 ≤ R.frames) (hl : W + (ml' + 11) + R'.locals ≤ R.locals) (hk : k + R'.cells ≤ R.cells) (hN : n + R'.slots ≤ R.slots) (hq : pc + 3 = q)
    (g : ∀ v h', Q' v h' → GoB wf l Z y code ml ret R Q (k + R'.cells) (n + R'.slots) h' q Ls (v.toList ++ rest)) : GoB wf l Z y code ml ret R Q k n h pc Ls st := by
  subst hq
  intro p e s m args below meth c K T L k' n' X h1 h2 N hT
  obtain ⟨v, vm₁, ⟨T', L', k'', n''⟩, -, X', ⟨Lc, ⟨hQ, N'⟩, e1, e2, e3⟩, s'⟩ := Jvm.LawKit.callS X K.1 K.2.2.2.1 (mvT K.2.2.1 w1) (mvT K.2.2.1 w2) (mvT K.2.2.1 w3) (mvT K.2.2.1 w4) hy (backOf (W := W) (Q := fun v h L => Q' v h ∧ Fr Z.heap.size L) (Go.met hpl hent G []) K.2.2.1 w4 w3 hf hl) (g := mkF m pc Ls st) rfl (hsz.trans K.2.2.2.2.1.symm) (argsL := argsL) (rest := rest) hlen hst (by show 2 * 0 + _ ≤ _; rw [Nat.mul_zero, Nat.zero_add]; exact hW) (hb K.2.1 hd) (fun _ _ => ⟨rfl, hT, Nat.le_trans (Nat.add_le_add_right h1 _) hk, Nat.le_trans (Nat.add_le_add_right h2 _) hN⟩)
  dsimp only [Pt.U, Pt.locs, Pt.cells, Pt.slots] at X' e1 e2 e3 s' hQ
  subst e1 e2 e3
  obtain ⟨s2, v2, T2, L2, k2, n2, ok2, X2, b1, b2, N2, q2, hv, stp⟩ := g v _ hQ p e s m args below meth c K T' _ _ _ X' (Nat.add_le_add_right h1 _) (Nat.add_le_add_right h2 _) (Fr.app N N') rfl
  exact ⟨s2, v2, T2, L2, k2, n2, ok2, X2, b1, b2, N2, q2, hv, fun fs hl => s' _ (stp fs hl)⟩
theorem Go.callC {a : Addr} (argsL : List Value) (rest : List Value) (q : Nat) (hd : decode code pc = .ok (.invokespecial i, 3)) (hy1 : y'.name = "<init>") (w1 : (Cond.methodLink y.cls i y').before a0 Z = true) (w2 : (Cond.instanceMethod y').before a0 Z = true) (w3 : (Cond.initialized y'.cls).before a0 Z = true) (w4 : (Cond.code y' code' ml' none).before a0 Z = true)
    (hpl : plainFor y' = true) (hy : y'.cls ≠ "java/lang/invoke/MethodHandle" ∧ y'.cls ≠ "java/lang/invoke/VarHandle") (hlen : ∀ sig, parseMethodDescriptor y'.desc = some sig → argsL.length = sig.parameters.length) (hst : st = argsL.reverse ++ .ref a :: rest) (hent : ∀ m, entryFrame m (.ref a :: argsL).toArray ml' = mkF m 0 Ls' [])
    (P' : Heap → Prop) (G : Go l Z y' code' ml' none R' (QV P') 0 0 h 0 Ls' []) (W : Nat) (hsz : Ls.size = ml) (hW : (rest.map fun v => v.category).sum ≤ W) (hf : R'.frames + 1 ≤ R.frames) (hl : W + (ml' + 11) + R'.locals ≤ R.locals) (hk : k + R'.cells ≤ R.cells) (hN : n + R'.slots ≤ R.slots) (hq : pc + 3 = q)
    (g : ∀ h', P' h' → GoB wf l Z y code ml ret R Q (k + R'.cells) (n + R'.slots) h' q Ls rest) : GoB wf l Z y code ml ret R Q k n h pc Ls st := by
  subst hq
  intro p e s m args below meth c K T L k' n' X h1 h2 N hT
  obtain ⟨v, vm₁, ⟨T', L', k'', n''⟩, -, X', ⟨Lc, ⟨⟨rfl, hQ⟩, N'⟩, e1, e2, e3⟩, s'⟩ := X.specialBack K.1 hy1 K.2.2.2.1 (mvT K.2.2.1 w1) (mvT K.2.2.1 w2) (mvT K.2.2.1 w4) hy (backOf (W := W) (Q := fun v h L => QV P' v h ∧ Fr Z.heap.size L) (Go.met hpl hent G []) K.2.2.1 w4 w3 hf hl) (g := mkF m pc Ls st) rfl (hsz.trans K.2.2.2.2.1.symm) (Steps.refl _) (a := a) (argsL := argsL) (rest := rest) hlen hst (by show 2 * 0 + _ ≤ _; rw [Nat.mul_zero, Nat.zero_add]; exact hW) (hb K.2.1 hd) (fun _ _ => ⟨rfl, hT, Nat.le_trans (Nat.add_le_add_right h1 _) hk, Nat.le_trans (Nat.add_le_add_right h2 _) hN⟩)
  dsimp only [Pt.U, Pt.locs, Pt.cells, Pt.slots] at X' e1 e2 e3 s' hQ
  subst e1 e2 e3
  obtain ⟨s2, v2, T2, L2, k2, n2, ok2, X2, b1, b2, N2, q2, hv, stp⟩ := g _ hQ p e s m args below meth c K T' _ _ _ X' (Nat.add_le_add_right h1 _) (Nat.add_le_add_right h2 _) (Fr.app N N') rfl
  exact ⟨s2, v2, T2, L2, k2, n2, ok2, X2, b1, b2, N2, q2, hv, fun fs hl => s'.trans (stp fs hl)⟩
theorem Go.callV {a : Addr} {C : String} (argsL : List Value) (rest : List Value) (q : Nat) (hd : decode code pc = .ok (.invokevirtual i, 3)) (w1 : (Cond.methodLink y.cls i y').before a0 Z = true) (w1' : (Cond.declares y').before a0 Z = true) (w1s : (Cond.selects C y' y').before a0 Z = true) (w2 : (Cond.instanceMethod y').before a0 Z = true) (w3 : (Cond.initialized y'.cls).before a0 Z = true) (w4 : (Cond.code y' code' ml' ret').before a0 Z = true) (E : Exa Z h a C)
    (hpl : plainFor y' = true) (hy : y'.cls ≠ "java/lang/invoke/MethodHandle" ∧ y'.cls ≠ "java/lang/invoke/VarHandle") (hlen : ∀ sig, parseMethodDescriptor y'.desc = some sig → argsL.length = sig.parameters.length) (hst : st = argsL.reverse ++ .ref a :: rest) (hent : ∀ m, entryFrame m (.ref a :: argsL).toArray ml' = mkF m 0 Ls' [])
    (G : Go l Z y' code' ml' ret' R' Q' 0 0 h 0 Ls' []) (W : Nat) (hsz : Ls.size = ml) (hW : (rest.map fun v => v.category).sum ≤ W) (hf : R'.frames + 1 ≤ R.frames) (hl : W + (ml' + 11) + R'.locals ≤ R.locals) (hk : k + R'.cells ≤ R.cells) (hN : n + R'.slots ≤ R.slots) (hq : pc + 3 = q)
    (g : ∀ v h', Q' v h' → GoB wf l Z y code ml ret R Q (k + R'.cells) (n + R'.slots) h' q Ls (v.toList ++ rest)) : GoB wf l Z y code ml ret R Q k n h pc Ls st := by
  subst hq
  intro p e s m args below meth c K T L k' n' X h1 h2 N hT
  obtain ⟨cq, kq, qa, qb, qc⟩ := isOf K.2.2.1 hT E
  obtain ⟨v, vm₁, ⟨T', L', k'', n''⟩, -, X', ⟨Lc, ⟨hQ, N'⟩, e1, e2, e3⟩, s'⟩ := X.virtualBack K.1 K.2.2.2.1 (mvT K.2.2.1 w1) (mvT K.2.2.1 w1') (notFace_of_selects (args := #[]) (mvT K.2.2.1 w1s)) (mvT K.2.2.1 w1s) (mvT K.2.2.1 w2) hy (backOf (W := W) (Q := fun v h L => Q' v h ∧ Fr Z.heap.size L) (Go.met hpl hent G []) K.2.2.1 w4 w3 hf hl) qa qc (g := mkF m pc Ls st) rfl (hsz.trans K.2.2.2.2.1.symm) (Steps.refl _) (argsL := argsL) (rest := rest) hlen hst (by show 2 * 0 + _ ≤ _; rw [Nat.mul_zero, Nat.zero_add]; exact hW) (hb K.2.1 hd) (fun _ _ => ⟨rfl, hT, Nat.le_trans (Nat.add_le_add_right h1 _) hk, Nat.le_trans (Nat.add_le_add_right h2 _) hN⟩)
  dsimp only [Pt.U, Pt.locs, Pt.cells, Pt.slots] at X' e1 e2 e3 s' hQ
  subst e1 e2 e3
  obtain ⟨s2, v2, T2, L2, k2, n2, ok2, X2, b1, b2, N2, q2, hv, stp⟩ := g v _ hQ p e s m args below meth c K T' _ _ _ X' (Nat.add_le_add_right h1 _) (Nat.add_le_add_right h2 _) (Fr.app N N') rfl
  exact ⟨s2, v2, T2, L2, k2, n2, ok2, X2, b1, b2, N2, q2, hv, fun fs hl => s'.trans (stp fs hl)⟩
theorem Go.callU {a : Addr} {C owner : String} {yr : MethodName} (argsL : List Value) (rest : List Value) (q : Nat) (hd : decode code pc = .ok (.invokevirtual i, 3)) (w1 : (Cond.methodLink y.cls i yr).before a0 Z = true) (w1m : (Cond.sameMethod yr.cls owner yr.name yr.desc).before a0 Z = true) (w1' : (Cond.declares ⟨owner, yr.name, yr.desc⟩).before a0 Z = true) (w1s : (Cond.selects C yr y').before a0 Z = true) (w2 : (Cond.instanceMethod y').before a0 Z = true) (w3 : (Cond.initialized y'.cls).before a0 Z = true) (w4 : (Cond.code y' code' ml' ret').before a0 Z = true) (E : Exa Z h a C)
    (hpl : plainFor y' = true) (hy : owner ≠ "java/lang/invoke/MethodHandle" ∧ owner ≠ "java/lang/invoke/VarHandle") (hlen : ∀ sig, parseMethodDescriptor yr.desc = some sig → argsL.length = sig.parameters.length) (hst : st = argsL.reverse ++ .ref a :: rest) (hent : ∀ m, entryFrame m (.ref a :: argsL).toArray ml' = mkF m 0 Ls' [])
    (G : Go l Z y' code' ml' ret' R' Q' 0 0 h 0 Ls' []) (W : Nat) (hsz : Ls.size = ml) (hW : (rest.map fun v => v.category).sum ≤ W) (hf : R'.frames + 1 ≤ R.frames) (hl : W + (ml' + 11) + R'.locals ≤ R.locals) (hk : k + R'.cells ≤ R.cells) (hN : n + R'.slots ≤ R.slots) (hq : pc + 3 = q)
    (g : ∀ v h', Q' v h' → GoB wf l Z y code ml ret R Q (k + R'.cells) (n + R'.slots) h' q Ls (v.toList ++ rest)) : GoB wf l Z y code ml ret R Q k n h pc Ls st := by
  subst hq
  intro p e s m args below meth c K T L k' n' X h1 h2 N hT
  obtain ⟨cq, kq, qa, qb, qc⟩ := isOf K.2.2.1 hT E
  obtain ⟨v, vm₁, ⟨T', L', k'', n''⟩, -, X', ⟨Lc, ⟨hQ, N'⟩, e1, e2, e3⟩, s'⟩ := X.virtualBackUp K.1 K.2.2.2.1 (mvT K.2.2.1 w1) (mvT K.2.2.1 w1m) (mvT K.2.2.1 w1') hy (mvT K.2.2.1 w1s) (mvT K.2.2.1 w2) (backOf (W := W) (Q := fun v h L => Q' v h ∧ Fr Z.heap.size L) (Go.met hpl hent G []) K.2.2.1 w4 w3 hf hl) qa qc (g := mkF m pc Ls st) rfl (hsz.trans K.2.2.2.2.1.symm) (Steps.refl _) (argsL := argsL) (rest := rest) hlen hst (by show 2 * 0 + _ ≤ _; rw [Nat.mul_zero, Nat.zero_add]; exact hW) (hb K.2.1 hd) (fun _ _ => ⟨rfl, hT, Nat.le_trans (Nat.add_le_add_right h1 _) hk, Nat.le_trans (Nat.add_le_add_right h2 _) hN⟩)
  dsimp only [Pt.U, Pt.locs, Pt.cells, Pt.slots] at X' e1 e2 e3 s' hQ
  subst e1 e2 e3
  obtain ⟨s2, v2, T2, L2, k2, n2, ok2, X2, b1, b2, N2, q2, hv, stp⟩ := g v _ hQ p e s m args below meth c K T' _ _ _ X' (Nat.add_le_add_right h1 _) (Nat.add_le_add_right h2 _) (Fr.app N N') rfl
  exact ⟨s2, v2, T2, L2, k2, n2, ok2, X2, b1, b2, N2, q2, hv, fun fs hl => s'.trans (stp fs hl)⟩
theorem own_ni {C : String} {z z' : MethodName} (ws : (Cond.selects C z z').before a0 Z = true) : ∃ (c : ClassId) (kk : Class), Z.vm.findClass z'.cls = some c ∧ Z.vm.classes[c]? = some kk ∧ kk.isInterface = false := by
  obtain ⟨c2, r2, m2, -, -, q3, -, kP, hkP, hkPi⟩ := Cond.selects_spec ws
  exact ⟨_, kP, findClass_of_methodNamed q3, hkP, hkPi⟩
theorem own_same {C : String} {z z' y' : MethodName} (ws : (Cond.selects C z z').before a0 Z = true) (hz : z'.cls = y'.cls) (wi : (Cond.instanceMethod y').before a0 Z = true) (hy : y'.cls ≠ "java/lang/invoke/MethodHandle" ∧ y'.cls ≠ "java/lang/invoke/VarHandle") : (Cond.sameMethod y'.cls y'.cls y'.name y'.desc).before a0 Z = true := by
  obtain ⟨c, kk, h1, h2, h3⟩ := own_ni ws
  rw [hz] at h1
  obtain ⟨mk, methM, hnamed, -, -, -⟩ := Cond.instanceMethod_spec wi
  have hfound := State.methodFound?_of_named hnamed hy
  simp only [Cond.before, Cond.holds, Cond.value, h1, hfound, hnamed, h2]
  simp; exact h3
theorem own_selp {C : String} {z z' y' : MethodName} (ws : (Cond.selects C z z').before a0 Z = true) (hz : z'.cls = y'.cls) (wi : (Cond.instanceMethod y').before a0 Z = true) (wp : (Cond.privateMethod y').before a0 Z = true) (hy : y'.cls ≠ "java/lang/invoke/MethodHandle" ∧ y'.cls ≠ "java/lang/invoke/VarHandle") : (Cond.selects y'.cls y' y').before a0 Z = true := by
  obtain ⟨c, kk, h1, h2, h3⟩ := own_ni ws
  rw [hz] at h1
  exact selects_self_of_private h1 h2 h3 (Cond.privateMethod_at wp) wi hy
theorem Go.callP {a : Addr} {C : String} (argsL : List Value) (rest : List Value) (q : Nat) (hd : decode code pc = .ok (.invokespecial i, 3)) (hn : y'.name ≠ "<init>") (w1 : (Cond.methodLink y.cls i y').before a0 Z = true) (w1m : (Cond.sameMethod y'.cls y'.cls y'.name y'.desc).before a0 Z = true) (w1s : (Cond.superclass y.cls y'.cls).before a0 Z = true) (w2 : (Cond.instanceMethod y').before a0 Z = true) (w3 : (Cond.initialized y'.cls).before a0 Z = true) (w4 : (Cond.code y' code' ml' ret').before a0 Z = true) (E : Exa Z h a C)
    (hpl : plainFor y' = true) (hy : y'.cls ≠ "java/lang/invoke/MethodHandle" ∧ y'.cls ≠ "java/lang/invoke/VarHandle") (hlen : ∀ sig, parseMethodDescriptor y'.desc = some sig → argsL.length = sig.parameters.length) (hst : st = argsL.reverse ++ .ref a :: rest) (hent : ∀ m, entryFrame m (.ref a :: argsL).toArray ml' = mkF m 0 Ls' [])
    (G : Go l Z y' code' ml' ret' R' Q' 0 0 h 0 Ls' []) (W : Nat) (hsz : Ls.size = ml) (hW : (rest.map fun v => v.category).sum ≤ W) (hf : R'.frames + 1 ≤ R.frames) (hl : W + (ml' + 11) + R'.locals ≤ R.locals) (hk : k + R'.cells ≤ R.cells) (hN : n + R'.slots ≤ R.slots) (hq : pc + 3 = q)
    (g : ∀ v h', Q' v h' → GoB wf l Z y code ml ret R Q (k + R'.cells) (n + R'.slots) h' q Ls (v.toList ++ rest)) : GoB wf l Z y code ml ret R Q k n h pc Ls st := by
  subst hq
  intro p e s m args below meth c K T L k' n' X h1 h2 N hT
  obtain ⟨v, vm₁, ⟨T', L', k'', n''⟩, -, X', ⟨Lc, ⟨hQ, N'⟩, e1, e2, e3⟩, s'⟩ := superBack X K.1 K.2.2.1 K.2.2.2.1 w1 w1m w2 w1s hn (backOf (W := W) (Q := fun v h L => Q' v h ∧ Fr Z.heap.size L) (Go.met hpl hent G []) K.2.2.1 w4 w3 hf hl) hT (Ins.self E) (g := mkF m pc Ls st) rfl (hsz.trans K.2.2.2.2.1.symm) w4 (argsL := argsL) (rest := rest) hlen hst (by show 2 * 0 + _ ≤ _; rw [Nat.mul_zero, Nat.zero_add]; exact hW) (hb K.2.1 hd) (fun _ _ => ⟨rfl, hT, Nat.le_trans (Nat.add_le_add_right h1 _) hk, Nat.le_trans (Nat.add_le_add_right h2 _) hN⟩)
  dsimp only [Pt.U, Pt.locs, Pt.cells, Pt.slots] at X' e1 e2 e3 s' hQ
  subst e1 e2 e3
  obtain ⟨s2, v2, T2, L2, k2, n2, ok2, X2, b1, b2, N2, q2, hv, stp⟩ := g v _ hQ p e s m args below meth c K T' _ _ _ X' (Nat.add_le_add_right h1 _) (Nat.add_le_add_right h2 _) (Fr.app N N') rfl
  exact ⟨s2, v2, T2, L2, k2, n2, ok2, X2, b1, b2, N2, q2, hv, fun fs hl => s'.trans (stp fs hl)⟩
theorem Go.callQ {a : Addr} {C : String} (argsL : List Value) (rest : List Value) (q : Nat) (hd : decode code pc = .ok (.invokevirtual i, 3)) (w1 : (Cond.methodLink y.cls i y').before a0 Z = true) (w1p : (Cond.privateMethod y').before a0 Z = true) (w1s : (Cond.selects y'.cls y' y').before a0 Z = true) (w2 : (Cond.instanceMethod y').before a0 Z = true) (w3 : (Cond.initialized y'.cls).before a0 Z = true) (w4 : (Cond.code y' code' ml' ret').before a0 Z = true) (E : Exa Z h a C)
    (hpl : plainFor y' = true) (hy : y'.cls ≠ "java/lang/invoke/MethodHandle" ∧ y'.cls ≠ "java/lang/invoke/VarHandle") (hlen : ∀ sig, parseMethodDescriptor y'.desc = some sig → argsL.length = sig.parameters.length) (hst : st = argsL.reverse ++ .ref a :: rest) (hent : ∀ m, entryFrame m (.ref a :: argsL).toArray ml' = mkF m 0 Ls' [])
    (G : Go l Z y' code' ml' ret' R' Q' 0 0 h 0 Ls' []) (W : Nat) (hsz : Ls.size = ml) (hW : (rest.map fun v => v.category).sum ≤ W) (hf : R'.frames + 1 ≤ R.frames) (hl : W + (ml' + 11) + R'.locals ≤ R.locals) (hk : k + R'.cells ≤ R.cells) (hN : n + R'.slots ≤ R.slots) (hq : pc + 3 = q)
    (g : ∀ v h', Q' v h' → GoB wf l Z y code ml ret R Q (k + R'.cells) (n + R'.slots) h' q Ls (v.toList ++ rest)) : GoB wf l Z y code ml ret R Q k n h pc Ls st := by
  subst hq
  intro p e s m args below meth c K T L k' n' X h1 h2 N hT
  obtain ⟨cell, qa, qb⟩ := E.cell
  obtain ⟨v, vm₁, ⟨T', L', k'', n''⟩, -, X', ⟨Lc, ⟨hQ, N'⟩, e1, e2, e3⟩, s'⟩ := X.privateBack K.1 K.2.2.2.1 (mvT K.2.2.1 w1) (mvT K.2.2.1 w2) (mvT K.2.2.1 w1s) (Cond.privateMethod_at (args := #[]) (mvP K.2.2.1 w1p)) (mvT K.2.2.1 w4) hy (backOf (W := W) (Q := fun v h L => Q' v h ∧ Fr Z.heap.size L) (Go.met hpl hent G []) K.2.2.1 w4 w3 hf hl) (g := mkF m pc Ls st) rfl (hsz.trans K.2.2.2.2.1.symm) (Steps.refl _) (a := a) (cell := cell) (by rw [hT]; exact qa) qb (argsL := argsL) (rest := rest) hlen hst (by show 2 * 0 + _ ≤ _; rw [Nat.mul_zero, Nat.zero_add]; exact hW) (hb K.2.1 hd) (fun _ _ => ⟨rfl, hT, Nat.le_trans (Nat.add_le_add_right h1 _) hk, Nat.le_trans (Nat.add_le_add_right h2 _) hN⟩)
  dsimp only [Pt.U, Pt.locs, Pt.cells, Pt.slots] at X' e1 e2 e3 s' hQ
  subst e1 e2 e3
  obtain ⟨s2, v2, T2, L2, k2, n2, ok2, X2, b1, b2, N2, q2, hv, stp⟩ := g v _ hQ p e s m args below meth c K T' _ _ _ X' (Nat.add_le_add_right h1 _) (Nat.add_le_add_right h2 _) (Fr.app N N') rfl
  exact ⟨s2, v2, T2, L2, k2, n2, ok2, X2, b1, b2, N2, q2, hv, fun fs hl => s'.trans (stp fs hl)⟩
theorem own_nf {s : State} {args : Array Value} {C : String} {z z' yr : MethodName} (ws : (Cond.selects C z z').before args s = true) (hz : z'.cls = yr.cls) : NotFace s yr := fun r0 hn => by
  obtain ⟨c2, r2, m2, -, -, q3, -, kP, hkP, hkPi⟩ := Cond.selects_spec ws
  have e1 := findClass_of_methodNamed q3
  have e2 := findClass_of_methodNamed hn
  rw [hz] at e1
  have e3 := Option.some.inj (e1.symm.trans e2)
  rw [e3] at hkP
  exact ⟨kP, hkP, hkPi⟩
theorem Go.callO {a : Addr} {C : String} {yr z z' : MethodName} {C2 : String} (argsL : List Value) (rest : List Value) (q : Nat) (hd : decode code pc = .ok (.invokevirtual i, 3)) (w1 : (Cond.methodLink y.cls i yr).before a0 Z = true) (w1' : (Cond.declares yr).before a0 Z = true) (w1s : (Cond.selects C yr y').before a0 Z = true) (wnf : (Cond.selects C2 z z').before a0 Z = true) (hz : z'.cls = yr.cls) (w2 : (Cond.instanceMethod y').before a0 Z = true) (w3 : (Cond.initialized y'.cls).before a0 Z = true) (w4 : (Cond.code y' code' ml' ret').before a0 Z = true) (E : Exa Z h a C)
    (hpl : plainFor y' = true) (hy : yr.cls ≠ "java/lang/invoke/MethodHandle" ∧ yr.cls ≠ "java/lang/invoke/VarHandle") (hlen : ∀ sig, parseMethodDescriptor yr.desc = some sig → argsL.length = sig.parameters.length) (hst : st = argsL.reverse ++ .ref a :: rest) (hent : ∀ m, entryFrame m (.ref a :: argsL).toArray ml' = mkF m 0 Ls' [])
    (G : Go l Z y' code' ml' ret' R' Q' 0 0 h 0 Ls' []) (W : Nat) (hsz : Ls.size = ml) (hW : (rest.map fun v => v.category).sum ≤ W) (hf : R'.frames + 1 ≤ R.frames) (hl : W + (ml' + 11) + R'.locals ≤ R.locals) (hk : k + R'.cells ≤ R.cells) (hN : n + R'.slots ≤ R.slots) (hq : pc + 3 = q)
    (g : ∀ v h', Q' v h' → GoB wf l Z y code ml ret R Q (k + R'.cells) (n + R'.slots) h' q Ls (v.toList ++ rest)) : GoB wf l Z y code ml ret R Q k n h pc Ls st := by
  subst hq
  intro p e s m args below meth c K T L k' n' X h1 h2 N hT
  obtain ⟨cq, kq, qa, qb, qc⟩ := isOf K.2.2.1 hT E
  obtain ⟨v, vm₁, ⟨T', L', k'', n''⟩, -, X', ⟨Lc, ⟨hQ, N'⟩, e1, e2, e3⟩, s'⟩ := X.virtualBack K.1 K.2.2.2.1 (mvT K.2.2.1 w1) (mvT K.2.2.1 w1') (own_nf (args := #[]) (mvT K.2.2.1 wnf) hz) (mvT K.2.2.1 w1s) (mvT K.2.2.1 w2) hy (backOf (W := W) (Q := fun v h L => Q' v h ∧ Fr Z.heap.size L) (Go.met hpl hent G []) K.2.2.1 w4 w3 hf hl) qa qc (g := mkF m pc Ls st) rfl (hsz.trans K.2.2.2.2.1.symm) (Steps.refl _) (argsL := argsL) (rest := rest) hlen hst (by show 2 * 0 + _ ≤ _; rw [Nat.mul_zero, Nat.zero_add]; exact hW) (hb K.2.1 hd) (fun _ _ => ⟨rfl, hT, Nat.le_trans (Nat.add_le_add_right h1 _) hk, Nat.le_trans (Nat.add_le_add_right h2 _) hN⟩)
  dsimp only [Pt.U, Pt.locs, Pt.cells, Pt.slots] at X' e1 e2 e3 s' hQ
  subst e1 e2 e3
  obtain ⟨s2, v2, T2, L2, k2, n2, ok2, X2, b1, b2, N2, q2, hv, stp⟩ := g v _ hQ p e s m args below meth c K T' _ _ _ X' (Nat.add_le_add_right h1 _) (Nat.add_le_add_right h2 _) (Fr.app N N') rfl
  exact ⟨s2, v2, T2, L2, k2, n2, ok2, X2, b1, b2, N2, q2, hv, fun fs hl => s'.trans (stp fs hl)⟩
theorem Go.callCp {a : Addr} (argsL : List Value) (rest : List Value) (q : Nat) (hd : decode code pc = .ok (.invokespecial i, 3)) (hy1 : y'.name = "<init>") (w1 : (Cond.methodLink y.cls i y').before a0 Z = true) (w2 : (Cond.instanceMethod y').before a0 Z = true) (w3 : (Cond.initialized y'.cls).before a0 Z = true) (w4 : (Cond.code y' code' ml' none).before a0 Z = true)
    (hpl : plainFor y' = true) (hy : y'.cls ≠ "java/lang/invoke/MethodHandle" ∧ y'.cls ≠ "java/lang/invoke/VarHandle") (hlen : ∀ sig, parseMethodDescriptor y'.desc = some sig → argsL.length = sig.parameters.length) (hst : st = argsL.reverse ++ .ref a :: rest) (hent : ∀ m, entryFrame m (.ref a :: argsL).toArray ml' = mkF m 0 Ls' [])
    (G : Go l Z y' code' ml' none R' (QV fun h' => h' = h) 0 0 h 0 Ls' []) (W : Nat) (hsz : Ls.size = ml) (hW : (rest.map fun v => v.category).sum ≤ W) (hf : R'.frames + 1 ≤ R.frames) (hl : W + (ml' + 11) + R'.locals ≤ R.locals) (hk : k + R'.cells ≤ R.cells) (hN : n + R'.slots ≤ R.slots) (hq : pc + 3 = q)
    (g : GoB wf l Z y code ml ret R Q (k + R'.cells) (n + R'.slots) h q Ls rest) : GoB wf l Z y code ml ret R Q k n h pc Ls st :=
  Go.callC argsL rest q hd hy1 w1 w2 w3 w4 hpl hy hlen hst hent _ G W hsz hW hf hl hk hN hq (fun h' e => by subst e; exact g)
end Calls


section
variable {y' : MethodName} {code' : ByteArray} {ml' : Nat} {ret' : Option FieldType} {R' : Room} {Ls' : Array Slot} {i : Nat}
theorem Go.callSIp (argsL : List Value) (rest : List Value) (q : Nat) (hd : decode code pc = .ok (.invokestatic i, 3)) (w1 : (Cond.methodLink y.cls i y').before a0 Z = true) (w2 : (Cond.static y').before a0 Z = true) (w3 : (Cond.initialized y'.cls).before a0 Z = true) (w4 : (Cond.code y' code' ml' ret').before a0 Z = true)
    (hpl : plainFor y' = true) (hy : y'.cls ≠ "java/lang/invoke/MethodHandle" ∧ y'.cls ≠ "java/lang/invoke/VarHandle") (hlen : ∀ sig, parseMethodDescriptor y'.desc = some sig → argsL.length = sig.parameters.length) (hst : st = argsL.reverse ++ rest) (hent : ∀ m, entryFrame m argsL.toArray ml' = mkF m 0 Ls' [])
    (F : Int32) (G : Go l Z y' code' ml' ret' R' (QI fun z h' => z = F ∧ h' = h) 0 0 h 0 Ls' []) (W : Nat) (hsz : Ls.size = ml) (hW : (rest.map fun v => v.category).sum ≤ W) (hf : R'.frames + 1 ≤ R.frames) (hl : W + (ml' + 11) + R'.locals ≤ R.locals) (hk : k + R'.cells ≤ R.cells) (hN : n + R'.slots ≤ R.slots) (hq : pc + 3 = q)
    (g : GoB wf l Z y code ml ret R Q (k + R'.cells) (n + R'.slots) h q Ls (.int F :: rest)) : GoB wf l Z y code ml ret R Q k n h pc Ls st := by
  exact Go.callS argsL rest q hd w1 w2 w3 w4 hpl hy hlen hst hent G W hsz hW hf hl hk hN hq (fun v h' hq' => by obtain ⟨z, e, hp, hh⟩ := hq'; subst e; subst hh; rw [hp]; exact g)
end


section
variable {y' : MethodName} {code' : ByteArray} {ml' : Nat} {ret' : Option FieldType} {R' : Room} {Ls' : Array Slot} {i : Nat}
theorem Go.callSJp (argsL : List Value) (rest : List Value) (q : Nat) (hd : decode code pc = .ok (.invokestatic i, 3)) (w1 : (Cond.methodLink y.cls i y').before a0 Z = true) (w2 : (Cond.static y').before a0 Z = true) (w3 : (Cond.initialized y'.cls).before a0 Z = true) (w4 : (Cond.code y' code' ml' ret').before a0 Z = true)
    (hpl : plainFor y' = true) (hy : y'.cls ≠ "java/lang/invoke/MethodHandle" ∧ y'.cls ≠ "java/lang/invoke/VarHandle") (hlen : ∀ sig, parseMethodDescriptor y'.desc = some sig → argsL.length = sig.parameters.length) (hst : st = argsL.reverse ++ rest) (hent : ∀ m, entryFrame m argsL.toArray ml' = mkF m 0 Ls' [])
    (F : Int64) (G : Go l Z y' code' ml' ret' R' (QJ fun z h' => z = F ∧ h' = h) 0 0 h 0 Ls' []) (W : Nat) (hsz : Ls.size = ml) (hW : (rest.map fun v => v.category).sum ≤ W) (hf : R'.frames + 1 ≤ R.frames) (hl : W + (ml' + 11) + R'.locals ≤ R.locals) (hk : k + R'.cells ≤ R.cells) (hN : n + R'.slots ≤ R.slots) (hq : pc + 3 = q)
    (g : GoB wf l Z y code ml ret R Q (k + R'.cells) (n + R'.slots) h q Ls (.long F :: rest)) : GoB wf l Z y code ml ret R Q k n h pc Ls st := by
  exact Go.callS argsL rest q hd w1 w2 w3 w4 hpl hy hlen hst hent G W hsz hW hf hl hk hN hq (fun v h' hq' => by obtain ⟨z, e, hp, hh⟩ := hq'; subst e; subst hh; rw [hp]; exact g)
end

section
variable {y' : MethodName} {code' : ByteArray} {ml' : Nat} {ret' : Option FieldType} {R' : Room} {Ls' : Array Slot} {i : Nat}
theorem Go.callSR (argsL : List Value) (rest : List Value) (q : Nat) (hd : decode code pc = .ok (.invokestatic i, 3)) (w1 : (Cond.methodLink y.cls i y').before a0 Z = true) (w2 : (Cond.static y').before a0 Z = true) (w3 : (Cond.initialized y'.cls).before a0 Z = true) (w4 : (Cond.code y' code' ml' ret').before a0 Z = true)
    (hpl : plainFor y' = true) (hy : y'.cls ≠ "java/lang/invoke/MethodHandle" ∧ y'.cls ≠ "java/lang/invoke/VarHandle") (hlen : ∀ sig, parseMethodDescriptor y'.desc = some sig → argsL.length = sig.parameters.length) (hst : st = argsL.reverse ++ rest) (hent : ∀ m, entryFrame m argsL.toArray ml' = mkF m 0 Ls' [])
    (P' : Value → Heap → Prop) (G : Go l Z y' code' ml' ret' R' (QR P') 0 0 h 0 Ls' []) (W : Nat) (hsz : Ls.size = ml) (hW : (rest.map fun v => v.category).sum ≤ W) (hf : R'.frames + 1 ≤ R.frames) (hl : W + (ml' + 11) + R'.locals ≤ R.locals) (hk : k + R'.cells ≤ R.cells) (hN : n + R'.slots ≤ R.slots) (hq : pc + 3 = q)
    (g : ∀ (z : Value) h', P' z h' → GoB wf l Z y code ml ret R Q (k + R'.cells) (n + R'.slots) h' q Ls ( z :: rest)) : GoB wf l Z y code ml ret R Q k n h pc Ls st := by
  exact Go.callS argsL rest q hd w1 w2 w3 w4 hpl hy hlen hst hent G W hsz hW hf hl hk hN hq (fun v h' hq' => by obtain ⟨z, e, hp⟩ := hq'; subst e; exact g z h' hp)
end


section
variable {y' : MethodName} {code' : ByteArray} {ml' : Nat} {ret' : Option FieldType} {R' : Room} {Ls' : Array Slot} {i : Nat}
theorem Go.callSV (argsL : List Value) (rest : List Value) (q : Nat) (hd : decode code pc = .ok (.invokestatic i, 3)) (w1 : (Cond.methodLink y.cls i y').before a0 Z = true) (w2 : (Cond.static y').before a0 Z = true) (w3 : (Cond.initialized y'.cls).before a0 Z = true) (w4 : (Cond.code y' code' ml' ret').before a0 Z = true)
    (hpl : plainFor y' = true) (hy : y'.cls ≠ "java/lang/invoke/MethodHandle" ∧ y'.cls ≠ "java/lang/invoke/VarHandle") (hlen : ∀ sig, parseMethodDescriptor y'.desc = some sig → argsL.length = sig.parameters.length) (hst : st = argsL.reverse ++ rest) (hent : ∀ m, entryFrame m argsL.toArray ml' = mkF m 0 Ls' [])
    (P' : Heap → Prop) (G : Go l Z y' code' ml' ret' R' (QV P') 0 0 h 0 Ls' []) (W : Nat) (hsz : Ls.size = ml) (hW : (rest.map fun v => v.category).sum ≤ W) (hf : R'.frames + 1 ≤ R.frames) (hl : W + (ml' + 11) + R'.locals ≤ R.locals) (hk : k + R'.cells ≤ R.cells) (hN : n + R'.slots ≤ R.slots) (hq : pc + 3 = q)
    (g : ∀ h', P' h' → GoB wf l Z y code ml ret R Q (k + R'.cells) (n + R'.slots) h' q Ls rest) : GoB wf l Z y code ml ret R Q k n h pc Ls st := by
  exact Go.callS argsL rest q hd w1 w2 w3 w4 hpl hy hlen hst hent G W hsz hW hf hl hk hN hq (fun v h' hq' => by obtain ⟨e, hp⟩ := hq'; subst e; exact g h' hp)
end


section
variable {y' : MethodName} {code' : ByteArray} {ml' : Nat} {ret' : Option FieldType} {R' : Room} {Ls' : Array Slot} {i : Nat}
theorem Go.callVIp {a : Addr} {C : String} (argsL : List Value) (rest : List Value) (q : Nat) (hd : decode code pc = .ok (.invokevirtual i, 3)) (w1 : (Cond.methodLink y.cls i y').before a0 Z = true) (w1' : (Cond.declares y').before a0 Z = true) (w1s : (Cond.selects C y' y').before a0 Z = true) (w2 : (Cond.instanceMethod y').before a0 Z = true) (w3 : (Cond.initialized y'.cls).before a0 Z = true) (w4 : (Cond.code y' code' ml' ret').before a0 Z = true) (E : Exa Z h a C)
    (hpl : plainFor y' = true) (hy : y'.cls ≠ "java/lang/invoke/MethodHandle" ∧ y'.cls ≠ "java/lang/invoke/VarHandle") (hlen : ∀ sig, parseMethodDescriptor y'.desc = some sig → argsL.length = sig.parameters.length) (hst : st = argsL.reverse ++ .ref a :: rest) (hent : ∀ m, entryFrame m (.ref a :: argsL).toArray ml' = mkF m 0 Ls' [])
    (F : Int32) (G : Go l Z y' code' ml' ret' R' (QI fun z h' => z = F ∧ h' = h) 0 0 h 0 Ls' []) (W : Nat) (hsz : Ls.size = ml) (hW : (rest.map fun v => v.category).sum ≤ W) (hf : R'.frames + 1 ≤ R.frames) (hl : W + (ml' + 11) + R'.locals ≤ R.locals) (hk : k + R'.cells ≤ R.cells) (hN : n + R'.slots ≤ R.slots) (hq : pc + 3 = q)
    (g : GoB wf l Z y code ml ret R Q (k + R'.cells) (n + R'.slots) h q Ls (.int F :: rest)) : GoB wf l Z y code ml ret R Q k n h pc Ls st := by
  exact Go.callV argsL rest q hd w1 w1' w1s w2 w3 w4 E hpl hy hlen hst hent G W hsz hW hf hl hk hN hq (fun v h' hq' => by obtain ⟨z, e, hp, hh⟩ := hq'; subst e; subst hh; rw [hp]; exact g)
end




section
variable {y' : MethodName} {code' : ByteArray} {ml' : Nat} {ret' : Option FieldType} {R' : Room} {Ls' : Array Slot} {i : Nat}
theorem Go.callVR {a : Addr} {C : String} (argsL : List Value) (rest : List Value) (q : Nat) (hd : decode code pc = .ok (.invokevirtual i, 3)) (w1 : (Cond.methodLink y.cls i y').before a0 Z = true) (w1' : (Cond.declares y').before a0 Z = true) (w1s : (Cond.selects C y' y').before a0 Z = true) (w2 : (Cond.instanceMethod y').before a0 Z = true) (w3 : (Cond.initialized y'.cls).before a0 Z = true) (w4 : (Cond.code y' code' ml' ret').before a0 Z = true) (E : Exa Z h a C)
    (hpl : plainFor y' = true) (hy : y'.cls ≠ "java/lang/invoke/MethodHandle" ∧ y'.cls ≠ "java/lang/invoke/VarHandle") (hlen : ∀ sig, parseMethodDescriptor y'.desc = some sig → argsL.length = sig.parameters.length) (hst : st = argsL.reverse ++ .ref a :: rest) (hent : ∀ m, entryFrame m (.ref a :: argsL).toArray ml' = mkF m 0 Ls' [])
    (P' : Value → Heap → Prop) (G : Go l Z y' code' ml' ret' R' (QR P') 0 0 h 0 Ls' []) (W : Nat) (hsz : Ls.size = ml) (hW : (rest.map fun v => v.category).sum ≤ W) (hf : R'.frames + 1 ≤ R.frames) (hl : W + (ml' + 11) + R'.locals ≤ R.locals) (hk : k + R'.cells ≤ R.cells) (hN : n + R'.slots ≤ R.slots) (hq : pc + 3 = q)
    (g : ∀ (z : Value) h', P' z h' → GoB wf l Z y code ml ret R Q (k + R'.cells) (n + R'.slots) h' q Ls ( z :: rest)) : GoB wf l Z y code ml ret R Q k n h pc Ls st := by
  exact Go.callV argsL rest q hd w1 w1' w1s w2 w3 w4 E hpl hy hlen hst hent G W hsz hW hf hl hk hN hq (fun v h' hq' => by obtain ⟨z, e, hp⟩ := hq'; subst e; exact g z h' hp)
end
section
variable {y' : MethodName} {code' : ByteArray} {ml' : Nat} {ret' : Option FieldType} {R' : Room} {Ls' : Array Slot} {i : Nat}
theorem Go.callVRp {a : Addr} {C : String} (argsL : List Value) (rest : List Value) (q : Nat) (hd : decode code pc = .ok (.invokevirtual i, 3)) (w1 : (Cond.methodLink y.cls i y').before a0 Z = true) (w1' : (Cond.declares y').before a0 Z = true) (w1s : (Cond.selects C y' y').before a0 Z = true) (w2 : (Cond.instanceMethod y').before a0 Z = true) (w3 : (Cond.initialized y'.cls).before a0 Z = true) (w4 : (Cond.code y' code' ml' ret').before a0 Z = true) (E : Exa Z h a C)
    (hpl : plainFor y' = true) (hy : y'.cls ≠ "java/lang/invoke/MethodHandle" ∧ y'.cls ≠ "java/lang/invoke/VarHandle") (hlen : ∀ sig, parseMethodDescriptor y'.desc = some sig → argsL.length = sig.parameters.length) (hst : st = argsL.reverse ++ .ref a :: rest) (hent : ∀ m, entryFrame m (.ref a :: argsL).toArray ml' = mkF m 0 Ls' [])
    (F : Value) (G : Go l Z y' code' ml' ret' R' (QR fun z h' => z = F ∧ h' = h) 0 0 h 0 Ls' []) (W : Nat) (hsz : Ls.size = ml) (hW : (rest.map fun v => v.category).sum ≤ W) (hf : R'.frames + 1 ≤ R.frames) (hl : W + (ml' + 11) + R'.locals ≤ R.locals) (hk : k + R'.cells ≤ R.cells) (hN : n + R'.slots ≤ R.slots) (hq : pc + 3 = q)
    (g : GoB wf l Z y code ml ret R Q (k + R'.cells) (n + R'.slots) h q Ls ( F :: rest)) : GoB wf l Z y code ml ret R Q k n h pc Ls st := by
  exact Go.callV argsL rest q hd w1 w1' w1s w2 w3 w4 E hpl hy hlen hst hent G W hsz hW hf hl hk hN hq (fun v h' hq' => by obtain ⟨z, e, hp, hh⟩ := hq'; subst e; subst hh; rw [hp]; exact g)
end

section
variable {y' : MethodName} {code' : ByteArray} {ml' : Nat} {ret' : Option FieldType} {R' : Room} {Ls' : Array Slot} {i : Nat}
theorem Go.callVV {a : Addr} {C : String} (argsL : List Value) (rest : List Value) (q : Nat) (hd : decode code pc = .ok (.invokevirtual i, 3)) (w1 : (Cond.methodLink y.cls i y').before a0 Z = true) (w1' : (Cond.declares y').before a0 Z = true) (w1s : (Cond.selects C y' y').before a0 Z = true) (w2 : (Cond.instanceMethod y').before a0 Z = true) (w3 : (Cond.initialized y'.cls).before a0 Z = true) (w4 : (Cond.code y' code' ml' ret').before a0 Z = true) (E : Exa Z h a C)
    (hpl : plainFor y' = true) (hy : y'.cls ≠ "java/lang/invoke/MethodHandle" ∧ y'.cls ≠ "java/lang/invoke/VarHandle") (hlen : ∀ sig, parseMethodDescriptor y'.desc = some sig → argsL.length = sig.parameters.length) (hst : st = argsL.reverse ++ .ref a :: rest) (hent : ∀ m, entryFrame m (.ref a :: argsL).toArray ml' = mkF m 0 Ls' [])
    (P' : Heap → Prop) (G : Go l Z y' code' ml' ret' R' (QV P') 0 0 h 0 Ls' []) (W : Nat) (hsz : Ls.size = ml) (hW : (rest.map fun v => v.category).sum ≤ W) (hf : R'.frames + 1 ≤ R.frames) (hl : W + (ml' + 11) + R'.locals ≤ R.locals) (hk : k + R'.cells ≤ R.cells) (hN : n + R'.slots ≤ R.slots) (hq : pc + 3 = q)
    (g : ∀ h', P' h' → GoB wf l Z y code ml ret R Q (k + R'.cells) (n + R'.slots) h' q Ls rest) : GoB wf l Z y code ml ret R Q k n h pc Ls st := by
  exact Go.callV argsL rest q hd w1 w1' w1s w2 w3 w4 E hpl hy hlen hst hent G W hsz hW hf hl hk hN hq (fun v h' hq' => by obtain ⟨e, hp⟩ := hq'; subst e; exact g h' hp)
end





























section
variable {y' : MethodName} {code' : ByteArray} {ml' : Nat} {ret' : Option FieldType} {R' : Room} {Ls' : Array Slot} {i : Nat}
theorem Go.callQR {a : Addr} {C : String} (argsL : List Value) (rest : List Value) (q : Nat) (hd : decode code pc = .ok (.invokevirtual i, 3)) (w1 : (Cond.methodLink y.cls i y').before a0 Z = true) (w1p : (Cond.privateMethod y').before a0 Z = true) (w1s : (Cond.selects y'.cls y' y').before a0 Z = true) (w2 : (Cond.instanceMethod y').before a0 Z = true) (w3 : (Cond.initialized y'.cls).before a0 Z = true) (w4 : (Cond.code y' code' ml' ret').before a0 Z = true) (E : Exa Z h a C)
    (hpl : plainFor y' = true) (hy : y'.cls ≠ "java/lang/invoke/MethodHandle" ∧ y'.cls ≠ "java/lang/invoke/VarHandle") (hlen : ∀ sig, parseMethodDescriptor y'.desc = some sig → argsL.length = sig.parameters.length) (hst : st = argsL.reverse ++ .ref a :: rest) (hent : ∀ m, entryFrame m (.ref a :: argsL).toArray ml' = mkF m 0 Ls' [])
    (P' : Value → Heap → Prop) (G : Go l Z y' code' ml' ret' R' (QR P') 0 0 h 0 Ls' []) (W : Nat) (hsz : Ls.size = ml) (hW : (rest.map fun v => v.category).sum ≤ W) (hf : R'.frames + 1 ≤ R.frames) (hl : W + (ml' + 11) + R'.locals ≤ R.locals) (hk : k + R'.cells ≤ R.cells) (hN : n + R'.slots ≤ R.slots) (hq : pc + 3 = q)
    (g : ∀ (z : Value) h', P' z h' → GoB wf l Z y code ml ret R Q (k + R'.cells) (n + R'.slots) h' q Ls ( z :: rest)) : GoB wf l Z y code ml ret R Q k n h pc Ls st := by
  exact Go.callQ argsL rest q hd w1 w1p w1s w2 w3 w4 E hpl hy hlen hst hent G W hsz hW hf hl hk hN hq (fun v h' hq' => by obtain ⟨z, e, hp⟩ := hq'; subst e; exact g z h' hp)
end

section
variable {y' : MethodName} {code' : ByteArray} {ml' : Nat} {ret' : Option FieldType} {R' : Room} {Ls' : Array Slot} {i : Nat}
theorem Go.callQRe {a : Addr} {C : String} (argsL : List Value) (rest : List Value) (q : Nat) (hd : decode code pc = .ok (.invokevirtual i, 3)) (w1 : (Cond.methodLink y.cls i y').before a0 Z = true) (w1p : (Cond.privateMethod y').before a0 Z = true) (w1s : (Cond.selects y'.cls y' y').before a0 Z = true) (w2 : (Cond.instanceMethod y').before a0 Z = true) (w3 : (Cond.initialized y'.cls).before a0 Z = true) (w4 : (Cond.code y' code' ml' ret').before a0 Z = true) (E : Exa Z h a C)
    (hpl : plainFor y' = true) (hy : y'.cls ≠ "java/lang/invoke/MethodHandle" ∧ y'.cls ≠ "java/lang/invoke/VarHandle") (hlen : ∀ sig, parseMethodDescriptor y'.desc = some sig → argsL.length = sig.parameters.length) (hst : st = argsL.reverse ++ .ref a :: rest) (hent : ∀ m, entryFrame m (.ref a :: argsL).toArray ml' = mkF m 0 Ls' [])
    (F : Value) (P' : Heap → Prop) (G : Go l Z y' code' ml' ret' R' (QR fun z h' => z = F ∧ P' h') 0 0 h 0 Ls' []) (W : Nat) (hsz : Ls.size = ml) (hW : (rest.map fun v => v.category).sum ≤ W) (hf : R'.frames + 1 ≤ R.frames) (hl : W + (ml' + 11) + R'.locals ≤ R.locals) (hk : k + R'.cells ≤ R.cells) (hN : n + R'.slots ≤ R.slots) (hq : pc + 3 = q)
    (g : ∀ h', P' h' → GoB wf l Z y code ml ret R Q (k + R'.cells) (n + R'.slots) h' q Ls ( F :: rest)) : GoB wf l Z y code ml ret R Q k n h pc Ls st := by
  exact Go.callQ argsL rest q hd w1 w1p w1s w2 w3 w4 E hpl hy hlen hst hent G W hsz hW hf hl hk hN hq (fun v h' hq' => by obtain ⟨z, e, hp, hh⟩ := hq'; subst e; rw [hp]; exact g h' hh)
end
















theorem own_eqf {args : Array Value} {s : State} {t : Term} {O n d : String} {v : Int32} {x : Addr} (ht : t.eval args s none [] s = some (.ref x)) (h : (Jvm.Cond.eq (Term.field t O n d) (Term.int v)).value args s none s [] = some true) : Fld s s.heap x O n d (.int v) := by
  apply Fld.start
  have e := fld_at (C := O) (n := n) (dd := d) ht
  have i : (Term.int v).eval args s none [] s = some (.int v) := Term.int_eval v
  simp only [Jvm.Cond.value, e, i] at h
  cases q : s.fieldOf? x O n d with
  | none => rw [q] at h; simp at h
  | some w =>
    rw [q] at h
    cases w <;> simp at h
    rw [h]
/-- an array of ints, shorts, chars, bytes or booleans, with its elements -/
def Ari (Z : State) (h : Heap) (a : Addr) (ty : FieldType) (xs : List Int32) : Prop := ∃ c : Cell, Arr Z h a c ty ∧ c.slots.toList = xs.map Value.int ∧ xs.length < 2147483648
def Arj (Z : State) (h : Heap) (a : Addr) (xs : List Int64) : Prop := ∃ c : Cell, Arr Z h a c .long ∧ c.slots.toList = xs.map Value.long ∧ xs.length < 2147483648
theorem Ari.lt {a : Addr} {ty : FieldType} {xs : List Int32} (F : Ari Z h a ty xs) : a < h.size := by obtain ⟨c, A, -⟩ := F; exact A.lt
theorem Arj.lt {a : Addr} {xs : List Int64} (F : Arj Z h a xs) : a < h.size := by obtain ⟨c, A, -⟩ := F; exact A.lt
theorem Ari.ext {h' : Heap} {a : Addr} {ty : FieldType} {xs : List Int32} (F : Ari Z h a ty xs) (E : Ext h h') : Ari Z h' a ty xs := by obtain ⟨c, A, r⟩ := F; exact ⟨c, A.ext E, r⟩
theorem Arj.ext {h' : Heap} {a : Addr} {xs : List Int64} (F : Arj Z h a xs) (E : Ext h h') : Arj Z h' a xs := by obtain ⟨c, A, r⟩ := F; exact ⟨c, A.ext E, r⟩
theorem Ari.other {h' : Heap} {a b : Addr} {sl : Nat} {v : Value} {ty : FieldType} {xs : List Int32} (F : Ari Z h b ty xs) (W : Wr h h' a sl v) (q : b ≠ a) : Ari Z h' b ty xs := by obtain ⟨c, A, r⟩ := F; exact ⟨c, A.other W q, r⟩
theorem Arj.other {h' : Heap} {a b : Addr} {sl : Nat} {v : Value} {xs : List Int64} (F : Arj Z h b xs) (W : Wr h h' a sl v) (q : b ≠ a) : Arj Z h' b xs := by obtain ⟨c, A, r⟩ := F; exact ⟨c, A.other W q, r⟩
theorem Ari.keep {h' : Heap} {a : Addr} {ws : List Addr} {ty : FieldType} {xs : List Int32} (F : Ari Z h a ty xs) (K : Keep h h' ws) (q : a ∉ ws) : Ari Z h' a ty xs := by obtain ⟨c, A, r⟩ := F; exact ⟨c, ⟨K.2.1 _ _ A.1 q, A.2⟩, r⟩
theorem Arj.keep {h' : Heap} {a : Addr} {ws : List Addr} {xs : List Int64} (F : Arj Z h a xs) (K : Keep h h' ws) (q : a ∉ ws) : Arj Z h' a xs := by obtain ⟨c, A, r⟩ := F; exact ⟨c, ⟨K.2.1 _ _ A.1 q, A.2⟩, r⟩
theorem own_size {c : Cell} {α : Type} {f : α → Value} {xs : List α} (e : c.slots.toList = xs.map f) : c.slots.size = xs.length := by
  have q := congrArg List.length e
  simpa using q
theorem own_at {c : Cell} {α : Type} {f : α → Value} {xs : List α} (e : c.slots.toList = xs.map f) {i : Nat} {x : α} (hx : xs[i]? = some x) : c.slots[i]? = some (f x) := by
  have q : c.slots.toList[i]? = some (f x) := by rw [e, List.getElem?_map, hx]; rfl
  simpa using q
theorem own_in {c : Cell} {α : Type} {f : α → Value} {xs : List α} (e : c.slots.toList = xs.map f) {i : Nat} {j : Int32} (hj : ¬ j < 0) (hi : j.toNatClampNeg = i) (hx : i < xs.length) : ¬ (j < 0 ∨ c.slots.size ≤ j.toNatClampNeg) := by
  rw [own_size e, hi]; intro q; rcases q with q | q
  · exact hj q
  · exact absurd hx (Nat.not_lt.mpr q)
theorem own_set {c : Cell} {α : Type} {f : α → Value} {xs : List α} (e : c.slots.toList = xs.map f) (i : Nat) (x : α) : (c.setSlot i (f x)).slots.toList = (xs.set i x).map f := by
  show (c.slots.setIfInBounds i (f x)).toList = _
  rw [Array.toList_setIfInBounds, e, List.map_set]
theorem Ari.set {h' : Heap} {a : Addr} {ty : FieldType} {xs xs' : List Int32} {i : Nat} {x : Int32} (F : Ari Z h a ty xs) (W : Wr h h' a i (.int x)) (e : xs.set i x = xs') : Ari Z h' a ty xs' := by
  subst e
  obtain ⟨c, A, r, r2⟩ := F
  exact ⟨_, A.same W, own_set r i x, by rw [List.length_set]; exact r2⟩
theorem Arj.set {h' : Heap} {a : Addr} {xs xs' : List Int64} {i : Nat} {x : Int64} (F : Arj Z h a xs) (W : Wr h h' a i (.long x)) (e : xs.set i x = xs') : Arj Z h' a xs' := by
  subst e
  obtain ⟨c, A, r, r2⟩ := F
  exact ⟨_, A.same W, own_set r i x, by rw [List.length_set]; exact r2⟩

theorem Go.iaload {a : Addr} {j x : Int32} {xs : List Int32} (i : Nat) (q : Nat) (hd : decode code pc = .ok (.iaload, 1)) (A : Ari Z h a .int xs) (hj : ¬ j < 0) (hi : j.toNatClampNeg = i) (hx : xs[i]? = some x) (hq : pc + 1 = q) (g : GoB wf l Z y code ml ret R Q k n h q Ls (.int x :: st)) : GoB wf l Z y code ml ret R Q k n h pc Ls (.int j :: .ref a :: st) := by
  subst hq hi
  obtain ⟨cl, A, r, r2⟩ := A
  have hv := own_at r hx
  have hin := own_in r hj rfl (List.getElem?_eq_some_iff.mp hx).1
  exact g.pure fun p e s m args below meth c K T L k' n' X hT t rr => X.iaload K.1 (cell := cl) (v := .int x) (by rw [hT]; exact A.1) (State.isArrayOf_alike K.2.2.1.alike A.2.1) A.2.2 hin hv (g := mkF m pc Ls (.int j :: .ref a :: st)) rfl rfl (hb K.2.1 hd) t rr
theorem Go.baload {a : Addr} {j x : Int32} {xs : List Int32} (i : Nat) (q : Nat) (hd : decode code pc = .ok (.baload, 1)) (A : Ari Z h a .byte xs) (hj : ¬ j < 0) (hi : j.toNatClampNeg = i) (hx : xs[i]? = some x) (hq : pc + 1 = q) (g : GoB wf l Z y code ml ret R Q k n h q Ls (.int x :: st)) : GoB wf l Z y code ml ret R Q k n h pc Ls (.int j :: .ref a :: st) := by
  subst hq hi
  obtain ⟨cl, A, r, r2⟩ := A
  have hv := own_at r hx
  have hin := own_in r hj rfl (List.getElem?_eq_some_iff.mp hx).1
  exact g.pure fun p e s m args below meth c K T L k' n' X hT t rr => X.baloadBytes K.1 (cell := cl) (v := .int x) (by rw [hT]; exact A.1) (State.isArrayOf_alike K.2.2.1.alike A.2.1) A.2.2 hin hv (g := mkF m pc Ls (.int j :: .ref a :: st)) rfl rfl (hb K.2.1 hd) t rr
theorem Go.zaload {a : Addr} {j x : Int32} {xs : List Int32} (i : Nat) (q : Nat) (hd : decode code pc = .ok (.baload, 1)) (A : Ari Z h a .boolean xs) (hj : ¬ j < 0) (hi : j.toNatClampNeg = i) (hx : xs[i]? = some x) (hq : pc + 1 = q) (g : GoB wf l Z y code ml ret R Q k n h q Ls (.int x :: st)) : GoB wf l Z y code ml ret R Q k n h pc Ls (.int j :: .ref a :: st) := by
  subst hq hi
  obtain ⟨cl, A, r, r2⟩ := A
  have hv := own_at r hx
  have hin := own_in r hj rfl (List.getElem?_eq_some_iff.mp hx).1
  exact g.pure fun p e s m args below meth c K T L k' n' X hT t rr => X.baloadBooleans K.1 (cell := cl) (v := .int x) (by rw [hT]; exact A.1) (State.isArrayOf_alike K.2.2.1.alike A.2.1) A.2.2 hin hv (g := mkF m pc Ls (.int j :: .ref a :: st)) rfl rfl (hb K.2.1 hd) t rr
theorem Go.caload {a : Addr} {j x : Int32} {xs : List Int32} (i : Nat) (q : Nat) (hd : decode code pc = .ok (.caload, 1)) (A : Ari Z h a .char xs) (hj : ¬ j < 0) (hi : j.toNatClampNeg = i) (hx : xs[i]? = some x) (hq : pc + 1 = q) (g : GoB wf l Z y code ml ret R Q k n h q Ls (.int x :: st)) : GoB wf l Z y code ml ret R Q k n h pc Ls (.int j :: .ref a :: st) := by
  subst hq hi
  obtain ⟨cl, A, r, r2⟩ := A
  have hv := own_at r hx
  have hin := own_in r hj rfl (List.getElem?_eq_some_iff.mp hx).1
  exact g.pure fun p e s m args below meth c K T L k' n' X hT t rr => X.caload K.1 (cell := cl) (v := .int x) (by rw [hT]; exact A.1) (State.isArrayOf_alike K.2.2.1.alike A.2.1) A.2.2 hin hv (g := mkF m pc Ls (.int j :: .ref a :: st)) rfl rfl (hb K.2.1 hd) t rr
theorem Go.laload {a : Addr} {j : Int32} {x : Int64} {xs : List Int64} (i : Nat) (q : Nat) (hd : decode code pc = .ok (.laload, 1)) (A : Arj Z h a xs) (hj : ¬ j < 0) (hi : j.toNatClampNeg = i) (hx : xs[i]? = some x) (hq : pc + 1 = q) (g : GoB wf l Z y code ml ret R Q k n h q Ls (.long x :: st)) : GoB wf l Z y code ml ret R Q k n h pc Ls (.int j :: .ref a :: st) := by
  subst hq hi
  obtain ⟨cl, A, r, r2⟩ := A
  have hv := own_at r hx
  have hin := own_in r hj rfl (List.getElem?_eq_some_iff.mp hx).1
  exact g.pure fun p e s m args below meth c K T L k' n' X hT t rr => X.laload K.1 (cell := cl) (v := .long x) (by rw [hT]; exact A.1) (State.isArrayOf_alike K.2.2.1.alike A.2.1) A.2.2 hin hv (g := mkF m pc Ls (.int j :: .ref a :: st)) rfl rfl (hb K.2.1 hd) t rr
theorem Go.arraylength {a : Addr} {ty : FieldType} {xs : List Int32} {z : Int32} (q : Nat) (hd : decode code pc = .ok (.arraylength, 1)) (A : Ari Z h a ty xs) (hz : xs.length.toInt32 = z) (hq : pc + 1 = q) (g : GoB wf l Z y code ml ret R Q k n h q Ls (.int z :: st)) : GoB wf l Z y code ml ret R Q k n h pc Ls (.ref a :: st) := by
  subst hq
  obtain ⟨cl, A, r, r2⟩ := A
  subst hz
  exact g.pure fun p e s m args below meth c K T L k' n' X hT t rr => X.arraylength K.1 (cell := cl) (by rw [hT]; exact A.1) (State.isArrayOf_alike K.2.2.1.alike A.2.1) (g := mkF m pc Ls (.ref a :: st)) rfl rfl (hb K.2.1 hd) t (by rw [own_size r]; exact rr)
theorem Go.arraylengthJ {a : Addr} {xs : List Int64} {z : Int32} (q : Nat) (hd : decode code pc = .ok (.arraylength, 1)) (A : Arj Z h a xs) (hz : xs.length.toInt32 = z) (hq : pc + 1 = q) (g : GoB wf l Z y code ml ret R Q k n h q Ls (.int z :: st)) : GoB wf l Z y code ml ret R Q k n h pc Ls (.ref a :: st) := by
  subst hq
  obtain ⟨cl, A, r, r2⟩ := A
  subst hz
  exact g.pure fun p e s m args below meth c K T L k' n' X hT t rr => X.arraylength K.1 (cell := cl) (by rw [hT]; exact A.1) (State.isArrayOf_alike K.2.2.1.alike A.2.1) (g := mkF m pc Ls (.ref a :: st)) rfl rfl (hb K.2.1 hd) t (by rw [own_size r]; exact rr)
theorem Go.iastore {a : Addr} {j x : Int32} {xs : List Int32} (i : Nat) (xs' : List Int32) (q : Nat) (hd : decode code pc = .ok (.iastore, 1)) (A : Ari Z h a .int xs) (hj : ¬ j < 0) (hi : j.toNatClampNeg = i) (hx : i < xs.length) (he : xs.set i (x) = xs') (hge : Z.heap.size ≤ a) (hq : pc + 1 = q)
    (g : ∀ h', Wr h h' a i (.int (x)) → Ari Z h' a .int xs' → GoB wf l Z y code ml ret R Q k n h' q Ls st) : GoB wf l Z y code ml ret R Q k n h pc Ls (.int x :: .int j :: .ref a :: st) := by
  subst hq hi
  refine GoB.move (P := fun h' => Wr h h' a j.toNatClampNeg (.int (x))) (kk := k) (nn := n) (fun h' W => g h' W (A.set W he)) ?_
  obtain ⟨cl, A, r, r2⟩ := A
  intro p e s m args below meth c K T L k' n' X h1 h2 N hT
  obtain ⟨T', h', X', e', W', s'⟩ := stI X K.1 K.2.2.1 hT A (own_in r hj rfl hx) (g := mkF m pc Ls (.int x :: .int j :: .ref a :: st)) rfl rfl (hb K.2.1 hd)
  exact ⟨T', _, k', n', X', h1, h2, Fr.snoc X' N hge, e' ▸ W', s'⟩
theorem Go.bastore {a : Addr} {j x : Int32} {xs : List Int32} (i : Nat) (xs' : List Int32) (q : Nat) (hd : decode code pc = .ok (.bastore, 1)) (A : Ari Z h a .byte xs) (hj : ¬ j < 0) (hi : j.toNatClampNeg = i) (hx : i < xs.length) (he : xs.set i (nar .byte x) = xs') (hge : Z.heap.size ≤ a) (hq : pc + 1 = q)
    (g : ∀ h', Wr h h' a i (.int (nar .byte x)) → Ari Z h' a .byte xs' → GoB wf l Z y code ml ret R Q k n h' q Ls st) : GoB wf l Z y code ml ret R Q k n h pc Ls (.int x :: .int j :: .ref a :: st) := by
  subst hq hi
  refine GoB.move (P := fun h' => Wr h h' a j.toNatClampNeg (.int (nar .byte x))) (kk := k) (nn := n) (fun h' W => g h' W (A.set W he)) ?_
  obtain ⟨cl, A, r, r2⟩ := A
  intro p e s m args below meth c K T L k' n' X h1 h2 N hT
  obtain ⟨T', h', X', e', W', s'⟩ := stB X K.1 K.2.2.1 hT A (own_in r hj rfl hx) (g := mkF m pc Ls (.int x :: .int j :: .ref a :: st)) rfl rfl (hb K.2.1 hd)
  exact ⟨T', _, k', n', X', h1, h2, Fr.snoc X' N hge, e' ▸ W', s'⟩
theorem Go.zastore {a : Addr} {j x : Int32} {xs : List Int32} (i : Nat) (xs' : List Int32) (q : Nat) (hd : decode code pc = .ok (.bastore, 1)) (A : Ari Z h a .boolean xs) (hj : ¬ j < 0) (hi : j.toNatClampNeg = i) (hx : i < xs.length) (he : xs.set i (nar .boolean x) = xs') (hge : Z.heap.size ≤ a) (hq : pc + 1 = q)
    (g : ∀ h', Wr h h' a i (.int (nar .boolean x)) → Ari Z h' a .boolean xs' → GoB wf l Z y code ml ret R Q k n h' q Ls st) : GoB wf l Z y code ml ret R Q k n h pc Ls (.int x :: .int j :: .ref a :: st) := by
  subst hq hi
  refine GoB.move (P := fun h' => Wr h h' a j.toNatClampNeg (.int (nar .boolean x))) (kk := k) (nn := n) (fun h' W => g h' W (A.set W he)) ?_
  obtain ⟨cl, A, r, r2⟩ := A
  intro p e s m args below meth c K T L k' n' X h1 h2 N hT
  obtain ⟨T', h', X', e', W', s'⟩ := stZ X K.1 K.2.2.1 hT A (own_in r hj rfl hx) (g := mkF m pc Ls (.int x :: .int j :: .ref a :: st)) rfl rfl (hb K.2.1 hd)
  exact ⟨T', _, k', n', X', h1, h2, Fr.snoc X' N hge, e' ▸ W', s'⟩
theorem Go.castore {a : Addr} {j x : Int32} {xs : List Int32} (i : Nat) (xs' : List Int32) (q : Nat) (hd : decode code pc = .ok (.castore, 1)) (A : Ari Z h a .char xs) (hj : ¬ j < 0) (hi : j.toNatClampNeg = i) (hx : i < xs.length) (he : xs.set i (nar .char x) = xs') (hge : Z.heap.size ≤ a) (hq : pc + 1 = q)
    (g : ∀ h', Wr h h' a i (.int (nar .char x)) → Ari Z h' a .char xs' → GoB wf l Z y code ml ret R Q k n h' q Ls st) : GoB wf l Z y code ml ret R Q k n h pc Ls (.int x :: .int j :: .ref a :: st) := by
  subst hq hi
  refine GoB.move (P := fun h' => Wr h h' a j.toNatClampNeg (.int (nar .char x))) (kk := k) (nn := n) (fun h' W => g h' W (A.set W he)) ?_
  obtain ⟨cl, A, r, r2⟩ := A
  intro p e s m args below meth c K T L k' n' X h1 h2 N hT
  obtain ⟨T', h', X', e', W', s'⟩ := stC X K.1 K.2.2.1 hT A (own_in r hj rfl hx) (g := mkF m pc Ls (.int x :: .int j :: .ref a :: st)) rfl rfl (hb K.2.1 hd)
  exact ⟨T', _, k', n', X', h1, h2, Fr.snoc X' N hge, e' ▸ W', s'⟩
theorem Go.lastore {a : Addr} {j : Int32} {x : Int64} {xs : List Int64} (i : Nat) (xs' : List Int64) (q : Nat) (hd : decode code pc = .ok (.lastore, 1)) (A : Arj Z h a xs) (hj : ¬ j < 0) (hi : j.toNatClampNeg = i) (hx : i < xs.length) (he : xs.set i x = xs') (hge : Z.heap.size ≤ a) (hq : pc + 1 = q)
    (g : ∀ h', Wr h h' a i (.long x) → Arj Z h' a xs' → GoB wf l Z y code ml ret R Q k n h' q Ls st) : GoB wf l Z y code ml ret R Q k n h pc Ls (.long x :: .int j :: .ref a :: st) := by
  subst hq hi
  refine GoB.move (P := fun h' => Wr h h' a j.toNatClampNeg (.long x)) (kk := k) (nn := n) (fun h' W => g h' W (A.set W he)) ?_
  obtain ⟨cl, A, r, r2⟩ := A
  intro p e s m args below meth c K T L k' n' X h1 h2 N hT
  obtain ⟨T', h', X', e', W', s'⟩ := stJ X K.1 K.2.2.1 hT A (own_in r hj rfl hx) (g := mkF m pc Ls (.long x :: .int j :: .ref a :: st)) rfl rfl (hb K.2.1 hd)
  exact ⟨T', _, k', n', X', h1, h2, Fr.snoc X' N hge, e' ▸ W', s'⟩
theorem Go.newI {aty : ArrayType} {z : Int32} (cap : Nat) (xs : List Int32) (q : Nat) (hd : decode code pc = .ok (.newarray aty, 2)) (w : (Cond.arrayClass (newarray.typeOf aty)).before a0 Z = true) (hdv : defaultValue (newarray.typeOf aty) = .int 0) (hz : ¬ z < 0) (hcap : z.toNatClampNeg ≤ cap) (hbig : cap * 8 ≤ 536870912) (hxs : List.replicate z.toNatClampNeg 0 = xs) (hk : k + 1 ≤ R.cells) (hN : n + cap ≤ R.slots) (hq : pc + 2 = q)
    (g : ∀ (a : Addr) h', a = h.size → Ext h h' → Ari Z h' a (newarray.typeOf aty) xs → GoB wf l Z y code ml ret R Q (k + 1) (n + cap) h' q Ls (.ref a :: st)) : GoB wf l Z y code ml ret R Q k n h pc Ls (.int z :: st) := by
  subst hq hxs
  refine GoB.move (P := fun h' => Ext h h' ∧ Ari Z h' h.size (newarray.typeOf aty) (List.replicate z.toNatClampNeg 0)) (kk := k + 1) (nn := n + cap) (fun h' p => g h.size h' rfl p.1 p.2) ?_
  intro p e s m args below meth c K T L k' n' X h1 h2 N hT
  obtain ⟨T', h', cA, X', e', E', A', s'⟩ := newP X K.1 K.2.2.1 w hT (g := mkF m pc Ls (.int z :: st)) rfl (hb K.2.1 hd) rfl hz hcap hbig (Nat.le_trans (Nat.add_le_add_right h1 1) hk) (Nat.le_trans (Nat.add_le_add_right h2 cap) hN)
  subst e'
  refine ⟨T', L, k' + 1, n' + cap, X', Nat.add_le_add_right h1 1, Nat.add_le_add_right h2 cap, N, ⟨E', _, A', ?_, ?_⟩, s'⟩
  · show (Array.replicate z.toNatClampNeg (defaultValue (newarray.typeOf aty))).toList = _
    rw [hdv]; simp [List.map_replicate]
  · rw [List.length_replicate]; omega
theorem Go.newJ {aty : ArrayType} {z : Int32} (cap : Nat) (xs : List Int64) (q : Nat) (hd : decode code pc = .ok (.newarray aty, 2)) (w : (Cond.arrayClass (newarray.typeOf aty)).before a0 Z = true) (hdv : newarray.typeOf aty = .long) (hz : ¬ z < 0) (hcap : z.toNatClampNeg ≤ cap) (hbig : cap * 8 ≤ 536870912) (hxs : List.replicate z.toNatClampNeg 0 = xs) (hk : k + 1 ≤ R.cells) (hN : n + cap ≤ R.slots) (hq : pc + 2 = q)
    (g : ∀ (a : Addr) h', a = h.size → Ext h h' → Arj Z h' a xs → GoB wf l Z y code ml ret R Q (k + 1) (n + cap) h' q Ls (.ref a :: st)) : GoB wf l Z y code ml ret R Q k n h pc Ls (.int z :: st) := by
  subst hq hxs
  refine GoB.move (P := fun h' => Ext h h' ∧ Arj Z h' h.size (List.replicate z.toNatClampNeg 0)) (kk := k + 1) (nn := n + cap) (fun h' p => g h.size h' rfl p.1 p.2) ?_
  intro p e s m args below meth c K T L k' n' X h1 h2 N hT
  obtain ⟨T', h', cA, X', e', E', A', s'⟩ := newP X K.1 K.2.2.1 w hT (g := mkF m pc Ls (.int z :: st)) rfl (hb K.2.1 hd) rfl hz hcap hbig (Nat.le_trans (Nat.add_le_add_right h1 1) hk) (Nat.le_trans (Nat.add_le_add_right h2 cap) hN)
  subst e'
  refine ⟨T', L, k' + 1, n' + cap, X', Nat.add_le_add_right h1 1, Nat.add_le_add_right h2 cap, N, ⟨E', _, hdv ▸ A', ?_, ?_⟩, s'⟩
  · show (Array.replicate z.toNatClampNeg (defaultValue .long)).toList = _
    simp [List.map_replicate, defaultValue]
  · rw [List.length_replicate]; omega

theorem own_arv {a : Addr} {ty : FieldType} {xs : List Int32} (F : Ari Z h a ty xs) (hf : ∀ x ∈ xs, fits ty (.int x) = true) : ∃ k : ClassId, Arv Z h a k ty xs.length.toInt32 (xs.map Value.int) (.int 0) := by
  obtain ⟨c, A, r, r2⟩ := F
  have sz := own_size r
  have hz : ¬ xs.length.toInt32 < 0 := by
    have e := len_toInt (n := xs.length) (by omega)
    rw [Int32.lt_iff_toInt_lt, e]
    show ¬ (xs.length : Int) < 0
    omega
  have hn : xs.length.toInt32.toNatClampNeg = xs.length := by
    have e := nat_of hz
    have e2 := len_toInt (n := xs.length) (by omega)
    omega
  have hat : ∀ i, i < c.slots.size → ∃ x, xs[i]? = some x := fun i hi => ⟨xs[i]'(by omega), List.getElem?_eq_getElem (by omega)⟩
  refine ⟨c.cls, c, A, rfl, by rw [sz, hn], hz, fun i hi => ?_, fun i hi => ?_⟩
  · obtain ⟨x, hx⟩ := hat i hi
    rw [own_at r hx, List.getD_eq_getElem?_getD, List.getElem?_map, hx]; rfl
  · obtain ⟨x, hx⟩ := hat i hi
    rw [List.getD_eq_getElem?_getD, List.getElem?_map, hx]
    exact hf x (List.mem_of_getElem? hx)
theorem own_ari {a : Addr} {ty : FieldType} {k : ClassId} {z : Int32} {ys : List Int32} (F : Arv Z h a k ty z (ys.map Value.int) (.int 0)) (hl : z.toNatClampNeg = ys.length) (hb : ys.length < 2147483648) : Ari Z h a ty ys := by
  obtain ⟨c, A, -, sz, -, H, -⟩ := F
  refine ⟨c, A, ?_, hb⟩
  apply List.ext_getElem?
  intro i
  rw [List.getElem?_map]
  by_cases hi : i < c.slots.size
  · have q := H i hi
    rw [Array.getElem?_toList, q, List.getD_eq_getElem?_getD, List.getElem?_map, List.getElem?_eq_getElem (show i < ys.length by omega)]
    rfl
  · rw [List.getElem?_eq_none (by simpa using hi), List.getElem?_eq_none (show ys.length ≤ i by omega)]
    rfl
theorem Go.arraycopy {a b : Addr} {ty : FieldType} {xs ys ys' : List Int32} {sp dp nn : Int32} {i W : Nat} (sN dN n' : Nat) (q : Nat) (hd : decode code pc = .ok (.invokestatic i, 3)) (w1 : (Cond.methodLink y.cls i Jvm.Stand.acN).before a0 Z = true) (w2 : (Cond.native Jvm.Stand.acN).before a0 Z = true) (w3 : (Cond.static Jvm.Stand.acN).before a0 Z = true) (w4 : (Cond.initialized "java/lang/System").before a0 Z = true)
    (A : Ari Z h a ty xs) (B : Ari Z h b ty ys) (hfa : ∀ x ∈ xs, fits ty (.int x) = true) (hfb : ∀ x ∈ ys, fits ty (.int x) = true) (hty : refKind ty = false) (h1 : ¬ sp < 0) (h2 : ¬ dp < 0) (h3 : ¬ nn < 0) (e1 : sp.toNatClampNeg = sN) (e2 : dp.toNatClampNeg = dN) (e3 : nn.toNatClampNeg = n') (l1 : sN + n' ≤ xs.length) (l2 : dN + n' ≤ ys.length) (he : ys.take dN ++ (xs.drop sN).take n' ++ ys.drop (dN + n') = ys')
    (hge : Z.heap.size ≤ b) (hsz : Ls.size = ml) (hfr : 1 ≤ R.frames) (hW : (st.map fun v => v.category).sum ≤ W) (hlo : W + (nativeFrameWords "java/lang/System" "arraycopy" 5 + 11) ≤ R.locals) (hq : pc + 3 = q)
    (g : ∀ h', Keep h h' [b] → Ari Z h' b ty ys' → GoB wf l Z y code ml ret R Q k n h' q Ls st) : GoB wf l Z y code ml ret R Q k n h pc Ls (.int nn :: .int dp :: .ref b :: .int sp :: .ref a :: st) := by
  subst hq e1 e2 e3 he
  refine GoB.move (P := fun h' => Keep h h' [b] ∧ Ari Z h' b ty (ys.take dp.toNatClampNeg ++ (xs.drop sp.toNatClampNeg).take nn.toNatClampNeg ++ ys.drop (dp.toNatClampNeg + nn.toNatClampNeg))) (kk := k) (nn := n) (fun h' p => g h' p.1 p.2) ?_
  obtain ⟨ka, A'⟩ := own_arv A hfa
  obtain ⟨kb, B'⟩ := own_arv B hfb
  obtain ⟨_, _, _, bb⟩ := B
  obtain ⟨_, _, _, ba⟩ := A
  have na : xs.length.toInt32.toNatClampNeg = xs.length := by
    have hz : ¬ xs.length.toInt32 < 0 := A'.choose_spec.2.2.2.1
    have e := nat_of hz
    have e2 := len_toInt (n := xs.length) (by omega)
    omega
  have nb : ys.length.toInt32.toNatClampNeg = ys.length := by
    have hz : ¬ ys.length.toInt32 < 0 := B'.choose_spec.2.2.2.1
    have e := nat_of hz
    have e2 := len_toInt (n := ys.length) (by omega)
    omega
  have hus : ((xs.drop sp.toNatClampNeg).take nn.toNatClampNeg).map Value.int = (List.range nn.toNatClampNeg).map fun i => (xs.map Value.int).getD (sp.toNatClampNeg + i) (.int 0) := by
    apply List.ext_getElem?
    intro i
    simp only [List.getElem?_map, List.getElem?_take, List.getElem?_drop, List.getElem?_range']
    by_cases hi : i < nn.toNatClampNeg
    · rw [if_pos hi, List.getElem?_range hi, Option.map_some, List.getD_eq_getElem?_getD, List.getElem?_map, List.getElem?_eq_getElem (show sp.toNatClampNeg + i < xs.length by omega)]
      rfl
    · rw [if_neg hi, List.getElem?_eq_none (by simpa using hi)]
      rfl
  intro p e s m args below meth c K T L k' n' X h1' h2' N hT
  obtain ⟨T', h', L', X', e', N', K', B2, s'⟩ := cpA X K.1 K.2.2.1 K.2.2.2.1 w1 w2 w3 w4 hT A' B' (Or.inl ⟨rfl, hty⟩) h1 h2 h3 (by rw [na]; exact l1) (by rw [nb]; exact l2) hus (by rw [List.length_map]; exact l2) N hge (g := mkF m pc Ls (.int nn :: .int dp :: .ref b :: .int sp :: .ref a :: st)) rfl (hsz.trans K.2.2.2.2.1.symm) rfl (hb K.2.1 hd) hfr (W := W) (by show 2 * 0 + _ ≤ _; rw [Nat.mul_zero, Nat.zero_add]; exact hW) hlo
  subst e'
  refine ⟨T', L', k', n', X', h1', h2', N', ⟨K', own_ari (z := ys.length.toInt32) (k := kb) ?_ ?_ ?_⟩, s'⟩
  · rw [List.map_append, List.map_append, List.map_take, List.map_drop]; exact B2
  · rw [nb]; simp only [List.length_append, List.length_take, List.length_drop]; omega
  · simp only [List.length_append, List.length_take, List.length_drop]; omega


/-- a String constant: it may intern; the walk goes on over the re-based start -/
theorem Go.ldcS {i : Nat} {text : String} {P : Int32 → Heap → Prop} (nn : Nat) (q : Nat) (hd : decode code pc = .ok (.ldc i, 2)) (w1 : (Cond.stringLink y.cls i text).before a0 Z = true) (wS : ∀ a ∈ Bundle.stringAtoms, a.before a0 Z = true) (hn : 4 * text.toList.length ≤ nn) (hbig : nn ≤ 536870912) (hk : k + 2 ≤ R.cells) (hN : n + (nn + 4) ≤ R.slots) (hq : pc + 2 = q)
    (g : ∀ (a : Addr) h', Ext h h' → Go l Z y code ml ret R (QI fun z hf => P z hf ∧ h'.size ≤ hf.size) (k + 2) (n + (nn + 4)) h' q Ls (.ref a :: st)) : GoB true l Z y code ml ret R (QI P) k n h pc Ls st := by
  subst hq
  intro p e s m args below meth c K T L k' n' X h1 h2 N hT
  have hs0 : s.Since s.vm T.heap.size := State.WarmedH.since (State.WarmedH.refl s) _
  obtain ⟨a, T1, h', k1, X1, e1, E1, S1, l1, Z1, o1, st1⟩ := Jvm.RoadKit.ldcS (s := s) (vm0 := s.vm) X K.1 K.2.2.1 K.2.2.2.1 w1 wS hT hs0 (by rw [hT]; exact Nat.le_refl _) (g := mkF m pc Ls st) rfl (hb K.2.1 hd) hn hbig (Nat.le_trans (Nat.add_le_add_right h1 2) hk) (Nat.le_trans (Nat.add_le_add_right h2 _) hN)
  obtain ⟨s', v, T', L', k'', n'', ok', X', b1, b2, N', ⟨z, ez, q1, q2⟩, hv, stp⟩ := g a h' E1 p e (s.setVm T1.vm) m args below meth c ⟨K.1, K.2.1, Z1, o1, K.2.2.2.2⟩ T1 L (k' + 2) (n' + (nn + 4)) X1 (Nat.add_le_add_right h1 2) (Nat.add_le_add_right h2 _) N e1
  obtain rfl : s' = s.setVm T1.vm := ok'.elim id (fun q => absurd q.1 (by decide))
  exact ⟨_, v, T', L', k'', n'', Or.inr ⟨rfl, T1.vm, k1, rfl, S1, Nat.le_trans l1 q2⟩, X', b1, b2, N', ⟨z, ez, q1⟩, hv, fun fs hl => st1 _ (stp fs hl)⟩
/-- the whole body of a method that may intern -/
theorem Go.metW {as' : Array Value} (hx : plainFor y = true) (hent : ∀ m, entryFrame m as' ml = mkF m 0 Ls []) (G : GoB true l Z y code ml ret R Q 0 0 h 0 Ls []) (ws : List Jvm.Cond) :
    MetFree l y (head1 (Jvm.Cond.code y code ml ret :: ws) R) (fun a U => a = as' ∧ Z.Warmed39 U.vm ∧ U.heap = h) (fun _ _ _ _ _ => True) (fun _ U o U' => ∃ v L, o = .returned v ∧ (Q v U'.heap ∧ Fr Z.heap.size L) ∧ ((∃ v : Option Value, o = Outcome.returned v) ∧ U.Warmed39 U'.vm ∧ U.Booked U'.vm U'.heap.size ∧ U.sameButNew ({ U' with vm := U.vm } : State) L R.cells R.slots)) := by
  refine MetFree.of_bodySF hx hisR ?_
  intro p e s m args below meth c s₁ Bd hml hP hK
  obtain ⟨rfl, hZ, hh⟩ := hP
  have X0 : Stand p l e R s m args below meth c s₁ [] 0 0 := Stand.of_body Bd
  have e0 : s₁.heap = h := by rw [← hh, Bd.state]; rfl
  have hnm := (name_of_methodNamed Bd.named Bd.method).1
  have hlk := Bd.notSynchronized
  obtain ⟨s', v, T', L', k'', n'', ok', X', b1, b2, N', q, hv, stp⟩ := G p e s m args below meth c ⟨Bd.exec, Bd.bytes, hZ, findClass_of_methodNamed Bd.named, hml, Bd.returns, hlk, hnm⟩ s₁ [] 0 0 X0 (Nat.le_refl _) (Nat.le_refl _) (Fr.nil _) e0
  have hv' : meth.sig.returnType = none → v = none := fun hh => hv (by rw [← Bd.returns]; exact hh)
  rcases ok' with rfl | ⟨-, vm, k1, rfl, S1, l1⟩
  · obtain ⟨fs, hr, hrun, hended, hW, hsame⟩ := X'.leave (v := v) hv'
    obtain ⟨a1, a2, a3, a4⟩ := Jvm.RoadKit.wide (s := s') (o := .returned v) (L := L') (k := k'') (n := n'') ⟨⟨v, rfl⟩, hW, hsame⟩
    exact ⟨_, _, castTop (hent m) (stp fs hr), hrun, hended, v, L', rfl, ⟨q, N'⟩, ⟨_, rfl⟩, a2, a3, a4.mono b1 b2⟩
  · obtain ⟨fs, hr, hrun, hended, hW, hsame⟩ := X'.leave (v := v) hv' hlk
    obtain ⟨a1, a2, a3⟩ := S1.ended (U := T'.setFrames fs) hW l1 hsame
    exact ⟨_, _, castTop (hent m) (stp fs hr), hrun, hended, v, L', rfl, ⟨q, N'⟩, ⟨_, rfl⟩, a1, a2, a3.mono b1 b2⟩

theorem Go.istoreS {i : Nat} {v : Int32} {o : Slot} (q : Nat) (Ls' : Array Slot) (hd : decode code pc = .ok (.istore i, 2)) (hold : Ls[i]? = some o) (ho : o = .unset ∨ ∃ w, o = .val w ∧ w.category = 1) (he : Ls.setIfInBounds i (.val (.int v)) = Ls') (hq : pc + 2 = q) (g : GoB wf l Z y code ml ret R Q k n h q Ls' st) : GoB wf l Z y code ml ret R Q k n h pc Ls (.int v :: st) := by
  subst hq he; exact g.pure fun p e s m args below meth c K T L k' n' X hT t r => XS.istoreS X.here K.1 rfl (hb K.2.1 hd) rfl hold ho r
theorem Go.istoreNS {i : Fin 4} {v : Int32} {o : Slot} (q : Nat) (Ls' : Array Slot) (hd : decode code pc = .ok (.istore_n i, 1)) (hold : Ls[i.val]? = some o) (ho : o = .unset ∨ ∃ w, o = .val w ∧ w.category = 1) (he : Ls.setIfInBounds i.val (.val (.int v)) = Ls') (hq : pc + 1 = q) (g : GoB wf l Z y code ml ret R Q k n h q Ls' st) : GoB wf l Z y code ml ret R Q k n h pc Ls (.int v :: st) := by
  subst hq he; exact g.pure fun p e s m args below meth c K T L k' n' X hT t r => XS.istoreNS X.here K.1 rfl (hb K.2.1 hd) rfl hold ho r

theorem own_staK {h' : Heap} {C nm d : String} {v : Value} {ws : List Addr} (F : Sta Z h C nm d v) (K : Keep h h' ws) (hn : ∀ x ∈ ws, ∀ cell : Cell, h[x]? = some cell → cell.vm.isStatics = false) : Sta Z h' C nm d v := by
  obtain ⟨cf, i, k, f, st, cell, h1, h2, h3, h4, h5, h6, h7⟩ := F
  exact ⟨cf, i, k, f, st, cell, h1, h2, h3, h4, K.2.1 _ _ h5 (fun hm => by rw [hn _ hm _ h5] at h6; cases h6), h6, h7⟩
theorem Ari.nostat {a : Addr} {ty : FieldType} {xs : List Int32} (F : Ari Z h a ty xs) : ∀ cell : Cell, h[a]? = some cell → cell.vm.isStatics = false := fun cell q => by
  obtain ⟨c, A, -⟩ := F
  cases A.1.symm.trans q
  exact A.plain
theorem own_nost {a : Addr} {C : String} (E : Exa Z h a C) : ∀ cell : Cell, h[a]? = some cell → cell.vm.isStatics = false := fun cell q => by
  obtain ⟨c, k, h1, -, -, h4, -⟩ := E
  cases h1.symm.trans q
  exact h4
theorem own_nea {a b : Addr} {ty ty' : FieldType} {xs ys : List Int32} (F : Ari Z h a ty xs) (G : Ari Z h b ty' ys) (hn : ty ≠ ty') : a ≠ b := fun e => by
  subst e
  obtain ⟨c1, A1, -⟩ := F
  obtain ⟨c2, A2, -⟩ := G
  cases A1.1.symm.trans A2.1
  obtain ⟨-, k1, hk1, comp1, e1⟩ := A1.2.1
  obtain ⟨-, k2, hk2, comp2, e2⟩ := A2.2.1
  cases hk1.symm.trans hk2
  rw [e1] at e2
  cases e2
  exact hn rfl
theorem own_nef {a b : Addr} {O nm d : String} {v w : Value} (F : Fld Z h a O nm d v) (G : Fld Z h b O nm d w) (hn : v ≠ w) : a ≠ b := fun e => by
  subst e
  obtain ⟨c1, cf1, k1, i1, f1, a1, a2, -, -, -, -, a7⟩ := F
  obtain ⟨c2, cf2, k2, i2, f2, b1, b2, -, -, -, -, b7⟩ := G
  cases a1.symm.trans b1
  cases a2.symm.trans b2
  exact hn (Option.some.inj (a7.symm.trans b7))
/-- an array of references to objects of a class -/
def Aro (Z : State) (h : Heap) (a : Addr) (C : String) (vs : List Value) : Prop := ∃ c : Cell, Arr Z h a c (.object C) ∧ c.slots.toList = vs.map id ∧ Ovr Z c.cls C
theorem Aro.lt {a : Addr} {C : String} {vs : List Value} (F : Aro Z h a C vs) : a < h.size := by obtain ⟨c, A, -⟩ := F; exact A.lt
theorem Aro.ext {h' : Heap} {a : Addr} {C : String} {vs : List Value} (F : Aro Z h a C vs) (E : Ext h h') : Aro Z h' a C vs := by obtain ⟨c, A, r⟩ := F; exact ⟨c, A.ext E, r⟩
theorem Aro.other {h' : Heap} {a b : Addr} {sl : Nat} {v : Value} {C : String} {vs : List Value} (F : Aro Z h b C vs) (W : Wr h h' a sl v) (q : b ≠ a) : Aro Z h' b C vs := by obtain ⟨c, A, r⟩ := F; exact ⟨c, A.other W q, r⟩
theorem Aro.keep {h' : Heap} {a : Addr} {ws : List Addr} {C : String} {vs : List Value} (F : Aro Z h a C vs) (K : Keep h h' ws) (q : a ∉ ws) : Aro Z h' a C vs := by obtain ⟨c, A, r⟩ := F; exact ⟨c, ⟨K.2.1 _ _ A.1 q, A.2⟩, r⟩
theorem Aro.set {h' : Heap} {a : Addr} {C : String} {vs vs' : List Value} {i : Nat} {x : Value} (F : Aro Z h a C vs) (W : Wr h h' a i x) (e : vs.set i x = vs') : Aro Z h' a C vs' := by
  subst e
  obtain ⟨c, A, r, r2⟩ := F
  exact ⟨_, A.same W, own_set r i x, r2⟩
theorem Go.newR {i : Nat} {C : String} {z : Int32} (cap : Nat) (vs : List Value) (q : Nat) (hd : decode code pc = .ok (.anewarray i, 3)) (w1 : (Cond.classLink y.cls i C).before a0 Z = true) (w2 : (Cond.arrayOver (.object C)).before a0 Z = true) (hz : ¬ z < 0) (hcap : z.toNatClampNeg ≤ cap) (hbig : cap * 8 ≤ 536870912) (hxs : List.replicate z.toNatClampNeg Value.null = vs) (hk : k + 1 ≤ R.cells) (hN : n + cap ≤ R.slots) (hq : pc + 3 = q)
    (g : ∀ (a : Addr) h', a = h.size → Ext h h' → Aro Z h' a C vs → GoB wf l Z y code ml ret R Q (k + 1) (n + cap) h' q Ls (.ref a :: st)) : GoB wf l Z y code ml ret R Q k n h pc Ls (.int z :: st) := by
  subst hq hxs
  refine GoB.move (P := fun h' => Ext h h' ∧ Aro Z h' h.size C (List.replicate z.toNatClampNeg Value.null)) (kk := k + 1) (nn := n + cap) (fun h' p => g h.size h' rfl p.1 p.2) ?_
  intro p e s m args below meth c K T L k' n' X h1 h2 N hT
  obtain ⟨T', h', cA, X', e', E', A', O', s'⟩ := Jvm.RoadKit.newR X K.1 K.2.2.1 K.2.2.2.1 w1 w2 hT (g := mkF m pc Ls (.int z :: st)) rfl (hb K.2.1 hd) rfl hz hcap hbig (Nat.le_trans (Nat.add_le_add_right h1 1) hk) (Nat.le_trans (Nat.add_le_add_right h2 cap) hN)
  subst e'
  refine ⟨T', L, k' + 1, n' + cap, X', Nat.add_le_add_right h1 1, Nat.add_le_add_right h2 cap, N, ⟨E', _, A', ?_, O'⟩, s'⟩
  show (Array.replicate z.toNatClampNeg (defaultValue (.object C))).toList = _
  simp [defaultValue]
theorem Go.aastore {a b : Addr} {C : String} {j : Int32} {vs : List Value} (i : Nat) (vs' : List Value) (q : Nat) (hd : decode code pc = .ok (.aastore, 1)) (A : Aro Z h a C vs) (I : Ins Z h b C true) (hj : ¬ j < 0) (hi : j.toNatClampNeg = i) (hx : i < vs.length) (he : vs.set i (.ref b) = vs') (hge : Z.heap.size ≤ a) (hq : pc + 1 = q)
    (g : ∀ h', Wr h h' a i (.ref b) → Aro Z h' a C vs' → GoB wf l Z y code ml ret R Q k n h' q Ls st) : GoB wf l Z y code ml ret R Q k n h pc Ls (.ref b :: .int j :: .ref a :: st) := by
  subst hq hi
  refine GoB.move (P := fun h' => Wr h h' a j.toNatClampNeg (.ref b)) (kk := k) (nn := n) (fun h' W => g h' W (A.set W he)) ?_
  obtain ⟨cl, A, r, r2⟩ := A
  intro p e s m args below meth c K T L k' n' X h1 h2 N hT
  obtain ⟨T', h', X', e', W', s'⟩ := stR X K.1 K.2.2.1 hT A (own_in r hj rfl hx) rfl (Sto.of A r2 I) (g := mkF m pc Ls (.ref b :: .int j :: .ref a :: st)) rfl rfl (hb K.2.1 hd)
  exact ⟨T', _, k', n', X', h1, h2, Fr.snoc X' N hge, e' ▸ W', s'⟩
theorem Go.aaload {a : Addr} {C : String} {j : Int32} {x : Value} {vs : List Value} (i : Nat) (q : Nat) (hd : decode code pc = .ok (.aaload, 1)) (A : Aro Z h a C vs) (hj : ¬ j < 0) (hi : j.toNatClampNeg = i) (hx : vs[i]? = some x) (hq : pc + 1 = q) (g : GoB wf l Z y code ml ret R Q k n h q Ls (x :: st)) : GoB wf l Z y code ml ret R Q k n h pc Ls (.int j :: .ref a :: st) := by
  subst hq hi
  obtain ⟨cl, A, r, r2⟩ := A
  have hv := own_at r hx
  have hin := own_in r hj rfl (List.getElem?_eq_some_iff.mp hx).1
  exact g.pure fun p e s m args below meth c K T L k' n' X hT t rr => X.aaload K.1 (cell := cl) (v := x) (ty := .object C) (by rw [hT]; exact A.1) (State.isArrayOf_alike K.2.2.1.alike A.2.1) rfl A.2.2 hin hv (g := mkF m pc Ls (.int j :: .ref a :: st)) rfl rfl (hb K.2.1 hd) t rr
theorem Go.tsw {dflt low high : Int} {offs : Array Int} {len : Nat} {i : Int32} (o : Int) (q : Nat) (hd : decode code pc = .ok (.tableswitch dflt low high offs, len)) (hin : ¬ (i.toInt < low ∨ i.toInt > high)) (hoff : offs[(i.toInt - low).toNat]? = some o) (ho : 0 ≤ (pc : Int) + o) (hp : ((pc : Int) + o).toNat = q) (g : GoB wf l Z y code ml ret R Q k n h q Ls st) : GoB wf l Z y code ml ret R Q k n h pc Ls (.int i :: st) := by
  exact g.pure fun p e s m args below meth c K T L k' n' X hT t r => XS.tswIn X.here K.1 rfl rfl (hb K.2.1 hd) rfl hin hoff ho hp r
theorem Go.cast {i : Nat} {a : Addr} {D : String} (q : Nat) (hd : decode code pc = .ok (.checkcast i, 3)) (w : (Cond.classLink y.cls i D).before a0 Z = true) (F : Ins Z h a D true) (hq : pc + 3 = q) (g : GoB wf l Z y code ml ret R Q k n h q Ls (.ref a :: st)) : GoB wf l Z y code ml ret R Q k n h pc Ls (.ref a :: st) := by
  subst hq
  refine GoB.move (P := fun h' => h' = h) (kk := k) (nn := n) (fun h' e => e ▸ g) ?_
  intro p e s m args below meth c K T L k' n' X h1 h2 N hT
  obtain ⟨T', X', e', s'⟩ := castY X K.1 K.2.2.1 K.2.2.2.1 w hT F (g := mkF m pc Ls (.ref a :: st)) rfl rfl (hb K.2.1 hd)
  exact ⟨T', L, k', n', X', h1, h2, N, e', s'⟩
theorem Go.newIE {aty : ArrayType} {z : Int32} (cap : Nat) (xs : List Int32) (ad : String) (q : Nat) (hd : decode code pc = .ok (.newarray aty, 2)) (w : (Cond.arrayClass (newarray.typeOf aty)).before a0 Z = true) (hdv : defaultValue (newarray.typeOf aty) = .int 0) (had : "[" ++ (newarray.typeOf aty).toString = ad) (hz : ¬ z < 0) (hcap : z.toNatClampNeg ≤ cap) (hbig : cap * 8 ≤ 536870912) (hxs : List.replicate z.toNatClampNeg 0 = xs) (hk : k + 1 ≤ R.cells) (hN : n + cap ≤ R.slots) (hq : pc + 2 = q)
    (g : ∀ (a : Addr) h', a = h.size → Ext h h' → Ari Z h' a (newarray.typeOf aty) xs → Exa Z h' a ad → GoB wf l Z y code ml ret R Q (k + 1) (n + cap) h' q Ls (.ref a :: st)) : GoB wf l Z y code ml ret R Q k n h pc Ls (.int z :: st) := by
  subst hq hxs
  refine GoB.move (P := fun h' => Ext h h' ∧ Ari Z h' h.size (newarray.typeOf aty) (List.replicate z.toNatClampNeg 0) ∧ Exa Z h' h.size ad) (kk := k + 1) (nn := n + cap) (fun h' p => g h.size h' rfl p.1 p.2.1 p.2.2) ?_
  intro p e s m args below meth c K T L k' n' X h1 h2 N hT
  obtain ⟨T', h', cA, X', e', E', A', Ex', s'⟩ := newPE X K.1 K.2.2.1 w hT (g := mkF m pc Ls (.int z :: st)) rfl (hb K.2.1 hd) rfl hz hcap hbig (Nat.le_trans (Nat.add_le_add_right h1 1) hk) (Nat.le_trans (Nat.add_le_add_right h2 cap) hN) had
  subst e'
  refine ⟨T', L, k' + 1, n' + cap, X', Nat.add_le_add_right h1 1, Nat.add_le_add_right h2 cap, N, ⟨E', ⟨_, A', ?_, ?_⟩, Ex'⟩, s'⟩
  · show (Array.replicate z.toNatClampNeg (defaultValue (newarray.typeOf aty))).toList = _
    rw [hdv]; simp [List.map_replicate]
  · rw [List.length_replicate]; omega
theorem Go.clone {i W : Nat} {ad : String} {a : Addr} {ty : FieldType} {xs : List Int32} (cap : Nat) (q : Nat) (hd : decode code pc = .ok (.invokevirtual i, 3)) (w1 : (Cond.methodLink y.cls i ⟨ad, "clone", "()Ljava/lang/Object;"⟩).before a0 Z = true) (w2 : (Cond.sameMethod ad "java/lang/Object" "clone" "()Ljava/lang/Object;").before a0 Z = true) (w3 : (Cond.native ⟨"java/lang/Object", "clone", "()Ljava/lang/Object;"⟩).before a0 Z = true)
    (w4 : (Cond.instanceMethod ⟨"java/lang/Object", "clone", "()Ljava/lang/Object;"⟩).before a0 Z = true) (w5 : (Cond.selects ad ⟨ad, "clone", "()Ljava/lang/Object;"⟩ ⟨"java/lang/Object", "clone", "()Ljava/lang/Object;"⟩).before a0 Z = true) (w6 : (Cond.castable ad "java/lang/Cloneable").before a0 Z = true)
    (A : Ari Z h a ty xs) (E : Exa Z h a ad) (hf : ∀ x ∈ xs, fits ty (.int x) = true) (hsz : Ls.size = ml) (hfr : 1 ≤ R.frames) (hW : (st.map fun v => v.category).sum ≤ W) (hlo : W + 14 ≤ R.locals) (hcap : xs.length ≤ cap) (hk : k + 1 ≤ R.cells) (hN : n + cap ≤ R.slots) (hq : pc + 3 = q)
    (g : ∀ (b : Addr) h', b = h.size → Ext h h' → Ari Z h' b ty xs → Exa Z h' b ad → GoB wf l Z y code ml ret R Q (k + 1) (n + cap) h' q Ls (.ref b :: st)) : GoB wf l Z y code ml ret R Q k n h pc Ls (.ref a :: st) := by
  subst hq
  obtain ⟨cl, A, r, r2⟩ := A
  have FC : FitC Z cl := fitC_of A fun i hi v hv => by
    have e : cl.slots.toList[i]? = some v := by simpa using hv
    rw [r, List.getElem?_map] at e
    obtain ⟨x, hx, rfl⟩ := Option.map_eq_some_iff.mp e
    exact hf x (List.mem_of_getElem? hx)
  refine GoB.move (P := fun h' => Ext h h' ∧ Ari Z h' h.size ty xs ∧ Exa Z h' h.size ad) (kk := k + 1) (nn := n + cap) (fun h' p => g h.size h' rfl p.1 p.2.1 p.2.2) ?_
  intro p e s m args below meth c K T L k' n' X h1 h2 N hT
  obtain ⟨T', h', X', e', E', A', Ex', s'⟩ := cloneA X K.1 K.2.2.1 K.2.2.2.1 w1 w2 w3 w4 w5 w6 hT A E FC (g := mkF m pc Ls (.ref a :: st)) rfl (hsz.trans K.2.2.2.2.1.symm) rfl (hb K.2.1 hd) hfr (W := W) (by show 2 * 0 + _ ≤ _; rw [Nat.mul_zero, Nat.zero_add]; exact hW) hlo (by rw [own_size r]; exact hcap) (Nat.le_trans (Nat.add_le_add_right h1 1) hk) (Nat.le_trans (Nat.add_le_add_right h2 cap) hN)
  subst e'
  exact ⟨T', L, k' + 1, n' + cap, X', Nat.add_le_add_right h1 1, Nat.add_le_add_right h2 cap, N, ⟨E', ⟨_, A', r, r2⟩, Ex'⟩, s'⟩


/-- a static of a reference type: null or an address -/
def Str (Z : State) (h : Heap) (C nm d : String) : Prop := Sta Z h C nm d .null ∨ ∃ r : Addr, Sta Z h C nm d (.ref r)
theorem Str.ext {h' : Heap} {C nm d : String} (F : Str Z h C nm d) (E : Ext h h') : Str Z h' C nm d := F.imp (fun q => q.ext E) fun ⟨r, q⟩ => ⟨r, q.ext E⟩
theorem Str.wr {h' : Heap} {C nm d : String} {a : Addr} {sl : Nat} {v : Value} (F : Str Z h C nm d) (W : Wr h h' a sl v) : Str Z h' C nm d := F.imp (fun q => q.wr W) fun ⟨r, q⟩ => ⟨r, q.wr W⟩
theorem Str.keepN {h' : Heap} {C nm d : String} {ws : List Addr} (F : Str Z h C nm d) (K : Keep h h' ws) (hn : ∀ x ∈ ws, ∀ cell : Cell, h[x]? = some cell → cell.vm.isStatics = false) : Str Z h' C nm d := F.imp (fun q => own_staK q K hn) fun ⟨r, q⟩ => ⟨r, own_staK q K hn⟩

end Laws
end Jvm.OwnGo

namespace Jvm.OwnGo
open Sem ClassFile Op Lib Jvm.Stand Jvm.Free Jvm.LawKit Jvm.RoadKit
section Laws2
variable {wf : Bool} {l : Launch} {Z : State} {y : MethodName} {code : ByteArray} {ml : Nat} {ret : Option FieldType} {R : Room} {Q : Option Value → Heap → Prop} {k n : Nat} {h : Heap} {pc : Nat} {Ls : Array Slot} {st : List Value} {a0 : Array Value}
theorem own_arvJ {a : Addr} {xs : List Int64} (F : Arj Z h a xs) : ∃ k : ClassId, Arv Z h a k .long xs.length.toInt32 (xs.map Value.long) (.long 0) := by
  obtain ⟨c, A, r, r2⟩ := F
  have sz := own_size r
  have hz : ¬ xs.length.toInt32 < 0 := by
    have e := len_toInt (n := xs.length) (by omega)
    rw [Int32.lt_iff_toInt_lt, e]
    show ¬ (xs.length : Int) < 0
    omega
  have hn : xs.length.toInt32.toNatClampNeg = xs.length := by
    have e := nat_of hz
    have e2 := len_toInt (n := xs.length) (by omega)
    omega
  have hat : ∀ i, i < c.slots.size → ∃ x, xs[i]? = some x := fun i hi => ⟨xs[i]'(by omega), List.getElem?_eq_getElem (by omega)⟩
  refine ⟨c.cls, c, A, rfl, by rw [sz, hn], hz, fun i hi => ?_, fun i hi => ?_⟩
  · obtain ⟨x, hx⟩ := hat i hi
    rw [own_at r hx, List.getD_eq_getElem?_getD, List.getElem?_map, hx]; rfl
  · obtain ⟨x, hx⟩ := hat i hi
    rw [List.getD_eq_getElem?_getD, List.getElem?_map, hx]
    rfl
theorem own_ariJ {a : Addr} {k : ClassId} {z : Int32} {ys : List Int64} (F : Arv Z h a k .long z (ys.map Value.long) (.long 0)) (hl : z.toNatClampNeg = ys.length) (hb : ys.length < 2147483648) : Arj Z h a ys := by
  obtain ⟨c, A, -, sz, -, H, -⟩ := F
  refine ⟨c, A, ?_, hb⟩
  apply List.ext_getElem?
  intro i
  rw [List.getElem?_map]
  by_cases hi : i < c.slots.size
  · have q := H i hi
    rw [Array.getElem?_toList, q, List.getD_eq_getElem?_getD, List.getElem?_map, List.getElem?_eq_getElem (show i < ys.length by omega)]
    rfl
  · rw [List.getElem?_eq_none (by simpa using hi), List.getElem?_eq_none (show ys.length ≤ i by omega)]
    rfl
theorem Go.arraycopyJ {a b : Addr} {xs ys ys' : List Int64} {sp dp nn : Int32} {i W : Nat} (sN dN n' : Nat) (q : Nat) (hd : decode code pc = .ok (.invokestatic i, 3)) (w1 : (Cond.methodLink y.cls i Jvm.Stand.acN).before a0 Z = true) (w2 : (Cond.native Jvm.Stand.acN).before a0 Z = true) (w3 : (Cond.static Jvm.Stand.acN).before a0 Z = true) (w4 : (Cond.initialized "java/lang/System").before a0 Z = true)
    (A : Arj Z h a xs) (B : Arj Z h b ys) (h1 : ¬ sp < 0) (h2 : ¬ dp < 0) (h3 : ¬ nn < 0) (e1 : sp.toNatClampNeg = sN) (e2 : dp.toNatClampNeg = dN) (e3 : nn.toNatClampNeg = n') (l1 : sN + n' ≤ xs.length) (l2 : dN + n' ≤ ys.length) (he : ys.take dN ++ (xs.drop sN).take n' ++ ys.drop (dN + n') = ys')
    (hge : Z.heap.size ≤ b) (hsz : Ls.size = ml) (hfr : 1 ≤ R.frames) (hW : (st.map fun v => v.category).sum ≤ W) (hlo : W + (nativeFrameWords "java/lang/System" "arraycopy" 5 + 11) ≤ R.locals) (hq : pc + 3 = q)
    (g : ∀ h', Keep h h' [b] → Arj Z h' b ys' → GoB wf l Z y code ml ret R Q k n h' q Ls st) : GoB wf l Z y code ml ret R Q k n h pc Ls (.int nn :: .int dp :: .ref b :: .int sp :: .ref a :: st) := by
  subst hq e1 e2 e3 he
  refine GoB.move (P := fun h' => Keep h h' [b] ∧ Arj Z h' b (ys.take dp.toNatClampNeg ++ (xs.drop sp.toNatClampNeg).take nn.toNatClampNeg ++ ys.drop (dp.toNatClampNeg + nn.toNatClampNeg))) (kk := k) (nn := n) (fun h' p => g h' p.1 p.2) ?_
  obtain ⟨ka, A'⟩ := own_arvJ A
  obtain ⟨kb, B'⟩ := own_arvJ B
  obtain ⟨_, _, _, bb⟩ := B
  obtain ⟨_, _, _, ba⟩ := A
  have na : xs.length.toInt32.toNatClampNeg = xs.length := by
    have hz : ¬ xs.length.toInt32 < 0 := A'.choose_spec.2.2.2.1
    have e := nat_of hz
    have e2 := len_toInt (n := xs.length) (by omega)
    omega
  have nb : ys.length.toInt32.toNatClampNeg = ys.length := by
    have hz : ¬ ys.length.toInt32 < 0 := B'.choose_spec.2.2.2.1
    have e := nat_of hz
    have e2 := len_toInt (n := ys.length) (by omega)
    omega
  have hus : ((xs.drop sp.toNatClampNeg).take nn.toNatClampNeg).map Value.long = (List.range nn.toNatClampNeg).map fun i => (xs.map Value.long).getD (sp.toNatClampNeg + i) (.long 0) := by
    apply List.ext_getElem?
    intro i
    simp only [List.getElem?_map, List.getElem?_take, List.getElem?_drop, List.getElem?_range']
    by_cases hi : i < nn.toNatClampNeg
    · rw [if_pos hi, List.getElem?_range hi, Option.map_some, List.getD_eq_getElem?_getD, List.getElem?_map, List.getElem?_eq_getElem (show sp.toNatClampNeg + i < xs.length by omega)]
      rfl
    · rw [if_neg hi, List.getElem?_eq_none (by simpa using hi)]
      rfl
  intro p e s m args below meth c K T L k' n' X h1' h2' N hT
  obtain ⟨T', h', L', X', e', N', K', B2, s'⟩ := cpA X K.1 K.2.2.1 K.2.2.2.1 w1 w2 w3 w4 hT A' B' (Or.inl ⟨rfl, rfl⟩) h1 h2 h3 (by rw [na]; exact l1) (by rw [nb]; exact l2) hus (by rw [List.length_map]; exact l2) N hge (g := mkF m pc Ls (.int nn :: .int dp :: .ref b :: .int sp :: .ref a :: st)) rfl (hsz.trans K.2.2.2.2.1.symm) rfl (hb K.2.1 hd) hfr (W := W) (by show 2 * 0 + _ ≤ _; rw [Nat.mul_zero, Nat.zero_add]; exact hW) hlo
  subst e'
  refine ⟨T', L', k', n', X', h1', h2', N', ⟨K', own_ariJ (z := ys.length.toInt32) (k := kb) ?_ ?_ ?_⟩, s'⟩
  · rw [List.map_append, List.map_append, List.map_take, List.map_drop]; exact B2
  · rw [nb]; simp only [List.length_append, List.length_take, List.length_drop]; omega
  · simp only [List.length_append, List.length_take, List.length_drop]; omega


theorem Go.cloneJ {i W : Nat} {ad : String} {a : Addr} {xs : List Int64} (cap : Nat) (q : Nat) (hd : decode code pc = .ok (.invokevirtual i, 3)) (w1 : (Cond.methodLink y.cls i ⟨ad, "clone", "()Ljava/lang/Object;"⟩).before a0 Z = true) (w2 : (Cond.sameMethod ad "java/lang/Object" "clone" "()Ljava/lang/Object;").before a0 Z = true) (w3 : (Cond.native ⟨"java/lang/Object", "clone", "()Ljava/lang/Object;"⟩).before a0 Z = true)
    (w4 : (Cond.instanceMethod ⟨"java/lang/Object", "clone", "()Ljava/lang/Object;"⟩).before a0 Z = true) (w5 : (Cond.selects ad ⟨ad, "clone", "()Ljava/lang/Object;"⟩ ⟨"java/lang/Object", "clone", "()Ljava/lang/Object;"⟩).before a0 Z = true) (w6 : (Cond.castable ad "java/lang/Cloneable").before a0 Z = true)
    (A : Arj Z h a xs) (E : Exa Z h a ad) (hsz : Ls.size = ml) (hfr : 1 ≤ R.frames) (hW : (st.map fun v => v.category).sum ≤ W) (hlo : W + 14 ≤ R.locals) (hcap : xs.length ≤ cap) (hk : k + 1 ≤ R.cells) (hN : n + cap ≤ R.slots) (hq : pc + 3 = q)
    (g : ∀ (b : Addr) h', b = h.size → Ext h h' → Arj Z h' b xs → Exa Z h' b ad → GoB wf l Z y code ml ret R Q (k + 1) (n + cap) h' q Ls (.ref b :: st)) : GoB wf l Z y code ml ret R Q k n h pc Ls (.ref a :: st) := by
  subst hq
  obtain ⟨cl, A, r, r2⟩ := A
  have FC : FitC Z cl := fitC_of A fun i hi v hv => by
    have e : cl.slots.toList[i]? = some v := by simpa using hv
    rw [r, List.getElem?_map] at e
    obtain ⟨x, hx, rfl⟩ := Option.map_eq_some_iff.mp e
    rfl
  refine GoB.move (P := fun h' => Ext h h' ∧ Arj Z h' h.size xs ∧ Exa Z h' h.size ad) (kk := k + 1) (nn := n + cap) (fun h' p => g h.size h' rfl p.1 p.2.1 p.2.2) ?_
  intro p e s m args below meth c K T L k' n' X h1 h2 N hT
  obtain ⟨T', h', X', e', E', A', Ex', s'⟩ := cloneA X K.1 K.2.2.1 K.2.2.2.1 w1 w2 w3 w4 w5 w6 hT A E FC (g := mkF m pc Ls (.ref a :: st)) rfl (hsz.trans K.2.2.2.2.1.symm) rfl (hb K.2.1 hd) hfr (W := W) (by show 2 * 0 + _ ≤ _; rw [Nat.mul_zero, Nat.zero_add]; exact hW) hlo (by rw [own_size r]; exact hcap) (Nat.le_trans (Nat.add_le_add_right h1 1) hk) (Nat.le_trans (Nat.add_le_add_right h2 cap) hN)
  subst e'
  exact ⟨T', L, k' + 1, n' + cap, X', Nat.add_le_add_right h1 1, Nat.add_le_add_right h2 cap, N, ⟨E', ⟨_, A', r, r2⟩, Ex'⟩, s'⟩


theorem Go.newJE {aty : ArrayType} {z : Int32} (cap : Nat) (xs : List Int64) (ad : String) (q : Nat) (hd : decode code pc = .ok (.newarray aty, 2)) (w : (Cond.arrayClass (newarray.typeOf aty)).before a0 Z = true) (hdv : newarray.typeOf aty = .long) (had : "[" ++ (newarray.typeOf aty).toString = ad) (hz : ¬ z < 0) (hcap : z.toNatClampNeg ≤ cap) (hbig : cap * 8 ≤ 536870912) (hxs : List.replicate z.toNatClampNeg 0 = xs) (hk : k + 1 ≤ R.cells) (hN : n + cap ≤ R.slots) (hq : pc + 2 = q)
    (g : ∀ (a : Addr) h', a = h.size → Ext h h' → Arj Z h' a xs → Exa Z h' a ad → GoB wf l Z y code ml ret R Q (k + 1) (n + cap) h' q Ls (.ref a :: st)) : GoB wf l Z y code ml ret R Q k n h pc Ls (.int z :: st) := by
  subst hq hxs
  refine GoB.move (P := fun h' => Ext h h' ∧ Arj Z h' h.size (List.replicate z.toNatClampNeg 0) ∧ Exa Z h' h.size ad) (kk := k + 1) (nn := n + cap) (fun h' p => g h.size h' rfl p.1 p.2.1 p.2.2) ?_
  intro p e s m args below meth c K T L k' n' X h1 h2 N hT
  obtain ⟨T', h', cA, X', e', E', A', Ex', s'⟩ := newPE X K.1 K.2.2.1 w hT (g := mkF m pc Ls (.int z :: st)) rfl (hb K.2.1 hd) rfl hz hcap hbig (Nat.le_trans (Nat.add_le_add_right h1 1) hk) (Nat.le_trans (Nat.add_le_add_right h2 cap) hN) had
  subst e'
  refine ⟨T', L, k' + 1, n' + cap, X', Nat.add_le_add_right h1 1, Nat.add_le_add_right h2 cap, N, ⟨E', ⟨_, hdv ▸ A', ?_, ?_⟩, Ex'⟩, s'⟩
  · show (Array.replicate z.toNatClampNeg (defaultValue .long)).toList = _
    simp [List.map_replicate, defaultValue]
  · rw [List.length_replicate]; omega

theorem Arj.nostat {a : Addr} {xs : List Int64} (F : Arj Z h a xs) : ∀ cell : Cell, h[a]? = some cell → cell.vm.isStatics = false := fun cell q => by
  obtain ⟨c, A, -⟩ := F
  cases A.1.symm.trans q
  exact A.plain
/-- an array of arrays -/
def Arz (Z : State) (h : Heap) (a : Addr) (ty : FieldType) (C : String) (vs : List Value) : Prop := ∃ c : Cell, Arr Z h a c (.array ty) ∧ c.slots.toList = vs.map id ∧ OvrA Z c.cls ty C
theorem Arz.lt {a : Addr} {ty : FieldType} {C : String} {vs : List Value} (F : Arz Z h a ty C vs) : a < h.size := by obtain ⟨c, A, -⟩ := F; exact A.lt
theorem Arz.ext {h' : Heap} {a : Addr} {ty : FieldType} {C : String} {vs : List Value} (F : Arz Z h a ty C vs) (E : Ext h h') : Arz Z h' a ty C vs := by obtain ⟨c, A, r⟩ := F; exact ⟨c, A.ext E, r⟩
theorem Arz.other {h' : Heap} {a b : Addr} {sl : Nat} {v : Value} {ty : FieldType} {C : String} {vs : List Value} (F : Arz Z h b ty C vs) (W : Wr h h' a sl v) (q : b ≠ a) : Arz Z h' b ty C vs := by obtain ⟨c, A, r⟩ := F; exact ⟨c, A.other W q, r⟩
theorem Arz.keep {h' : Heap} {a : Addr} {ws : List Addr} {ty : FieldType} {C : String} {vs : List Value} (F : Arz Z h a ty C vs) (K : Keep h h' ws) (q : a ∉ ws) : Arz Z h' a ty C vs := by obtain ⟨c, A, r⟩ := F; exact ⟨c, ⟨K.2.1 _ _ A.1 q, A.2⟩, r⟩
theorem Arz.nostat {a : Addr} {ty : FieldType} {C : String} {vs : List Value} (F : Arz Z h a ty C vs) : ∀ cell : Cell, h[a]? = some cell → cell.vm.isStatics = false := fun cell q => by
  obtain ⟨c, A, -⟩ := F
  cases A.1.symm.trans q
  exact A.plain
theorem Arz.set {h' : Heap} {a : Addr} {ty : FieldType} {C : String} {vs vs' : List Value} {i : Nat} {x : Value} (F : Arz Z h a ty C vs) (W : Wr h h' a i x) (e : vs.set i x = vs') : Arz Z h' a ty C vs' := by
  subst e
  obtain ⟨c, A, r, r2⟩ := F
  exact ⟨_, A.same W, own_set r i x, r2⟩
theorem Go.newZ {i : Nat} {ty : FieldType} {C ad : String} {z : Int32} (cap : Nat) (vs : List Value) (q : Nat) (hd : decode code pc = .ok (.anewarray i, 3)) (hC : (FieldType.array ty).toString = C) (w1 : (Cond.classLink y.cls i C).before a0 Z = true) (w2 : (Cond.arrayOver (.array ty)).before a0 Z = true) (had : "[" ++ C = ad) (hz : ¬ z < 0) (hcap : z.toNatClampNeg ≤ cap) (hbig : cap * 8 ≤ 536870912) (hxs : List.replicate z.toNatClampNeg Value.null = vs) (hk : k + 1 ≤ R.cells) (hN : n + cap ≤ R.slots) (hq : pc + 3 = q)
    (g : ∀ (a : Addr) h', a = h.size → Ext h h' → Arz Z h' a ty C vs → GoB wf l Z y code ml ret R Q (k + 1) (n + cap) h' q Ls (.ref a :: st)) : GoB wf l Z y code ml ret R Q k n h pc Ls (.int z :: st) := by
  subst hq hxs
  refine GoB.move (P := fun h' => Ext h h' ∧ Arz Z h' h.size ty C (List.replicate z.toNatClampNeg Value.null)) (kk := k + 1) (nn := n + cap) (fun h' p => g h.size h' rfl p.1 p.2) ?_
  intro p e s m args below meth c K T L k' n' X h1 h2 N hT
  obtain ⟨T', h', cA, X', e', E', A', -, O', s'⟩ := newRA X K.1 K.2.2.1 K.2.2.2.1 hC w1 w2 hT (g := mkF m pc Ls (.int z :: st)) rfl (hb K.2.1 hd) rfl hz hcap hbig (Nat.le_trans (Nat.add_le_add_right h1 1) hk) (Nat.le_trans (Nat.add_le_add_right h2 cap) hN) had
  subst e'
  refine ⟨T', L, k' + 1, n' + cap, X', Nat.add_le_add_right h1 1, Nat.add_le_add_right h2 cap, N, ⟨E', _, A', ?_, O'⟩, s'⟩
  show (Array.replicate z.toNatClampNeg (defaultValue (.array ty))).toList = _
  simp [defaultValue]
theorem Go.zzstore {a : Addr} {ty : FieldType} {C : String} {j : Int32} {v : Value} {vs : List Value} (i : Nat) (vs' : List Value) (q : Nat) (hd : decode code pc = .ok (.aastore, 1)) (A : Arz Z h a ty C vs) (I : v = .null ∨ ∃ b, v = .ref b ∧ Ins Z h b C true) (hj : ¬ j < 0) (hi : j.toNatClampNeg = i) (hx : i < vs.length) (he : vs.set i v = vs') (hge : Z.heap.size ≤ a) (hq : pc + 1 = q)
    (g : ∀ h', Wr h h' a i v → Arz Z h' a ty C vs' → GoB wf l Z y code ml ret R Q k n h' q Ls st) : GoB wf l Z y code ml ret R Q k n h pc Ls (v :: .int j :: .ref a :: st) := by
  subst hq hi
  refine GoB.move (P := fun h' => Wr h h' a j.toNatClampNeg v) (kk := k) (nn := n) (fun h' W => g h' W (A.set W he)) ?_
  obtain ⟨cl, A, r, r2⟩ := A
  have S : Sto Z h a v := I.elim Or.inl (fun ⟨b, e, J⟩ => e ▸ Sto.ofVA A rfl r2 J)
  intro p e s m args below meth c K T L k' n' X h1 h2 N hT
  obtain ⟨T', h', X', e', W', s'⟩ := stR X K.1 K.2.2.1 hT A (own_in r hj rfl hx) rfl S (g := mkF m pc Ls (v :: .int j :: .ref a :: st)) rfl rfl (hb K.2.1 hd)
  exact ⟨T', _, k', n', X', h1, h2, Fr.snoc X' N hge, e' ▸ W', s'⟩
theorem Go.zzload {a : Addr} {ty : FieldType} {C : String} {j : Int32} {x : Value} {vs : List Value} (i : Nat) (q : Nat) (hd : decode code pc = .ok (.aaload, 1)) (A : Arz Z h a ty C vs) (hj : ¬ j < 0) (hi : j.toNatClampNeg = i) (hx : vs[i]? = some x) (hq : pc + 1 = q) (g : GoB wf l Z y code ml ret R Q k n h q Ls (x :: st)) : GoB wf l Z y code ml ret R Q k n h pc Ls (.int j :: .ref a :: st) := by
  subst hq hi
  obtain ⟨cl, A, r, r2⟩ := A
  have hv := own_at r hx
  have hin := own_in r hj rfl (List.getElem?_eq_some_iff.mp hx).1
  exact g.pure fun p e s m args below meth c K T L k' n' X hT t rr => X.aaload K.1 (cell := cl) (v := x) (ty := .array ty) (by rw [hT]; exact A.1) (State.isArrayOf_alike K.2.2.1.alike A.2.1) rfl A.2.2 hin hv (g := mkF m pc Ls (.int j :: .ref a :: st)) rfl rfl (hb K.2.1 hd) t rr
theorem Go.zzlen {a : Addr} {ty : FieldType} {C : String} {vs : List Value} {z : Int32} (q : Nat) (hd : decode code pc = .ok (.arraylength, 1)) (A : Arz Z h a ty C vs) (hz : vs.length.toInt32 = z) (hq : pc + 1 = q) (g : GoB wf l Z y code ml ret R Q k n h q Ls (.int z :: st)) : GoB wf l Z y code ml ret R Q k n h pc Ls (.ref a :: st) := by
  subst hq
  obtain ⟨cl, A, r, r2⟩ := A
  subst hz
  exact g.pure fun p e s m args below meth c K T L k' n' X hT t rr => X.arraylength K.1 (cell := cl) (by rw [hT]; exact A.1) (State.isArrayOf_alike K.2.2.1.alike A.2.1) (g := mkF m pc Ls (.ref a :: st)) rfl rfl (hb K.2.1 hd) t (by rw [own_size r]; exact rr)
theorem Go.instY {i : Nat} {a : Addr} {D : String} (q : Nat) (hd : decode code pc = .ok (.instanceof i, 3)) (w : (Cond.classLink y.cls i D).before a0 Z = true) (F : Ins Z h a D true) (hq : pc + 3 = q) (g : GoB wf l Z y code ml ret R Q k n h q Ls (.int 1 :: st)) : GoB wf l Z y code ml ret R Q k n h pc Ls (.ref a :: st) := by
  subst hq
  refine GoB.move (P := fun h' => h' = h) (kk := k) (nn := n) (fun h' e => e ▸ g) ?_
  intro p e s m args below meth c K T L k' n' X h1 h2 N hT
  obtain ⟨T', X', e', s'⟩ := Jvm.RoadKit.instY X K.1 K.2.2.1 K.2.2.2.1 w hT F (g := mkF m pc Ls (.ref a :: st)) rfl rfl (hb K.2.1 hd)
  exact ⟨T', L, k', n', X', h1, h2, N, e', s'⟩
/-- the parts of the word 'methodLink' where the reference names an interface -/
theorem own_entry {args : Array Value} {s : State} {cls : String} {x : MethodName} {index d c : Nat} {ck ok : Class} {meth : Method} {mf : MethodId} (w : (Cond.methodLink cls index x).before args s = true) (hd : s.vm.findClass cls = some d) (hc : s.vm.findClass x.cls = some c) (hck : s.vm.classes[c]? = some ck) (hi : ck.isInterface = true)
    (hf : s.methodFound? x.cls x.name x.desc = some mf) (hok : s.vm.classes[mf.cls]? = some ok) (hme : s.vm.method? mf = some meth) (hcn : x.name ≠ "clone") :
    ∃ (ci : Nat) (dk : Class), s.vm.classes[d]? = some dk ∧ s.memberEntry? cls index = some (ci, true) ∧ s.classLinks cls ci x.cls = some true ∧ s.names cls index (.method x.cls x.name x.desc) = true ∧ s.openOr cls index (.method mf) = true ∧ ok.loader = none ∧ s.vm.Plain meth.accessFlags mf.cls ok c d dk ∧ x.cls ≠ "java/lang/invoke/MethodHandle" ∧ x.cls ≠ "java/lang/invoke/VarHandle" := by
  have v := Cond.before_iff.mp w
  simp only [Cond.value, hd, hc, hf] at v
  rcases em : s.memberEntry? cls index with _ | ⟨ci, via⟩
  · simp [em] at v
  rcases ec : s.classLinks cls ci x.cls with _ | lk
  · simp [em, ec] at v
  rcases ed : s.vm.classes[d]? with _ | dk
  · simp [em, ec, ed] at v
  simp [em, ec, ed, hck, hok, hme, hi, hcn] at v
  obtain ⟨⟨⟨⟨⟨⟨⟨rfl, n1⟩, o1⟩, rfl⟩, m1⟩, m2⟩, l1⟩, a1⟩ := v
  exact ⟨ci, dk, rfl, rfl, ec, n1, o1, l1, by simpa [Vm.Plain, plainAccess, or_assoc, and_assoc] using a1, m1, m2⟩
/-- the link of such an entry: the access is the word's own -/
theorem own_ffOf {args : Array Value} {s : State} {cls : String} {x : MethodName} {index d c : Nat} {ck ok : Class} {meth : Method} {mf : MethodId} (w : (Cond.methodLink cls index x).before args s = true) (hd : s.vm.findClass cls = some d) (hc : s.vm.findClass x.cls = some c) (hck : s.vm.classes[c]? = some ck) (hi : ck.isInterface = true) (hno : ck.findMethod x.name x.desc = none)
    (hf : s.methodFound? x.cls x.name x.desc = some mf) (hok : s.vm.classes[mf.cls]? = some ok) (hme : s.vm.method? mf = some meth) (hcn : x.name ≠ "clone") (pl : Platform) (hpl : pl.magicAccessors = ({} : Platform).magicAccessors) :
    ∃ ci, s.vm.MethodLinksFF pl d index ci c mf ∧ s.rightAt d index (.method mf) = true := by
  obtain ⟨ci, dk, ed, em, ec, en, eo, el, eP, x1, x2⟩ := own_entry w hd hc hck hi hf hok hme hcn
  have nm : ck.name = x.cls := by
    obtain ⟨k', h1, h2⟩ := Vm.findClass_spec hc
    rw [hck] at h1
    exact Option.some.inj h1 ▸ h2
  have np : ∀ z, signaturePolymorphic ck z = false := fun z => by simp [signaturePolymorphic, nm, x1, x2]
  have mi : ok.methods[mf.idx]? = some meth := by simpa [Vm.method?, hok] using hme
  obtain ⟨c', hc', CL⟩ := State.classLinks_spec hd ec pl hpl
  have ecc : c' = c := Option.some.inj (hc'.symm.trans hc)
  subst ecc
  obtain ⟨cp, hcp, hnm⟩ := State.names_spec en
  obtain ⟨dk', cf, hdk', hcf, hpool⟩ := State.poolOf?_spec hd hcp
  have edd : dk' = dk := Option.some.inj (hdk'.symm.trans ed)
  subst edd
  subst hpool
  obtain ⟨ci', nt, ht, hnt, hcln⟩ := namesOf?_method hnm
  have tag : cf.constantPool[index]? = some (.interfaceMethodref ci nt) := by
    simp only [State.memberEntry?, hcp, Option.bind_eq_bind, Option.bind_some] at em
    rcases ht with ht | ht
    · simp [ht] at em
    · have q : ci' = ci := by simpa [ht] using em
      rw [← q]; exact ht
  obtain ⟨k1, cf1, nm1, r1, g1, g2, g3, g4, -⟩ := CL.here
  have e1 : k1 = dk' := Option.some.inj (g1.symm.trans ed)
  subst e1
  have e2 : cf1 = cf := Option.some.inj (g2.symm.trans hcf)
  subst e2
  have hne : ci ≠ index := fun q => by
    subst q
    simp [ConstantPool.className?, tag] at g4
  exact ⟨ci, ⟨k1, cf1, nt, x.name, x.desc, ck, ok, meth, ed, hcf, tag, hnt, CL, hne, hck, hi, np, hno, State.faceFind_of_found hc hck hi np hno hf, hok, mi, g3.trans el.symm, eP, State.openOr_spec hd ed eo⟩, by simp [State.rightAt, ed, hcf, hnm, hf]⟩
/-- an interface call whose method a superinterface declares, by what its body is known to do -/
theorem own_iface {p : Program} {l : Launch} {e : Env} {R : Room} {s : State} {m : MethodId} {args : Array Value} {below : List Frame} {meth : Method} {c : Code} {T : State} {locs : List Loc} {cells slots : Nat} (X : Stand p l e R s m args below meth c T locs cells slots) (hexec : p.tables.exec = Jvm.exec) {own C J : String} {index count W : Nat} {x y : MethodName} {b : Addr} {cB : ClassId} {kB : Class} {g : JFrame} {argsL rest : List Value}
    (hown : s.vm.findClass own = some m.cls) (wl : (Cond.methodLink own index x).before args s = true) (wd : (Cond.declares ⟨J, x.name, x.desc⟩).before args s = true) (wf : (Cond.interfaceMethod x.cls J x.name x.desc).before args s = true) (ws : (Cond.selects C x y).before args s = true) (wi : (Cond.instanceMethod y).before args s = true) (wp : (Cond.publicMethod y).before args s = true) (wu : (Cond.unhidden C x.name x.desc).before args s = true) (wc : (Cond.castable C x.cls).before args s = true)
    (hcn : x.name ≠ "clone") (hJ : x.cls ≠ J) (hB : s.vm.findClass C = some cB) (hk : s.vm.classes[cB]? = some kB) (hb : IsOf cB T b) (hg : g.method = m) (hsize : g.locals.size = c.maxLocals) (hlen : ∀ sig, parseMethodDescriptor x.desc = some sig → argsL.length = sig.parameters.length) (hst : g.stack = argsL.reverse ++ .ref b :: rest) (hW : 2 * g.monitorRoom + (rest.map fun v => v.category).sum ≤ W) (hdg : decode c.code g.pc = .ok (.invokeinterface index count, 5))
    {Pre : Pt → Array Value → Prop} {Post : Pt → Array Value → Option Value → Pt → Prop} (hK : Back l R p e below s args y 5 W Pre Post) (hpre : ∀ vm₁, s.WarmedH vm₁ → Pre ⟨T.setVm vm₁, locs, cells, slots⟩ (.ref b :: argsL).toArray) :
    ∃ (v : Option Value) (vm₁ : Vm) (B : Pt), s.WarmedH vm₁ ∧ Stand p l e R s m args below meth c B.U B.locs B.cells B.slots ∧ Post ⟨T.setVm vm₁, locs, cells, slots⟩ (.ref b :: argsL).toArray v B ∧ Steps p.tables e below (T.setTop g) (B.U.setTop { g with pc := g.pc + 5, stack := v.toList ++ rest }) := by
  have hpl : e.platform.magicAccessors = ({} : Platform).magicAccessors := by rw [X.admits.platform]
  -- who is meant, who is called
  obtain ⟨r0, r, nR, mR, sR, sigR⟩ := Cond.declares_spec wd
  obtain ⟨cI, kI, r1, fI, gI, iI, found, nR1⟩ := Cond.interfaceMethod_spec wf
  obtain rfl : r1 = r0 := Option.some.inj (nR1.symm.trans nR)
  obtain ⟨t, methT, nT, mT, -, aT⟩ := Cond.instanceMethod_spec wi
  have pT := Cond.publicMethod_spec nT mT wp
  obtain ⟨cB', r2, t', q1, q2, q3, sel, -⟩ := Cond.selects_spec ws
  obtain rfl : cB' = cB := Option.some.inj (q1.symm.trans hB)
  obtain rfl : r2 = r1 := Option.some.inj (q2.symm.trans found)
  obtain rfl : t' = t := Option.some.inj (q3.symm.trans nT)
  obtain ⟨c3, cI', u1, u2, asg⟩ := Cond.castable_spec wc
  obtain rfl : c3 = cB' := Option.some.inj (u1.symm.trans hB)
  obtain rfl : cI' = cI := Option.some.inj (u2.symm.trans fI)
  obtain ⟨cell, hcell, hcls, hns⟩ := hb
  subst hcls
  obtain ⟨nmR, dsR⟩ := name_of_methodNamed nR mR
  obtain ⟨ok, hok, okn⟩ := className_of_methodNamed nR
  -- the interface named declares it not
  have hno : kI.findMethod x.name x.desc = none := by
    rcases hj : kI.findMethod x.name x.desc with _ | j
    · rfl
    · obtain ⟨k', h1, h2⟩ := Vm.findClass_spec fI
      rw [gI] at h1
      have nmI : kI.name = x.cls := Option.some.inj h1 ▸ h2
      obtain ⟨-, -, -, -, -, -, -, -, -, x1, x2⟩ := own_entry wl hown fI gI iI found hok mR hcn
      have np : ∀ z, signaturePolymorphic kI z = false := fun z => by simp [signaturePolymorphic, nmI, x1, x2]
      have lt : (kI.methods[j]?).isSome := by
        have := (Array.findIdx?_eq_some_iff_getElem.mp hj).1
        simp [this]
      have q := State.methodFound?_declared fI gI np hj lt
      rw [found] at q
      have q' : r2.cls = cI' := by rw [Option.some.inj q]
      rw [q', gI] at hok
      exact absurd (nmI.symm.trans (Option.some.inj hok ▸ okn)) hJ
  obtain ⟨ci, FF, rt⟩ := own_ffOf wl hown fI gI iI hno found hok mR hcn e.platform hpl
  have E := State.methodEntryFF (e := e) X.warmed FF rt
  have al := E.warmed.alike
  obtain ⟨dk, cf, nt, _, _, ck, _, _, d1, d2, d3, -, -, -, d4, d5, -⟩ := FF.here
  obtain ⟨dk2, d6, d7⟩ := E.classReady
  obtain ⟨dk3, d8, d9⟩ := al.2.2 _ _ d1
  obtain rfl : dk3 = dk2 := Option.some.inj (d8.symm.trans d6)
  obtain ⟨ck2, d10, d11⟩ := al.2.2 _ _ d4
  obtain ⟨kB2, d12, -⟩ := al.2.2 _ _ hk
  have way : ((cell.cls :: s.vm.superclasses cell.cls).any fun k => (declaredIn s.vm r.name r.desc k).any fun (_, z) => z.isPrivate || z.isStatic) = false := by
    rw [nmR, dsR]; exact Cond.unhidden_spec hB wu
  have sel' : selectMethod e.platform s.vm cell.cls r2 = .method t' := by rw [Launch.admits_selectMethod X.admits]; exact sel
  have X1 := X.noted E.warmed
  obtain ⟨v, B, X', po, st'⟩ := hK m meth c ⟨T.setVm (T.vm.calledUp m.cls ci index cI' r2), locs, cells, slots⟩ { g with stack := rest } (.invokeinterface index count) t' (.ref b :: argsL).toArray X1 hg hsize hdg hW (X1.named nT) (hpre _ E.warmed)
  refine ⟨v, _, B, E.warmed, X', po, Steps.trans ?_ st'⟩
  subst hg
  have way' : ((cell.cls :: (T.vm.calledUp g.method.cls ci index cI' r2).superclasses cell.cls).any fun k => (declaredIn (T.vm.calledUp g.method.cls ci index cI' r2) r.name r.desc k).any fun (_, z) => z.isPrivate || z.isStatic) = false := by
    simp only [al.superclasses, al.declaredIn]; exact way
  jvm_step X.here [hexec, hdg, invokeinterface.wp_coldFace (e := e) (s := T) (s₀ := s) (f := g) (count := count) X.here.top X.warmed E d1 d2 (Or.inr d3) d4 d5,
    invokeinterface.wp_ready (e := e) (s := T.setVm (T.vm.calledUp g.method.cls ci index cI' r2)) (f := g) (count := count) (args := argsL) (rest := rest) (ci := ci) (nt := nt) (named := cI') (meth := methT) (m := t') (r := r) (cell := cell) (kcell := kB2) (ck := dk3) (nk := ck2) (cf := cf)
      X.here.top E.ready ((al.method? _).trans mR) sR (hlen _ sigR) hst hcell (fun q h => by rw [h] at hns; cases hns) d12 d6 (by rw [d9]; exact d2) d3 d7 d10 (by rw [d11]; exact d5) ((al.assignable _ _).trans asg) ((al.selectMethod ..).trans sel') ((al.method? _).trans mT) (Or.inr (Or.inr way')) (Or.inl pT) aT]
  intro acts
  rw [doInvoke_state]
  exact Steps.refl _
theorem own_mv1 {s : State} {args : Array Value} {y' : MethodName} (hZ : Z.Warmed39 s.vm) (w : (Cond.publicMethod y').before a0 Z = true) : (Cond.publicMethod y').before args s = true := by
  first | exact mvT hZ w | (have h1 : (Cond.publicMethod y').before a0 (Z.setVm s.vm) = true := Cond.rides hZ rfl w; exact h1)
theorem own_mv2 {s : State} {args : Array Value} {C nm d : String} (hZ : Z.Warmed39 s.vm) (w : (Cond.unhidden C nm d).before a0 Z = true) : (Cond.unhidden C nm d).before args s = true := by
  first | exact mvT hZ w | (have h1 : (Cond.unhidden C nm d).before a0 (Z.setVm s.vm) = true := Cond.rides hZ rfl w; exact h1)
theorem own_mv3 {s : State} {args : Array Value} {C D : String} (hZ : Z.Warmed39 s.vm) (w : (Cond.castable C D).before a0 Z = true) : (Cond.castable C D).before args s = true := by
  first | exact mvT hZ w | (have h1 : (Cond.castable C D).before a0 (Z.setVm s.vm) = true := Cond.rides hZ rfl w; exact h1)
theorem own_mv4 {s : State} {args : Array Value} {C D nm d : String} (hZ : Z.Warmed39 s.vm) (w : (Cond.interfaceMethod C D nm d).before a0 Z = true) : (Cond.interfaceMethod C D nm d).before args s = true := Jvm.Free.ULB.iface_rides hZ.alike w
theorem Go.callFIp {y' : MethodName} {code' : ByteArray} {ml' : Nat} {ret' : Option FieldType} {R' : Room} {Ls' : Array Slot} {i : Nat} {a : Addr} {C J : String} {count : Nat} {yr : MethodName} (argsL : List Value) (rest : List Value) (q : Nat) (hd : decode code pc = .ok (.invokeinterface i count, 5)) (w1 : (Cond.methodLink y.cls i yr).before a0 Z = true) (w1d : (Cond.declares ⟨J, yr.name, yr.desc⟩).before a0 Z = true) (w1f : (Cond.interfaceMethod yr.cls J yr.name yr.desc).before a0 Z = true) (hcn : yr.name ≠ "clone") (hxo : yr.cls ≠ J) (w1s : (Cond.selects C yr y').before a0 Z = true) (w2 : (Cond.instanceMethod y').before a0 Z = true) (w2p : (Cond.publicMethod y').before a0 Z = true) (w2u : (Cond.unhidden C yr.name yr.desc).before a0 Z = true) (w2c : (Cond.castable C yr.cls).before a0 Z = true) (w3 : (Cond.initialized y'.cls).before a0 Z = true) (w4 : (Cond.code y' code' ml' ret').before a0 Z = true) (E : Exa Z h a C)
    (hpl : plainFor y' = true) (hy : yr.cls ≠ "java/lang/invoke/MethodHandle" ∧ yr.cls ≠ "java/lang/invoke/VarHandle") (hlen : ∀ sig, parseMethodDescriptor yr.desc = some sig → argsL.length = sig.parameters.length) (hst : st = argsL.reverse ++ .ref a :: rest) (hent : ∀ m, entryFrame m (.ref a :: argsL).toArray ml' = mkF m 0 Ls' [])
    (F : Int32) (G : Go l Z y' code' ml' ret' R' (QI fun z h' => z = F ∧ h' = h) 0 0 h 0 Ls' []) (W : Nat) (hsz : Ls.size = ml) (hW : (rest.map fun v => v.category).sum ≤ W) (hf : R'.frames + 1 ≤ R.frames) (hl : W + (ml' + 11) + R'.locals ≤ R.locals) (hk : k + R'.cells ≤ R.cells) (hN : n + R'.slots ≤ R.slots) (hq : pc + 5 = q)
    (g : GoB wf l Z y code ml ret R Q (k + R'.cells) (n + R'.slots) h q Ls (.int F :: rest)) : GoB wf l Z y code ml ret R Q k n h pc Ls st := by
  subst hq
  intro p e s m args below meth c K T L k' n' X h1 h2 N hT
  obtain ⟨cq, kq, qa, qb, qc⟩ := isOf K.2.2.1 hT E
  obtain ⟨v, vm₁, ⟨T', L', k'', n''⟩, -, X', ⟨Lc, ⟨⟨z, hz, hzF, hQ⟩, N'⟩, e1, e2, e3⟩, s'⟩ := own_iface X K.1 (g := mkF m pc Ls st) (argsL := argsL) (rest := rest) K.2.2.2.1 (mvT K.2.2.1 w1) (mvT K.2.2.1 w1d) (own_mv4 K.2.2.1 w1f) (mvT K.2.2.1 w1s) (mvT K.2.2.1 w2) (own_mv1 K.2.2.1 w2p) (own_mv2 K.2.2.1 w2u) (own_mv3 K.2.2.1 w2c) hcn hxo qa qb qc rfl (hsz.trans K.2.2.2.2.1.symm) hlen hst (by show 2 * 0 + _ ≤ _; rw [Nat.mul_zero, Nat.zero_add]; exact hW) (hb K.2.1 hd) (backOf (W := W) (Q := fun v hh L => QI (fun z h' => z = F ∧ h' = h) v hh ∧ Fr Z.heap.size L) (Go.met hpl hent G []) K.2.2.1 w4 w3 hf hl) (fun _ _ => ⟨rfl, hT, Nat.le_trans (Nat.add_le_add_right h1 _) hk, Nat.le_trans (Nat.add_le_add_right h2 _) hN⟩)
  dsimp only [Pt.U, Pt.locs, Pt.cells, Pt.slots] at X' e1 e2 e3 s' hQ
  subst e1 e2 e3 hz hzF
  obtain ⟨s2, v2, T2, L2, k2, n2, ok2, X2, b1, b2, N2, q2, hv, stp⟩ := g p e s m args below meth c K T' _ _ _ X' (Nat.add_le_add_right h1 _) (Nat.add_le_add_right h2 _) (Fr.app N N') hQ
  exact ⟨s2, v2, T2, L2, k2, n2, ok2, X2, b1, b2, N2, q2, hv, fun fs hl => s'.trans (stp fs hl)⟩
end Laws2
end Jvm.OwnGo

namespace Jvm.Pilot.@@N@@
open Jvm Jvm.ClassFile Sem Op Lib Jvm.Free Jvm.Stand Jvm.LawKit Jvm.RoadKit Bundle Jvm.OwnGo Jvm.Pilot.@@N@@.Jvm.D
theorem pnx : plainName x.cls = true := by first | (simp [x, plainName, overriddenIn]; done) | decide +kernel
theorem tw0 {a0 : Array Value} {Z : State} (hw : ∀ d ∈ tables_1, d.before a0 Z = true) : ((Jvm.Cond.classLink "com/example/interlace/interlace/engine/FloorsSetPinLaw" (7 : Nat) "com/example/interlace/interlace/engine/Floors")).before a0 Z = true := hw _ (List.mem_of_getElem? (i := 0) rfl)
theorem tw1 {a0 : Array Value} {Z : State} (hw : ∀ d ∈ tables_1, d.before a0 Z = true) : ((Jvm.Cond.instantiable "com/example/interlace/interlace/engine/Floors" (4 : Nat))).before a0 Z = true := hw _ (List.mem_of_getElem? (i := 1) rfl)
theorem tw2 {a0 : Array Value} {Z : State} (hw : ∀ d ∈ tables_1, d.before a0 Z = true) : ((Jvm.Cond.initialized "com/example/interlace/interlace/engine/Floors")).before a0 Z = true := hw _ (List.mem_of_getElem? (i := 2) rfl)
theorem tw3 {a0 : Array Value} {Z : State} (hw : ∀ d ∈ tables_1, d.before a0 Z = true) : ((Jvm.Cond.methodLink "com/example/interlace/interlace/engine/FloorsSetPinLaw" (9 : Nat) ({ cls := "com/example/interlace/interlace/engine/Floors", name := "<init>", desc := "(I)V" } : Jvm.MethodName))).before a0 Z = true := hw _ (List.mem_of_getElem? (i := 3) rfl)
theorem tw4 {a0 : Array Value} {Z : State} (hw : ∀ d ∈ tables_1, d.before a0 Z = true) : ((Jvm.Cond.instanceMethod ({ cls := "com/example/interlace/interlace/engine/Floors", name := "<init>", desc := "(I)V" } : Jvm.MethodName))).before a0 Z = true := hw _ (List.mem_of_getElem? (i := 4) rfl)
theorem tw5 {a0 : Array Value} {Z : State} (hw : ∀ d ∈ tables_1, d.before a0 Z = true) : ((Jvm.Cond.code ({ cls := "com/example/interlace/interlace/engine/Floors", name := "<init>", desc := "(I)V" } : Jvm.MethodName) prog_34_method_1_code (2 : Nat) (Option.none : Option Jvm.ClassFile.FieldType))).before a0 Z = true := hw _ (List.mem_of_getElem? (i := 5) rfl)
theorem tw6 {a0 : Array Value} {Z : State} (hw : ∀ d ∈ tables_1, d.before a0 Z = true) : ((Jvm.Cond.methodLink "com/example/interlace/interlace/engine/Floors" (1 : Nat) ({ cls := "java/lang/Object", name := "<init>", desc := "()V" } : Jvm.MethodName))).before a0 Z = true := hw _ (List.mem_of_getElem? (i := 6) rfl)
theorem tw7 {a0 : Array Value} {Z : State} (hw : ∀ d ∈ tables_1, d.before a0 Z = true) : ((Jvm.Cond.instanceMethod ({ cls := "java/lang/Object", name := "<init>", desc := "()V" } : Jvm.MethodName))).before a0 Z = true := hw _ (List.mem_of_getElem? (i := 7) rfl)
theorem tw8 {a0 : Array Value} {Z : State} (hw : ∀ d ∈ tables_1, d.before a0 Z = true) : ((Jvm.Cond.code ({ cls := "java/lang/Object", name := "<init>", desc := "()V" } : Jvm.MethodName) object_method_1_code (1 : Nat) (Option.none : Option Jvm.ClassFile.FieldType))).before a0 Z = true := hw _ (List.mem_of_getElem? (i := 8) rfl)
theorem tw9 {a0 : Array Value} {Z : State} (hw : ∀ d ∈ tables_1, d.before a0 Z = true) : ((Jvm.Cond.arrayClass Jvm.ClassFile.FieldType.long)).before a0 Z = true := hw _ (List.mem_of_getElem? (i := 9) rfl)
theorem tw10 {a0 : Array Value} {Z : State} (hw : ∀ d ∈ tables_1, d.before a0 Z = true) : ((Jvm.Cond.fieldLink "com/example/interlace/interlace/engine/Floors" (7 : Nat) "com/example/interlace/interlace/engine/Floors" "floors" "[J")).before a0 Z = true := hw _ (List.mem_of_getElem? (i := 10) rfl)
theorem tw11 {a0 : Array Value} {Z : State} (hw : ∀ d ∈ tables_1, d.before a0 Z = true) : ((Jvm.Cond.laysFinal "com/example/interlace/interlace/engine/Floors" "com/example/interlace/interlace/engine/Floors" "floors" "[J")).before a0 Z = true := hw _ (List.mem_of_getElem? (i := 11) rfl)
theorem tw12 {a0 : Array Value} {Z : State} (hw : ∀ d ∈ tables_1, d.before a0 Z = true) : ((Jvm.Cond.arrayClass Jvm.ClassFile.FieldType.boolean)).before a0 Z = true := hw _ (List.mem_of_getElem? (i := 12) rfl)
theorem tw13 {a0 : Array Value} {Z : State} (hw : ∀ d ∈ tables_1, d.before a0 Z = true) : ((Jvm.Cond.fieldLink "com/example/interlace/interlace/engine/Floors" (13 : Nat) "com/example/interlace/interlace/engine/Floors" "hasFloor" "[Z")).before a0 Z = true := hw _ (List.mem_of_getElem? (i := 13) rfl)
theorem tw14 {a0 : Array Value} {Z : State} (hw : ∀ d ∈ tables_1, d.before a0 Z = true) : ((Jvm.Cond.laysFinal "com/example/interlace/interlace/engine/Floors" "com/example/interlace/interlace/engine/Floors" "hasFloor" "[Z")).before a0 Z = true := hw _ (List.mem_of_getElem? (i := 14) rfl)
theorem tw15 {a0 : Array Value} {Z : State} (hw : ∀ d ∈ tables_1, d.before a0 Z = true) : ((Jvm.Cond.classLink "com/example/interlace/interlace/engine/Floors" (17 : Nat) "[J")).before a0 Z = true := hw _ (List.mem_of_getElem? (i := 15) rfl)
theorem tw16 {a0 : Array Value} {Z : State} (hw : ∀ d ∈ tables_1, d.before a0 Z = true) : ((Jvm.Cond.arrayOver (Jvm.ClassFile.FieldType.array Jvm.ClassFile.FieldType.long))).before a0 Z = true := hw _ (List.mem_of_getElem? (i := 16) rfl)
theorem tw17 {a0 : Array Value} {Z : State} (hw : ∀ d ∈ tables_1, d.before a0 Z = true) : ((Jvm.Cond.fieldLink "com/example/interlace/interlace/engine/Floors" (18 : Nat) "com/example/interlace/interlace/engine/Floors" "rests" "[[J")).before a0 Z = true := hw _ (List.mem_of_getElem? (i := 17) rfl)
theorem tw18 {a0 : Array Value} {Z : State} (hw : ∀ d ∈ tables_1, d.before a0 Z = true) : ((Jvm.Cond.laysFinal "com/example/interlace/interlace/engine/Floors" "com/example/interlace/interlace/engine/Floors" "rests" "[[J")).before a0 Z = true := hw _ (List.mem_of_getElem? (i := 18) rfl)
theorem tw19 {a0 : Array Value} {Z : State} (hw : ∀ d ∈ tables_1, d.before a0 Z = true) : ((Jvm.Cond.methodLink "com/example/interlace/interlace/engine/FloorsSetPinLaw" (12 : Nat) ({ cls := "com/example/interlace/interlace/engine/Floors", name := "clear", desc := "(J)V" } : Jvm.MethodName))).before a0 Z = true := hw _ (List.mem_of_getElem? (i := 19) rfl)
theorem tw20 {a0 : Array Value} {Z : State} (hw : ∀ d ∈ tables_1, d.before a0 Z = true) : ((Jvm.Cond.declares ({ cls := "com/example/interlace/interlace/engine/Floors", name := "clear", desc := "(J)V" } : Jvm.MethodName))).before a0 Z = true := hw _ (List.mem_of_getElem? (i := 20) rfl)
theorem tw21 {a0 : Array Value} {Z : State} (hw : ∀ d ∈ tables_1, d.before a0 Z = true) : ((Jvm.Cond.instanceMethod ({ cls := "com/example/interlace/interlace/engine/Floors", name := "clear", desc := "(J)V" } : Jvm.MethodName))).before a0 Z = true := hw _ (List.mem_of_getElem? (i := 21) rfl)
theorem tw22 {a0 : Array Value} {Z : State} (hw : ∀ d ∈ tables_1, d.before a0 Z = true) : ((Jvm.Cond.selects "com/example/interlace/interlace/engine/Floors" ({ cls := "com/example/interlace/interlace/engine/Floors", name := "clear", desc := "(J)V" } : Jvm.MethodName) ({ cls := "com/example/interlace/interlace/engine/Floors", name := "clear", desc := "(J)V" } : Jvm.MethodName))).before a0 Z = true := hw _ (List.mem_of_getElem? (i := 22) rfl)
theorem tw23 {a0 : Array Value} {Z : State} (hw : ∀ d ∈ tables_1, d.before a0 Z = true) : ((Jvm.Cond.code ({ cls := "com/example/interlace/interlace/engine/Floors", name := "clear", desc := "(J)V" } : Jvm.MethodName) prog_34_method_2_code (3 : Nat) (Option.none : Option Jvm.ClassFile.FieldType))).before a0 Z = true := hw _ (List.mem_of_getElem? (i := 23) rfl)
theorem tw24 {a0 : Array Value} {Z : State} (hw : ∀ d ∈ tables_1, d.before a0 Z = true) : ((Jvm.Cond.fieldLink "com/example/interlace/interlace/engine/Floors" (22 : Nat) "com/example/interlace/interlace/engine/Floors" "latest" "J")).before a0 Z = true := hw _ (List.mem_of_getElem? (i := 24) rfl)
theorem tw25 {a0 : Array Value} {Z : State} (hw : ∀ d ∈ tables_1, d.before a0 Z = true) : ((Jvm.Cond.lays "com/example/interlace/interlace/engine/Floors" "com/example/interlace/interlace/engine/Floors" "latest" "J")).before a0 Z = true := hw _ (List.mem_of_getElem? (i := 25) rfl)
theorem tw26 {a0 : Array Value} {Z : State} (hw : ∀ d ∈ tables_1, d.before a0 Z = true) : ((Jvm.Cond.methodLink "com/example/interlace/interlace/engine/Floors" (26 : Nat) ({ cls := "java/util/Arrays", name := "fill", desc := "([ZZ)V" } : Jvm.MethodName))).before a0 Z = true := hw _ (List.mem_of_getElem? (i := 26) rfl)
theorem tw27 {a0 : Array Value} {Z : State} (hw : ∀ d ∈ tables_1, d.before a0 Z = true) : ((Jvm.Cond.static ({ cls := "java/util/Arrays", name := "fill", desc := "([ZZ)V" } : Jvm.MethodName))).before a0 Z = true := hw _ (List.mem_of_getElem? (i := 27) rfl)
theorem tw28 {a0 : Array Value} {Z : State} (hw : ∀ d ∈ tables_1, d.before a0 Z = true) : ((Jvm.Cond.initialized "java/util/Arrays")).before a0 Z = true := hw _ (List.mem_of_getElem? (i := 28) rfl)
theorem tw29 {a0 : Array Value} {Z : State} (hw : ∀ d ∈ tables_1, d.before a0 Z = true) : ((Jvm.Cond.code ({ cls := "java/util/Arrays", name := "fill", desc := "([ZZ)V" } : Jvm.MethodName) jdk_65_method_111_code (4 : Nat) (Option.none : Option Jvm.ClassFile.FieldType))).before a0 Z = true := hw _ (List.mem_of_getElem? (i := 29) rfl)
theorem tw30 {a0 : Array Value} {Z : State} (hw : ∀ d ∈ tables_1, d.before a0 Z = true) : ((Jvm.Cond.methodLink "com/example/interlace/interlace/engine/Floors" (32 : Nat) ({ cls := "java/util/Arrays", name := "fill", desc := "([Ljava/lang/Object;Ljava/lang/Object;)V" } : Jvm.MethodName))).before a0 Z = true := hw _ (List.mem_of_getElem? (i := 30) rfl)
theorem tw31 {a0 : Array Value} {Z : State} (hw : ∀ d ∈ tables_1, d.before a0 Z = true) : ((Jvm.Cond.static ({ cls := "java/util/Arrays", name := "fill", desc := "([Ljava/lang/Object;Ljava/lang/Object;)V" } : Jvm.MethodName))).before a0 Z = true := hw _ (List.mem_of_getElem? (i := 31) rfl)
theorem tw32 {a0 : Array Value} {Z : State} (hw : ∀ d ∈ tables_1, d.before a0 Z = true) : ((Jvm.Cond.code ({ cls := "java/util/Arrays", name := "fill", desc := "([Ljava/lang/Object;Ljava/lang/Object;)V" } : Jvm.MethodName) jdk_65_method_117_code (4 : Nat) (Option.none : Option Jvm.ClassFile.FieldType))).before a0 Z = true := hw _ (List.mem_of_getElem? (i := 32) rfl)
theorem tw33 {a0 : Array Value} {Z : State} (hw : ∀ d ∈ tables_1, d.before a0 Z = true) : ((Jvm.Cond.methodLink "com/example/interlace/interlace/engine/FloorsSetPinLaw" (16 : Nat) ({ cls := "com/example/interlace/interlace/engine/Floors", name := "set", desc := "(IJ)V" } : Jvm.MethodName))).before a0 Z = true := hw _ (List.mem_of_getElem? (i := 33) rfl)
theorem tw34 {a0 : Array Value} {Z : State} (hw : ∀ d ∈ tables_1, d.before a0 Z = true) : ((Jvm.Cond.declares ({ cls := "com/example/interlace/interlace/engine/Floors", name := "set", desc := "(IJ)V" } : Jvm.MethodName))).before a0 Z = true := hw _ (List.mem_of_getElem? (i := 34) rfl)
theorem tw35 {a0 : Array Value} {Z : State} (hw : ∀ d ∈ tables_1, d.before a0 Z = true) : ((Jvm.Cond.instanceMethod ({ cls := "com/example/interlace/interlace/engine/Floors", name := "set", desc := "(IJ)V" } : Jvm.MethodName))).before a0 Z = true := hw _ (List.mem_of_getElem? (i := 35) rfl)
theorem tw36 {a0 : Array Value} {Z : State} (hw : ∀ d ∈ tables_1, d.before a0 Z = true) : ((Jvm.Cond.selects "com/example/interlace/interlace/engine/Floors" ({ cls := "com/example/interlace/interlace/engine/Floors", name := "set", desc := "(IJ)V" } : Jvm.MethodName) ({ cls := "com/example/interlace/interlace/engine/Floors", name := "set", desc := "(IJ)V" } : Jvm.MethodName))).before a0 Z = true := hw _ (List.mem_of_getElem? (i := 36) rfl)
theorem tw37 {a0 : Array Value} {Z : State} (hw : ∀ d ∈ tables_1, d.before a0 Z = true) : ((Jvm.Cond.code ({ cls := "com/example/interlace/interlace/engine/Floors", name := "set", desc := "(IJ)V" } : Jvm.MethodName) prog_34_method_3_code (4 : Nat) (Option.none : Option Jvm.ClassFile.FieldType))).before a0 Z = true := hw _ (List.mem_of_getElem? (i := 37) rfl)
theorem tw38 {a0 : Array Value} {Z : State} (hw : ∀ d ∈ tables_1, d.before a0 Z = true) : ((Jvm.Cond.classLink "com/example/interlace/interlace/engine/FloorsSetPinLaw" (20 : Nat) "com/example/interlace/interlace/engine/Plan$Required")).before a0 Z = true := hw _ (List.mem_of_getElem? (i := 38) rfl)
theorem tw39 {a0 : Array Value} {Z : State} (hw : ∀ d ∈ tables_1, d.before a0 Z = true) : ((Jvm.Cond.instantiable "com/example/interlace/interlace/engine/Plan$Required" (3 : Nat))).before a0 Z = true := hw _ (List.mem_of_getElem? (i := 39) rfl)
theorem tw40 {a0 : Array Value} {Z : State} (hw : ∀ d ∈ tables_1, d.before a0 Z = true) : ((Jvm.Cond.initialized "com/example/interlace/interlace/engine/Plan$Required")).before a0 Z = true := hw _ (List.mem_of_getElem? (i := 40) rfl)
theorem tw41 {a0 : Array Value} {Z : State} (hw : ∀ d ∈ tables_1, d.before a0 Z = true) : ((Jvm.Cond.classLink "com/example/interlace/interlace/engine/FloorsSetPinLaw" (22 : Nat) "com/example/interlace/interlace/pattern/Structure$Leaf")).before a0 Z = true := hw _ (List.mem_of_getElem? (i := 41) rfl)
theorem tw42 {a0 : Array Value} {Z : State} (hw : ∀ d ∈ tables_1, d.before a0 Z = true) : ((Jvm.Cond.instantiable "com/example/interlace/interlace/pattern/Structure$Leaf" (1 : Nat))).before a0 Z = true := hw _ (List.mem_of_getElem? (i := 42) rfl)
theorem tw43 {a0 : Array Value} {Z : State} (hw : ∀ d ∈ tables_1, d.before a0 Z = true) : ((Jvm.Cond.initialized "com/example/interlace/interlace/pattern/Structure$Leaf")).before a0 Z = true := hw _ (List.mem_of_getElem? (i := 43) rfl)
theorem tw44 {a0 : Array Value} {Z : State} (hw : ∀ d ∈ tables_1, d.before a0 Z = true) : ((Jvm.Cond.methodLink "com/example/interlace/interlace/engine/FloorsSetPinLaw" (24 : Nat) ({ cls := "com/example/interlace/interlace/pattern/Structure$Leaf", name := "<init>", desc := "(I)V" } : Jvm.MethodName))).before a0 Z = true := hw _ (List.mem_of_getElem? (i := 44) rfl)
theorem tw45 {a0 : Array Value} {Z : State} (hw : ∀ d ∈ tables_1, d.before a0 Z = true) : ((Jvm.Cond.instanceMethod ({ cls := "com/example/interlace/interlace/pattern/Structure$Leaf", name := "<init>", desc := "(I)V" } : Jvm.MethodName))).before a0 Z = true := hw _ (List.mem_of_getElem? (i := 45) rfl)
theorem tw46 {a0 : Array Value} {Z : State} (hw : ∀ d ∈ tables_1, d.before a0 Z = true) : ((Jvm.Cond.code ({ cls := "com/example/interlace/interlace/pattern/Structure$Leaf", name := "<init>", desc := "(I)V" } : Jvm.MethodName) prog_83_method_1_code (2 : Nat) (Option.none : Option Jvm.ClassFile.FieldType))).before a0 Z = true := hw _ (List.mem_of_getElem? (i := 46) rfl)
theorem tw47 {a0 : Array Value} {Z : State} (hw : ∀ d ∈ tables_1, d.before a0 Z = true) : ((Jvm.Cond.methodLink "com/example/interlace/interlace/pattern/Structure$Leaf" (1 : Nat) ({ cls := "java/lang/Record", name := "<init>", desc := "()V" } : Jvm.MethodName))).before a0 Z = true := hw _ (List.mem_of_getElem? (i := 47) rfl)
theorem tw48 {a0 : Array Value} {Z : State} (hw : ∀ d ∈ tables_1, d.before a0 Z = true) : ((Jvm.Cond.instanceMethod ({ cls := "java/lang/Record", name := "<init>", desc := "()V" } : Jvm.MethodName))).before a0 Z = true := hw _ (List.mem_of_getElem? (i := 48) rfl)
theorem tw50 {a0 : Array Value} {Z : State} (hw : ∀ d ∈ tables_1, d.before a0 Z = true) : ((Jvm.Cond.initialized "java/lang/Record")).before a0 Z = true := hw _ (List.mem_of_getElem? (i := 50) rfl)
theorem tw51 {a0 : Array Value} {Z : State} (hw : ∀ d ∈ tables_1, d.before a0 Z = true) : ((Jvm.Cond.code ({ cls := "java/lang/Record", name := "<init>", desc := "()V" } : Jvm.MethodName) jdk_30_method_1_code (1 : Nat) (Option.none : Option Jvm.ClassFile.FieldType))).before a0 Z = true := hw _ (List.mem_of_getElem? (i := 51) rfl)
theorem tw52 {a0 : Array Value} {Z : State} (hw : ∀ d ∈ tables_1, d.before a0 Z = true) : ((Jvm.Cond.methodLink "java/lang/Record" (1 : Nat) ({ cls := "java/lang/Object", name := "<init>", desc := "()V" } : Jvm.MethodName))).before a0 Z = true := hw _ (List.mem_of_getElem? (i := 52) rfl)
theorem tw53 {a0 : Array Value} {Z : State} (hw : ∀ d ∈ tables_1, d.before a0 Z = true) : ((Jvm.Cond.fieldLink "com/example/interlace/interlace/pattern/Structure$Leaf" (7 : Nat) "com/example/interlace/interlace/pattern/Structure$Leaf" "variable" "I")).before a0 Z = true := hw _ (List.mem_of_getElem? (i := 53) rfl)
theorem tw54 {a0 : Array Value} {Z : State} (hw : ∀ d ∈ tables_1, d.before a0 Z = true) : ((Jvm.Cond.laysFinal "com/example/interlace/interlace/pattern/Structure$Leaf" "com/example/interlace/interlace/pattern/Structure$Leaf" "variable" "I")).before a0 Z = true := hw _ (List.mem_of_getElem? (i := 54) rfl)
theorem tw55 {a0 : Array Value} {Z : State} (hw : ∀ d ∈ tables_1, d.before a0 Z = true) : ((Jvm.Cond.methodLink "com/example/interlace/interlace/engine/FloorsSetPinLaw" (25 : Nat) ({ cls := "com/example/interlace/interlace/engine/Plan$Required", name := "<init>", desc := "(Lcom/example/interlace/interlace/pattern/Structure;ZLcom/example/interlace/interlace/engine/Plan$Required;)V" } : Jvm.MethodName))).before a0 Z = true := hw _ (List.mem_of_getElem? (i := 55) rfl)
theorem tw56 {a0 : Array Value} {Z : State} (hw : ∀ d ∈ tables_1, d.before a0 Z = true) : ((Jvm.Cond.instanceMethod ({ cls := "com/example/interlace/interlace/engine/Plan$Required", name := "<init>", desc := "(Lcom/example/interlace/interlace/pattern/Structure;ZLcom/example/interlace/interlace/engine/Plan$Required;)V" } : Jvm.MethodName))).before a0 Z = true := hw _ (List.mem_of_getElem? (i := 56) rfl)
theorem tw57 {a0 : Array Value} {Z : State} (hw : ∀ d ∈ tables_1, d.before a0 Z = true) : ((Jvm.Cond.code ({ cls := "com/example/interlace/interlace/engine/Plan$Required", name := "<init>", desc := "(Lcom/example/interlace/interlace/pattern/Structure;ZLcom/example/interlace/interlace/engine/Plan$Required;)V" } : Jvm.MethodName) prog_47_method_1_code (4 : Nat) (Option.none : Option Jvm.ClassFile.FieldType))).before a0 Z = true := hw _ (List.mem_of_getElem? (i := 57) rfl)
theorem tw58 {a0 : Array Value} {Z : State} (hw : ∀ d ∈ tables_1, d.before a0 Z = true) : ((Jvm.Cond.methodLink "com/example/interlace/interlace/engine/Plan$Required" (1 : Nat) ({ cls := "java/lang/Record", name := "<init>", desc := "()V" } : Jvm.MethodName))).before a0 Z = true := hw _ (List.mem_of_getElem? (i := 58) rfl)
theorem tw59 {a0 : Array Value} {Z : State} (hw : ∀ d ∈ tables_1, d.before a0 Z = true) : ((Jvm.Cond.fieldLink "com/example/interlace/interlace/engine/Plan$Required" (7 : Nat) "com/example/interlace/interlace/engine/Plan$Required" "operand" "Lcom/example/interlace/interlace/pattern/Structure;")).before a0 Z = true := hw _ (List.mem_of_getElem? (i := 59) rfl)
theorem tw60 {a0 : Array Value} {Z : State} (hw : ∀ d ∈ tables_1, d.before a0 Z = true) : ((Jvm.Cond.laysFinal "com/example/interlace/interlace/engine/Plan$Required" "com/example/interlace/interlace/engine/Plan$Required" "operand" "Lcom/example/interlace/interlace/pattern/Structure;")).before a0 Z = true := hw _ (List.mem_of_getElem? (i := 60) rfl)
theorem tw61 {a0 : Array Value} {Z : State} (hw : ∀ d ∈ tables_1, d.before a0 Z = true) : ((Jvm.Cond.fieldLink "com/example/interlace/interlace/engine/Plan$Required" (13 : Nat) "com/example/interlace/interlace/engine/Plan$Required" "before" "Z")).before a0 Z = true := hw _ (List.mem_of_getElem? (i := 61) rfl)
theorem tw62 {a0 : Array Value} {Z : State} (hw : ∀ d ∈ tables_1, d.before a0 Z = true) : ((Jvm.Cond.laysFinal "com/example/interlace/interlace/engine/Plan$Required" "com/example/interlace/interlace/engine/Plan$Required" "before" "Z")).before a0 Z = true := hw _ (List.mem_of_getElem? (i := 62) rfl)
theorem tw63 {a0 : Array Value} {Z : State} (hw : ∀ d ∈ tables_1, d.before a0 Z = true) : ((Jvm.Cond.fieldLink "com/example/interlace/interlace/engine/Plan$Required" (17 : Nat) "com/example/interlace/interlace/engine/Plan$Required" "rest" "Lcom/example/interlace/interlace/engine/Plan$Required;")).before a0 Z = true := hw _ (List.mem_of_getElem? (i := 63) rfl)
theorem tw64 {a0 : Array Value} {Z : State} (hw : ∀ d ∈ tables_1, d.before a0 Z = true) : ((Jvm.Cond.laysFinal "com/example/interlace/interlace/engine/Plan$Required" "com/example/interlace/interlace/engine/Plan$Required" "rest" "Lcom/example/interlace/interlace/engine/Plan$Required;")).before a0 Z = true := hw _ (List.mem_of_getElem? (i := 64) rfl)
theorem tw65 {a0 : Array Value} {Z : State} (hw : ∀ d ∈ tables_1, d.before a0 Z = true) : ((Jvm.Cond.classLink "com/example/interlace/interlace/engine/FloorsSetPinLaw" (28 : Nat) "com/example/interlace/interlace/engine/Plan$Bind")).before a0 Z = true := hw _ (List.mem_of_getElem? (i := 65) rfl)
theorem tw66 {a0 : Array Value} {Z : State} (hw : ∀ d ∈ tables_1, d.before a0 Z = true) : ((Jvm.Cond.instantiable "com/example/interlace/interlace/engine/Plan$Bind" (4 : Nat))).before a0 Z = true := hw _ (List.mem_of_getElem? (i := 66) rfl)
theorem tw67 {a0 : Array Value} {Z : State} (hw : ∀ d ∈ tables_1, d.before a0 Z = true) : ((Jvm.Cond.initialized "com/example/interlace/interlace/engine/Plan$Bind")).before a0 Z = true := hw _ (List.mem_of_getElem? (i := 67) rfl)
theorem tw68 {a0 : Array Value} {Z : State} (hw : ∀ d ∈ tables_1, d.before a0 Z = true) : ((Jvm.Cond.methodLink "com/example/interlace/interlace/engine/FloorsSetPinLaw" (30 : Nat) ({ cls := "com/example/interlace/interlace/engine/Plan$Bind", name := "<init>", desc := "(I[Lcom/example/interlace/interlace/engine/Plan$Absent;Lcom/example/interlace/interlace/engine/Plan$Required;Lcom/example/interlace/interlace/engine/Plan$Step;)V" } : Jvm.MethodName))).before a0 Z = true := hw _ (List.mem_of_getElem? (i := 68) rfl)
theorem tw69 {a0 : Array Value} {Z : State} (hw : ∀ d ∈ tables_1, d.before a0 Z = true) : ((Jvm.Cond.instanceMethod ({ cls := "com/example/interlace/interlace/engine/Plan$Bind", name := "<init>", desc := "(I[Lcom/example/interlace/interlace/engine/Plan$Absent;Lcom/example/interlace/interlace/engine/Plan$Required;Lcom/example/interlace/interlace/engine/Plan$Step;)V" } : Jvm.MethodName))).before a0 Z = true := hw _ (List.mem_of_getElem? (i := 69) rfl)
theorem tw70 {a0 : Array Value} {Z : State} (hw : ∀ d ∈ tables_1, d.before a0 Z = true) : ((Jvm.Cond.code ({ cls := "com/example/interlace/interlace/engine/Plan$Bind", name := "<init>", desc := "(I[Lcom/example/interlace/interlace/engine/Plan$Absent;Lcom/example/interlace/interlace/engine/Plan$Required;Lcom/example/interlace/interlace/engine/Plan$Step;)V" } : Jvm.MethodName) prog_41_method_1_code (5 : Nat) (Option.none : Option Jvm.ClassFile.FieldType))).before a0 Z = true := hw _ (List.mem_of_getElem? (i := 70) rfl)
theorem tw71 {a0 : Array Value} {Z : State} (hw : ∀ d ∈ tables_1, d.before a0 Z = true) : ((Jvm.Cond.methodLink "com/example/interlace/interlace/engine/Plan$Bind" (1 : Nat) ({ cls := "java/lang/Record", name := "<init>", desc := "()V" } : Jvm.MethodName))).before a0 Z = true := hw _ (List.mem_of_getElem? (i := 71) rfl)
theorem tw72 {a0 : Array Value} {Z : State} (hw : ∀ d ∈ tables_1, d.before a0 Z = true) : ((Jvm.Cond.fieldLink "com/example/interlace/interlace/engine/Plan$Bind" (7 : Nat) "com/example/interlace/interlace/engine/Plan$Bind" "variable" "I")).before a0 Z = true := hw _ (List.mem_of_getElem? (i := 72) rfl)
theorem tw73 {a0 : Array Value} {Z : State} (hw : ∀ d ∈ tables_1, d.before a0 Z = true) : ((Jvm.Cond.laysFinal "com/example/interlace/interlace/engine/Plan$Bind" "com/example/interlace/interlace/engine/Plan$Bind" "variable" "I")).before a0 Z = true := hw _ (List.mem_of_getElem? (i := 73) rfl)
theorem tw74 {a0 : Array Value} {Z : State} (hw : ∀ d ∈ tables_1, d.before a0 Z = true) : ((Jvm.Cond.fieldLink "com/example/interlace/interlace/engine/Plan$Bind" (13 : Nat) "com/example/interlace/interlace/engine/Plan$Bind" "nots" "[Lcom/example/interlace/interlace/engine/Plan$Absent;")).before a0 Z = true := hw _ (List.mem_of_getElem? (i := 74) rfl)
theorem tw75 {a0 : Array Value} {Z : State} (hw : ∀ d ∈ tables_1, d.before a0 Z = true) : ((Jvm.Cond.laysFinal "com/example/interlace/interlace/engine/Plan$Bind" "com/example/interlace/interlace/engine/Plan$Bind" "nots" "[Lcom/example/interlace/interlace/engine/Plan$Absent;")).before a0 Z = true := hw _ (List.mem_of_getElem? (i := 75) rfl)
theorem tw76 {a0 : Array Value} {Z : State} (hw : ∀ d ∈ tables_1, d.before a0 Z = true) : ((Jvm.Cond.fieldLink "com/example/interlace/interlace/engine/Plan$Bind" (17 : Nat) "com/example/interlace/interlace/engine/Plan$Bind" "required" "Lcom/example/interlace/interlace/engine/Plan$Required;")).before a0 Z = true := hw _ (List.mem_of_getElem? (i := 76) rfl)
theorem tw77 {a0 : Array Value} {Z : State} (hw : ∀ d ∈ tables_1, d.before a0 Z = true) : ((Jvm.Cond.laysFinal "com/example/interlace/interlace/engine/Plan$Bind" "com/example/interlace/interlace/engine/Plan$Bind" "required" "Lcom/example/interlace/interlace/engine/Plan$Required;")).before a0 Z = true := hw _ (List.mem_of_getElem? (i := 77) rfl)
theorem tw78 {a0 : Array Value} {Z : State} (hw : ∀ d ∈ tables_1, d.before a0 Z = true) : ((Jvm.Cond.fieldLink "com/example/interlace/interlace/engine/Plan$Bind" (21 : Nat) "com/example/interlace/interlace/engine/Plan$Bind" "next" "Lcom/example/interlace/interlace/engine/Plan$Step;")).before a0 Z = true := hw _ (List.mem_of_getElem? (i := 78) rfl)
theorem tw79 {a0 : Array Value} {Z : State} (hw : ∀ d ∈ tables_1, d.before a0 Z = true) : ((Jvm.Cond.laysFinal "com/example/interlace/interlace/engine/Plan$Bind" "com/example/interlace/interlace/engine/Plan$Bind" "next" "Lcom/example/interlace/interlace/engine/Plan$Step;")).before a0 Z = true := hw _ (List.mem_of_getElem? (i := 79) rfl)
theorem tw80 {a0 : Array Value} {Z : State} (hw : ∀ d ∈ tables_1, d.before a0 Z = true) : ((Jvm.Cond.methodLink "com/example/interlace/interlace/engine/FloorsSetPinLaw" (33 : Nat) ({ cls := "com/example/interlace/interlace/engine/Floors", name := "restAfter", desc := "(Lcom/example/interlace/interlace/engine/Plan$Bind;)[J" } : Jvm.MethodName))).before a0 Z = true := hw _ (List.mem_of_getElem? (i := 80) rfl)
theorem tw81 {a0 : Array Value} {Z : State} (hw : ∀ d ∈ tables_1, d.before a0 Z = true) : ((Jvm.Cond.declares ({ cls := "com/example/interlace/interlace/engine/Floors", name := "restAfter", desc := "(Lcom/example/interlace/interlace/engine/Plan$Bind;)[J" } : Jvm.MethodName))).before a0 Z = true := hw _ (List.mem_of_getElem? (i := 81) rfl)
theorem tw82 {a0 : Array Value} {Z : State} (hw : ∀ d ∈ tables_1, d.before a0 Z = true) : ((Jvm.Cond.instanceMethod ({ cls := "com/example/interlace/interlace/engine/Floors", name := "restAfter", desc := "(Lcom/example/interlace/interlace/engine/Plan$Bind;)[J" } : Jvm.MethodName))).before a0 Z = true := hw _ (List.mem_of_getElem? (i := 82) rfl)
theorem tw83 {a0 : Array Value} {Z : State} (hw : ∀ d ∈ tables_1, d.before a0 Z = true) : ((Jvm.Cond.selects "com/example/interlace/interlace/engine/Floors" ({ cls := "com/example/interlace/interlace/engine/Floors", name := "restAfter", desc := "(Lcom/example/interlace/interlace/engine/Plan$Bind;)[J" } : Jvm.MethodName) ({ cls := "com/example/interlace/interlace/engine/Floors", name := "restAfter", desc := "(Lcom/example/interlace/interlace/engine/Plan$Bind;)[J" } : Jvm.MethodName))).before a0 Z = true := hw _ (List.mem_of_getElem? (i := 83) rfl)
theorem tw84 {a0 : Array Value} {Z : State} (hw : ∀ d ∈ tables_1, d.before a0 Z = true) : ((Jvm.Cond.code ({ cls := "com/example/interlace/interlace/engine/Floors", name := "restAfter", desc := "(Lcom/example/interlace/interlace/engine/Plan$Bind;)[J" } : Jvm.MethodName) prog_34_method_4_code (4 : Nat) (Option.some (Jvm.ClassFile.FieldType.array Jvm.ClassFile.FieldType.long)))).before a0 Z = true := hw _ (List.mem_of_getElem? (i := 84) rfl)
theorem tw85 {a0 : Array Value} {Z : State} (hw : ∀ d ∈ tables_1, d.before a0 Z = true) : ((Jvm.Cond.methodLink "com/example/interlace/interlace/engine/Floors" (35 : Nat) ({ cls := "com/example/interlace/interlace/engine/Plan$Bind", name := "variable", desc := "()I" } : Jvm.MethodName))).before a0 Z = true := hw _ (List.mem_of_getElem? (i := 85) rfl)
theorem tw86 {a0 : Array Value} {Z : State} (hw : ∀ d ∈ tables_1, d.before a0 Z = true) : ((Jvm.Cond.declares ({ cls := "com/example/interlace/interlace/engine/Plan$Bind", name := "variable", desc := "()I" } : Jvm.MethodName))).before a0 Z = true := hw _ (List.mem_of_getElem? (i := 86) rfl)
theorem tw87 {a0 : Array Value} {Z : State} (hw : ∀ d ∈ tables_1, d.before a0 Z = true) : ((Jvm.Cond.instanceMethod ({ cls := "com/example/interlace/interlace/engine/Plan$Bind", name := "variable", desc := "()I" } : Jvm.MethodName))).before a0 Z = true := hw _ (List.mem_of_getElem? (i := 87) rfl)
theorem tw88 {a0 : Array Value} {Z : State} (hw : ∀ d ∈ tables_1, d.before a0 Z = true) : ((Jvm.Cond.selects "com/example/interlace/interlace/engine/Plan$Bind" ({ cls := "com/example/interlace/interlace/engine/Plan$Bind", name := "variable", desc := "()I" } : Jvm.MethodName) ({ cls := "com/example/interlace/interlace/engine/Plan$Bind", name := "variable", desc := "()I" } : Jvm.MethodName))).before a0 Z = true := hw _ (List.mem_of_getElem? (i := 88) rfl)
theorem tw89 {a0 : Array Value} {Z : State} (hw : ∀ d ∈ tables_1, d.before a0 Z = true) : ((Jvm.Cond.code ({ cls := "com/example/interlace/interlace/engine/Plan$Bind", name := "variable", desc := "()I" } : Jvm.MethodName) prog_41_method_5_code (1 : Nat) (Option.some Jvm.ClassFile.FieldType.int))).before a0 Z = true := hw _ (List.mem_of_getElem? (i := 89) rfl)
theorem tw90 {a0 : Array Value} {Z : State} (hw : ∀ d ∈ tables_1, d.before a0 Z = true) : ((Jvm.Cond.fieldLink "com/example/interlace/interlace/engine/Floors" (41 : Nat) "com/example/interlace/interlace/engine/Floors" "NONE" "[J")).before a0 Z = true := hw _ (List.mem_of_getElem? (i := 90) rfl)
theorem tw91 {a0 : Array Value} {Z : State} (hw : ∀ d ∈ tables_1, d.before a0 Z = true) : ((Jvm.Cond.laysStatic "com/example/interlace/interlace/engine/Floors" "NONE" "[J")).before a0 Z = true := hw _ (List.mem_of_getElem? (i := 91) rfl)
theorem tw92 {a0 : Array Value} {Z : State} (hw : ∀ d ∈ tables_1, d.before a0 Z = true) : ((Jvm.Cond.methodLink "com/example/interlace/interlace/engine/Floors" (44 : Nat) ({ cls := "com/example/interlace/interlace/engine/Plan$Bind", name := "required", desc := "()Lcom/example/interlace/interlace/engine/Plan$Required;" } : Jvm.MethodName))).before a0 Z = true := hw _ (List.mem_of_getElem? (i := 92) rfl)
theorem tw93 {a0 : Array Value} {Z : State} (hw : ∀ d ∈ tables_1, d.before a0 Z = true) : ((Jvm.Cond.declares ({ cls := "com/example/interlace/interlace/engine/Plan$Bind", name := "required", desc := "()Lcom/example/interlace/interlace/engine/Plan$Required;" } : Jvm.MethodName))).before a0 Z = true := hw _ (List.mem_of_getElem? (i := 93) rfl)
theorem tw94 {a0 : Array Value} {Z : State} (hw : ∀ d ∈ tables_1, d.before a0 Z = true) : ((Jvm.Cond.instanceMethod ({ cls := "com/example/interlace/interlace/engine/Plan$Bind", name := "required", desc := "()Lcom/example/interlace/interlace/engine/Plan$Required;" } : Jvm.MethodName))).before a0 Z = true := hw _ (List.mem_of_getElem? (i := 94) rfl)
theorem tw95 {a0 : Array Value} {Z : State} (hw : ∀ d ∈ tables_1, d.before a0 Z = true) : ((Jvm.Cond.selects "com/example/interlace/interlace/engine/Plan$Bind" ({ cls := "com/example/interlace/interlace/engine/Plan$Bind", name := "required", desc := "()Lcom/example/interlace/interlace/engine/Plan$Required;" } : Jvm.MethodName) ({ cls := "com/example/interlace/interlace/engine/Plan$Bind", name := "required", desc := "()Lcom/example/interlace/interlace/engine/Plan$Required;" } : Jvm.MethodName))).before a0 Z = true := hw _ (List.mem_of_getElem? (i := 95) rfl)
theorem tw96 {a0 : Array Value} {Z : State} (hw : ∀ d ∈ tables_1, d.before a0 Z = true) : ((Jvm.Cond.code ({ cls := "com/example/interlace/interlace/engine/Plan$Bind", name := "required", desc := "()Lcom/example/interlace/interlace/engine/Plan$Required;" } : Jvm.MethodName) prog_41_method_7_code (1 : Nat) (Option.some (Jvm.ClassFile.FieldType.object "com/example/interlace/interlace/engine/Plan$Required")))).before a0 Z = true := hw _ (List.mem_of_getElem? (i := 96) rfl)
theorem tw97 {a0 : Array Value} {Z : State} (hw : ∀ d ∈ tables_1, d.before a0 Z = true) : ((Jvm.Cond.methodLink "com/example/interlace/interlace/engine/Floors" (48 : Nat) ({ cls := "com/example/interlace/interlace/engine/Plan$Required", name := "operand", desc := "()Lcom/example/interlace/interlace/pattern/Structure;" } : Jvm.MethodName))).before a0 Z = true := hw _ (List.mem_of_getElem? (i := 97) rfl)
theorem tw98 {a0 : Array Value} {Z : State} (hw : ∀ d ∈ tables_1, d.before a0 Z = true) : ((Jvm.Cond.declares ({ cls := "com/example/interlace/interlace/engine/Plan$Required", name := "operand", desc := "()Lcom/example/interlace/interlace/pattern/Structure;" } : Jvm.MethodName))).before a0 Z = true := hw _ (List.mem_of_getElem? (i := 98) rfl)
theorem tw99 {a0 : Array Value} {Z : State} (hw : ∀ d ∈ tables_1, d.before a0 Z = true) : ((Jvm.Cond.instanceMethod ({ cls := "com/example/interlace/interlace/engine/Plan$Required", name := "operand", desc := "()Lcom/example/interlace/interlace/pattern/Structure;" } : Jvm.MethodName))).before a0 Z = true := hw _ (List.mem_of_getElem? (i := 99) rfl)
theorem tw100 {a0 : Array Value} {Z : State} (hw : ∀ d ∈ tables_1, d.before a0 Z = true) : ((Jvm.Cond.selects "com/example/interlace/interlace/engine/Plan$Required" ({ cls := "com/example/interlace/interlace/engine/Plan$Required", name := "operand", desc := "()Lcom/example/interlace/interlace/pattern/Structure;" } : Jvm.MethodName) ({ cls := "com/example/interlace/interlace/engine/Plan$Required", name := "operand", desc := "()Lcom/example/interlace/interlace/pattern/Structure;" } : Jvm.MethodName))).before a0 Z = true := hw _ (List.mem_of_getElem? (i := 100) rfl)
theorem tw101 {a0 : Array Value} {Z : State} (hw : ∀ d ∈ tables_1, d.before a0 Z = true) : ((Jvm.Cond.code ({ cls := "com/example/interlace/interlace/engine/Plan$Required", name := "operand", desc := "()Lcom/example/interlace/interlace/pattern/Structure;" } : Jvm.MethodName) prog_47_method_8_code (1 : Nat) (Option.some (Jvm.ClassFile.FieldType.object "com/example/interlace/interlace/pattern/Structure")))).before a0 Z = true := hw _ (List.mem_of_getElem? (i := 101) rfl)
theorem tw102 {a0 : Array Value} {Z : State} (hw : ∀ d ∈ tables_1, d.before a0 Z = true) : ((Jvm.Cond.methodLink "com/example/interlace/interlace/engine/Floors" (54 : Nat) ({ cls := "com/example/interlace/interlace/engine/Floors", name := "least", desc := "(Lcom/example/interlace/interlace/pattern/Structure;)[J" } : Jvm.MethodName))).before a0 Z = true := hw _ (List.mem_of_getElem? (i := 102) rfl)
theorem tw103 {a0 : Array Value} {Z : State} (hw : ∀ d ∈ tables_1, d.before a0 Z = true) : ((Jvm.Cond.instanceMethod ({ cls := "com/example/interlace/interlace/engine/Floors", name := "least", desc := "(Lcom/example/interlace/interlace/pattern/Structure;)[J" } : Jvm.MethodName))).before a0 Z = true := hw _ (List.mem_of_getElem? (i := 103) rfl)
theorem tw104 {a0 : Array Value} {Z : State} (hw : ∀ d ∈ tables_1, d.before a0 Z = true) : ((Jvm.Cond.privateMethod ({ cls := "com/example/interlace/interlace/engine/Floors", name := "least", desc := "(Lcom/example/interlace/interlace/pattern/Structure;)[J" } : Jvm.MethodName))).before a0 Z = true := hw _ (List.mem_of_getElem? (i := 104) rfl)
theorem tw105 {a0 : Array Value} {Z : State} (hw : ∀ d ∈ tables_1, d.before a0 Z = true) : ((Jvm.Cond.code ({ cls := "com/example/interlace/interlace/engine/Floors", name := "least", desc := "(Lcom/example/interlace/interlace/pattern/Structure;)[J" } : Jvm.MethodName) prog_34_method_5_code (6 : Nat) (Option.some (Jvm.ClassFile.FieldType.array Jvm.ClassFile.FieldType.long)))).before a0 Z = true := hw _ (List.mem_of_getElem? (i := 105) rfl)
theorem tw106 {a0 : Array Value} {Z : State} (hw : ∀ d ∈ tables_1, d.before a0 Z = true) : ((Jvm.Cond.classLink "com/example/interlace/interlace/engine/Floors" (65 : Nat) "java/util/ArrayDeque")).before a0 Z = true := hw _ (List.mem_of_getElem? (i := 106) rfl)
theorem tw107 {a0 : Array Value} {Z : State} (hw : ∀ d ∈ tables_1, d.before a0 Z = true) : ((Jvm.Cond.instantiable "java/util/ArrayDeque" (3 : Nat))).before a0 Z = true := hw _ (List.mem_of_getElem? (i := 107) rfl)
theorem tw108 {a0 : Array Value} {Z : State} (hw : ∀ d ∈ tables_1, d.before a0 Z = true) : ((Jvm.Cond.initialized "java/util/ArrayDeque")).before a0 Z = true := hw _ (List.mem_of_getElem? (i := 108) rfl)
theorem tw109 {a0 : Array Value} {Z : State} (hw : ∀ d ∈ tables_1, d.before a0 Z = true) : ((Jvm.Cond.methodLink "com/example/interlace/interlace/engine/Floors" (67 : Nat) ({ cls := "java/util/ArrayDeque", name := "<init>", desc := "()V" } : Jvm.MethodName))).before a0 Z = true := hw _ (List.mem_of_getElem? (i := 109) rfl)
theorem tw110 {a0 : Array Value} {Z : State} (hw : ∀ d ∈ tables_1, d.before a0 Z = true) : ((Jvm.Cond.instanceMethod ({ cls := "java/util/ArrayDeque", name := "<init>", desc := "()V" } : Jvm.MethodName))).before a0 Z = true := hw _ (List.mem_of_getElem? (i := 110) rfl)
theorem tw111 {a0 : Array Value} {Z : State} (hw : ∀ d ∈ tables_1, d.before a0 Z = true) : ((Jvm.Cond.code ({ cls := "java/util/ArrayDeque", name := "<init>", desc := "()V" } : Jvm.MethodName) jdk_21_method_3_code (1 : Nat) (Option.none : Option Jvm.ClassFile.FieldType))).before a0 Z = true := hw _ (List.mem_of_getElem? (i := 111) rfl)
theorem tw112 {a0 : Array Value} {Z : State} (hw : ∀ d ∈ tables_1, d.before a0 Z = true) : ((Jvm.Cond.methodLink "java/util/ArrayDeque" (42 : Nat) ({ cls := "java/util/AbstractCollection", name := "<init>", desc := "()V" } : Jvm.MethodName))).before a0 Z = true := hw _ (List.mem_of_getElem? (i := 112) rfl)
theorem tw113 {a0 : Array Value} {Z : State} (hw : ∀ d ∈ tables_1, d.before a0 Z = true) : ((Jvm.Cond.instanceMethod ({ cls := "java/util/AbstractCollection", name := "<init>", desc := "()V" } : Jvm.MethodName))).before a0 Z = true := hw _ (List.mem_of_getElem? (i := 113) rfl)
theorem tw116 {a0 : Array Value} {Z : State} (hw : ∀ d ∈ tables_1, d.before a0 Z = true) : ((Jvm.Cond.initialized "java/util/AbstractCollection")).before a0 Z = true := hw _ (List.mem_of_getElem? (i := 116) rfl)
theorem tw117 {a0 : Array Value} {Z : State} (hw : ∀ d ∈ tables_1, d.before a0 Z = true) : ((Jvm.Cond.code ({ cls := "java/util/AbstractCollection", name := "<init>", desc := "()V" } : Jvm.MethodName) jdk_22_method_1_code (1 : Nat) (Option.none : Option Jvm.ClassFile.FieldType))).before a0 Z = true := hw _ (List.mem_of_getElem? (i := 117) rfl)
theorem tw118 {a0 : Array Value} {Z : State} (hw : ∀ d ∈ tables_1, d.before a0 Z = true) : ((Jvm.Cond.methodLink "java/util/AbstractCollection" (1 : Nat) ({ cls := "java/lang/Object", name := "<init>", desc := "()V" } : Jvm.MethodName))).before a0 Z = true := hw _ (List.mem_of_getElem? (i := 118) rfl)
theorem tw119 {a0 : Array Value} {Z : State} (hw : ∀ d ∈ tables_1, d.before a0 Z = true) : ((Jvm.Cond.classLink "java/util/ArrayDeque" (47 : Nat) "java/lang/Object")).before a0 Z = true := hw _ (List.mem_of_getElem? (i := 119) rfl)
theorem tw120 {a0 : Array Value} {Z : State} (hw : ∀ d ∈ tables_1, d.before a0 Z = true) : ((Jvm.Cond.arrayOver (Jvm.ClassFile.FieldType.object "java/lang/Object"))).before a0 Z = true := hw _ (List.mem_of_getElem? (i := 120) rfl)
theorem tw121 {a0 : Array Value} {Z : State} (hw : ∀ d ∈ tables_1, d.before a0 Z = true) : ((Jvm.Cond.fieldLink "java/util/ArrayDeque" (3 : Nat) "java/util/ArrayDeque" "elements" "[Ljava/lang/Object;")).before a0 Z = true := hw _ (List.mem_of_getElem? (i := 121) rfl)
theorem tw122 {a0 : Array Value} {Z : State} (hw : ∀ d ∈ tables_1, d.before a0 Z = true) : ((Jvm.Cond.lays "java/util/ArrayDeque" "java/util/ArrayDeque" "elements" "[Ljava/lang/Object;")).before a0 Z = true := hw _ (List.mem_of_getElem? (i := 122) rfl)
theorem tw123 {a0 : Array Value} {Z : State} (hw : ∀ d ∈ tables_1, d.before a0 Z = true) : ((Jvm.Cond.methodLink "com/example/interlace/interlace/engine/Floors" (68 : Nat) ({ cls := "com/example/interlace/interlace/engine/Floors", name := "enter", desc := "(Lcom/example/interlace/interlace/pattern/Structure;Ljava/util/Deque;)[J" } : Jvm.MethodName))).before a0 Z = true := hw _ (List.mem_of_getElem? (i := 123) rfl)
theorem tw124 {a0 : Array Value} {Z : State} (hw : ∀ d ∈ tables_1, d.before a0 Z = true) : ((Jvm.Cond.instanceMethod ({ cls := "com/example/interlace/interlace/engine/Floors", name := "enter", desc := "(Lcom/example/interlace/interlace/pattern/Structure;Ljava/util/Deque;)[J" } : Jvm.MethodName))).before a0 Z = true := hw _ (List.mem_of_getElem? (i := 124) rfl)
theorem tw125 {a0 : Array Value} {Z : State} (hw : ∀ d ∈ tables_1, d.before a0 Z = true) : ((Jvm.Cond.privateMethod ({ cls := "com/example/interlace/interlace/engine/Floors", name := "enter", desc := "(Lcom/example/interlace/interlace/pattern/Structure;Ljava/util/Deque;)[J" } : Jvm.MethodName))).before a0 Z = true := hw _ (List.mem_of_getElem? (i := 125) rfl)
theorem tw126 {a0 : Array Value} {Z : State} (hw : ∀ d ∈ tables_1, d.before a0 Z = true) : ((Jvm.Cond.code ({ cls := "com/example/interlace/interlace/engine/Floors", name := "enter", desc := "(Lcom/example/interlace/interlace/pattern/Structure;Ljava/util/Deque;)[J" } : Jvm.MethodName) prog_34_method_6_code (6 : Nat) (Option.some (Jvm.ClassFile.FieldType.array Jvm.ClassFile.FieldType.long)))).before a0 Z = true := hw _ (List.mem_of_getElem? (i := 126) rfl)
theorem tw127 {a0 : Array Value} {Z : State} (hw : ∀ d ∈ tables_1, d.before a0 Z = true) : ((Jvm.Cond.classLink "com/example/interlace/interlace/engine/Floors" (98 : Nat) "com/example/interlace/interlace/pattern/Structure$Leaf")).before a0 Z = true := hw _ (List.mem_of_getElem? (i := 127) rfl)
theorem tw129 {a0 : Array Value} {Z : State} (hw : ∀ d ∈ tables_1, d.before a0 Z = true) : ((Jvm.Cond.methodLink "com/example/interlace/interlace/engine/Floors" (100 : Nat) ({ cls := "com/example/interlace/interlace/pattern/Structure$Leaf", name := "variable", desc := "()I" } : Jvm.MethodName))).before a0 Z = true := hw _ (List.mem_of_getElem? (i := 129) rfl)
theorem tw130 {a0 : Array Value} {Z : State} (hw : ∀ d ∈ tables_1, d.before a0 Z = true) : ((Jvm.Cond.declares ({ cls := "com/example/interlace/interlace/pattern/Structure$Leaf", name := "variable", desc := "()I" } : Jvm.MethodName))).before a0 Z = true := hw _ (List.mem_of_getElem? (i := 130) rfl)
theorem tw131 {a0 : Array Value} {Z : State} (hw : ∀ d ∈ tables_1, d.before a0 Z = true) : ((Jvm.Cond.instanceMethod ({ cls := "com/example/interlace/interlace/pattern/Structure$Leaf", name := "variable", desc := "()I" } : Jvm.MethodName))).before a0 Z = true := hw _ (List.mem_of_getElem? (i := 131) rfl)
theorem tw132 {a0 : Array Value} {Z : State} (hw : ∀ d ∈ tables_1, d.before a0 Z = true) : ((Jvm.Cond.selects "com/example/interlace/interlace/pattern/Structure$Leaf" ({ cls := "com/example/interlace/interlace/pattern/Structure$Leaf", name := "variable", desc := "()I" } : Jvm.MethodName) ({ cls := "com/example/interlace/interlace/pattern/Structure$Leaf", name := "variable", desc := "()I" } : Jvm.MethodName))).before a0 Z = true := hw _ (List.mem_of_getElem? (i := 132) rfl)
theorem tw133 {a0 : Array Value} {Z : State} (hw : ∀ d ∈ tables_1, d.before a0 Z = true) : ((Jvm.Cond.code ({ cls := "com/example/interlace/interlace/pattern/Structure$Leaf", name := "variable", desc := "()I" } : Jvm.MethodName) prog_83_method_7_code (1 : Nat) (Option.some Jvm.ClassFile.FieldType.int))).before a0 Z = true := hw _ (List.mem_of_getElem? (i := 133) rfl)
theorem tw134 {a0 : Array Value} {Z : State} (hw : ∀ d ∈ tables_1, d.before a0 Z = true) : ((Jvm.Cond.methodLink "com/example/interlace/interlace/engine/Floors" (72 : Nat) ({ cls := "java/util/Deque", name := "isEmpty", desc := "()Z" } : Jvm.MethodName))).before a0 Z = true := hw _ (List.mem_of_getElem? (i := 134) rfl)
theorem tw135 {a0 : Array Value} {Z : State} (hw : ∀ d ∈ tables_1, d.before a0 Z = true) : ((Jvm.Cond.declares ({ cls := "java/util/Collection", name := "isEmpty", desc := "()Z" } : Jvm.MethodName))).before a0 Z = true := hw _ (List.mem_of_getElem? (i := 135) rfl)
theorem tw136 {a0 : Array Value} {Z : State} (hw : ∀ d ∈ tables_1, d.before a0 Z = true) : ((Jvm.Cond.interfaceMethod "java/util/Deque" "java/util/Collection" "isEmpty" "()Z")).before a0 Z = true := hw _ (List.mem_of_getElem? (i := 136) rfl)
theorem tw137 {a0 : Array Value} {Z : State} (hw : ∀ d ∈ tables_1, d.before a0 Z = true) : ((Jvm.Cond.selects "java/util/ArrayDeque" ({ cls := "java/util/Deque", name := "isEmpty", desc := "()Z" } : Jvm.MethodName) ({ cls := "java/util/ArrayDeque", name := "isEmpty", desc := "()Z" } : Jvm.MethodName))).before a0 Z = true := hw _ (List.mem_of_getElem? (i := 137) rfl)
theorem tw138 {a0 : Array Value} {Z : State} (hw : ∀ d ∈ tables_1, d.before a0 Z = true) : ((Jvm.Cond.instanceMethod ({ cls := "java/util/ArrayDeque", name := "isEmpty", desc := "()Z" } : Jvm.MethodName))).before a0 Z = true := hw _ (List.mem_of_getElem? (i := 138) rfl)
theorem tw139 {a0 : Array Value} {Z : State} (hw : ∀ d ∈ tables_1, d.before a0 Z = true) : ((Jvm.Cond.publicMethod ({ cls := "java/util/ArrayDeque", name := "isEmpty", desc := "()Z" } : Jvm.MethodName))).before a0 Z = true := hw _ (List.mem_of_getElem? (i := 139) rfl)
theorem tw140 {a0 : Array Value} {Z : State} (hw : ∀ d ∈ tables_1, d.before a0 Z = true) : ((Jvm.Cond.unhidden "java/util/ArrayDeque" "isEmpty" "()Z")).before a0 Z = true := hw _ (List.mem_of_getElem? (i := 140) rfl)
theorem tw141 {a0 : Array Value} {Z : State} (hw : ∀ d ∈ tables_1, d.before a0 Z = true) : ((Jvm.Cond.castable "java/util/ArrayDeque" "java/util/Deque")).before a0 Z = true := hw _ (List.mem_of_getElem? (i := 141) rfl)
theorem tw142 {a0 : Array Value} {Z : State} (hw : ∀ d ∈ tables_1, d.before a0 Z = true) : ((Jvm.Cond.code ({ cls := "java/util/ArrayDeque", name := "isEmpty", desc := "()Z" } : Jvm.MethodName) jdk_21_method_38_code (1 : Nat) (Option.some Jvm.ClassFile.FieldType.boolean))).before a0 Z = true := hw _ (List.mem_of_getElem? (i := 142) rfl)
theorem tw143 {a0 : Array Value} {Z : State} (hw : ∀ d ∈ tables_1, d.before a0 Z = true) : ((Jvm.Cond.fieldLink "java/util/ArrayDeque" (24 : Nat) "java/util/ArrayDeque" "head" "I")).before a0 Z = true := hw _ (List.mem_of_getElem? (i := 143) rfl)
theorem tw144 {a0 : Array Value} {Z : State} (hw : ∀ d ∈ tables_1, d.before a0 Z = true) : ((Jvm.Cond.lays "java/util/ArrayDeque" "java/util/ArrayDeque" "head" "I")).before a0 Z = true := hw _ (List.mem_of_getElem? (i := 144) rfl)
theorem tw145 {a0 : Array Value} {Z : State} (hw : ∀ d ∈ tables_1, d.before a0 Z = true) : ((Jvm.Cond.fieldLink "java/util/ArrayDeque" (20 : Nat) "java/util/ArrayDeque" "tail" "I")).before a0 Z = true := hw _ (List.mem_of_getElem? (i := 145) rfl)
theorem tw146 {a0 : Array Value} {Z : State} (hw : ∀ d ∈ tables_1, d.before a0 Z = true) : ((Jvm.Cond.lays "java/util/ArrayDeque" "java/util/ArrayDeque" "tail" "I")).before a0 Z = true := hw _ (List.mem_of_getElem? (i := 146) rfl)
theorem tw147 {a0 : Array Value} {Z : State} (hw : ∀ d ∈ tables_1, d.before a0 Z = true) : ((Jvm.Cond.methodLink "com/example/interlace/interlace/engine/Floors" (58 : Nat) ({ cls := "com/example/interlace/interlace/engine/Floors", name := "merged", desc := "([J[J)[J" } : Jvm.MethodName))).before a0 Z = true := hw _ (List.mem_of_getElem? (i := 147) rfl)
theorem tw148 {a0 : Array Value} {Z : State} (hw : ∀ d ∈ tables_1, d.before a0 Z = true) : ((Jvm.Cond.static ({ cls := "com/example/interlace/interlace/engine/Floors", name := "merged", desc := "([J[J)[J" } : Jvm.MethodName))).before a0 Z = true := hw _ (List.mem_of_getElem? (i := 148) rfl)
theorem tw149 {a0 : Array Value} {Z : State} (hw : ∀ d ∈ tables_1, d.before a0 Z = true) : ((Jvm.Cond.code ({ cls := "com/example/interlace/interlace/engine/Floors", name := "merged", desc := "([J[J)[J" } : Jvm.MethodName) prog_34_method_7_code (3 : Nat) (Option.some (Jvm.ClassFile.FieldType.array Jvm.ClassFile.FieldType.long)))).before a0 Z = true := hw _ (List.mem_of_getElem? (i := 149) rfl)
theorem tw150 {a0 : Array Value} {Z : State} (hw : ∀ d ∈ tables_1, d.before a0 Z = true) : ((Jvm.Cond.methodLink "com/example/interlace/interlace/engine/Floors" (110 : Nat) ({ cls := "java/util/Arrays", name := "copyOf", desc := "([JI)[J" } : Jvm.MethodName))).before a0 Z = true := hw _ (List.mem_of_getElem? (i := 150) rfl)
theorem tw151 {a0 : Array Value} {Z : State} (hw : ∀ d ∈ tables_1, d.before a0 Z = true) : ((Jvm.Cond.static ({ cls := "java/util/Arrays", name := "copyOf", desc := "([JI)[J" } : Jvm.MethodName))).before a0 Z = true := hw _ (List.mem_of_getElem? (i := 151) rfl)
theorem tw152 {a0 : Array Value} {Z : State} (hw : ∀ d ∈ tables_1, d.before a0 Z = true) : ((Jvm.Cond.code ({ cls := "java/util/Arrays", name := "copyOf", desc := "([JI)[J" } : Jvm.MethodName) jdk_65_method_124_code (3 : Nat) (Option.some (Jvm.ClassFile.FieldType.array Jvm.ClassFile.FieldType.long)))).before a0 Z = true := hw _ (List.mem_of_getElem? (i := 152) rfl)
theorem tw153 {a0 : Array Value} {Z : State} (hw : ∀ d ∈ tables_1, d.before a0 Z = true) : ((Jvm.Cond.methodLink "java/util/Arrays" (304 : Nat) ({ cls := "java/lang/Math", name := "min", desc := "(II)I" } : Jvm.MethodName))).before a0 Z = true := hw _ (List.mem_of_getElem? (i := 153) rfl)
theorem tw154 {a0 : Array Value} {Z : State} (hw : ∀ d ∈ tables_1, d.before a0 Z = true) : ((Jvm.Cond.static ({ cls := "java/lang/Math", name := "min", desc := "(II)I" } : Jvm.MethodName))).before a0 Z = true := hw _ (List.mem_of_getElem? (i := 154) rfl)
theorem tw155 {a0 : Array Value} {Z : State} (hw : ∀ d ∈ tables_1, d.before a0 Z = true) : ((Jvm.Cond.initialized "java/lang/Math")).before a0 Z = true := hw _ (List.mem_of_getElem? (i := 155) rfl)
theorem tw156 {a0 : Array Value} {Z : State} (hw : ∀ d ∈ tables_1, d.before a0 Z = true) : ((Jvm.Cond.code ({ cls := "java/lang/Math", name := "min", desc := "(II)I" } : Jvm.MethodName) jdk_29_method_69_code (2 : Nat) (Option.some Jvm.ClassFile.FieldType.int))).before a0 Z = true := hw _ (List.mem_of_getElem? (i := 156) rfl)
theorem tw157 {a0 : Array Value} {Z : State} (hw : ∀ d ∈ tables_1, d.before a0 Z = true) : ((Jvm.Cond.methodLink "java/util/Arrays" (150 : Nat) ({ cls := "java/lang/System", name := "arraycopy", desc := "(Ljava/lang/Object;ILjava/lang/Object;II)V" } : Jvm.MethodName))).before a0 Z = true := hw _ (List.mem_of_getElem? (i := 157) rfl)
theorem tw158 {a0 : Array Value} {Z : State} (hw : ∀ d ∈ tables_1, d.before a0 Z = true) : ((Jvm.Cond.static ({ cls := "java/lang/System", name := "arraycopy", desc := "(Ljava/lang/Object;ILjava/lang/Object;II)V" } : Jvm.MethodName))).before a0 Z = true := hw _ (List.mem_of_getElem? (i := 158) rfl)
theorem tw159 {a0 : Array Value} {Z : State} (hw : ∀ d ∈ tables_1, d.before a0 Z = true) : ((Jvm.Cond.initialized "java/lang/System")).before a0 Z = true := hw _ (List.mem_of_getElem? (i := 159) rfl)
theorem tw160 {a0 : Array Value} {Z : State} (hw : ∀ d ∈ tables_1, d.before a0 Z = true) : ((Jvm.Cond.native ({ cls := "java/lang/System", name := "arraycopy", desc := "(Ljava/lang/Object;ILjava/lang/Object;II)V" } : Jvm.MethodName))).before a0 Z = true := hw _ (List.mem_of_getElem? (i := 160) rfl)
theorem tw161 {a0 : Array Value} {Z : State} (hw : ∀ d ∈ tables_1, d.before a0 Z = true) : ((Jvm.Cond.methodLink "com/example/interlace/interlace/engine/Floors" (114 : Nat) ({ cls := "java/lang/System", name := "arraycopy", desc := "(Ljava/lang/Object;ILjava/lang/Object;II)V" } : Jvm.MethodName))).before a0 Z = true := hw _ (List.mem_of_getElem? (i := 161) rfl)
theorem tw162 {a0 : Array Value} {Z : State} (hw : ∀ d ∈ tables_1, d.before a0 Z = true) : ((Jvm.Cond.methodLink "com/example/interlace/interlace/engine/Floors" (120 : Nat) ({ cls := "java/util/Arrays", name := "sort", desc := "([J)V" } : Jvm.MethodName))).before a0 Z = true := hw _ (List.mem_of_getElem? (i := 162) rfl)
theorem tw163 {a0 : Array Value} {Z : State} (hw : ∀ d ∈ tables_1, d.before a0 Z = true) : ((Jvm.Cond.static ({ cls := "java/util/Arrays", name := "sort", desc := "([J)V" } : Jvm.MethodName))).before a0 Z = true := hw _ (List.mem_of_getElem? (i := 163) rfl)
theorem tw164 {a0 : Array Value} {Z : State} (hw : ∀ d ∈ tables_1, d.before a0 Z = true) : ((Jvm.Cond.code ({ cls := "java/util/Arrays", name := "sort", desc := "([J)V" } : Jvm.MethodName) jdk_65_method_4_code (1 : Nat) (Option.none : Option Jvm.ClassFile.FieldType))).before a0 Z = true := hw _ (List.mem_of_getElem? (i := 164) rfl)
theorem tw165 {a0 : Array Value} {Z : State} (hw : ∀ d ∈ tables_1, d.before a0 Z = true) : ((Jvm.Cond.methodLink "java/util/Arrays" (19 : Nat) ({ cls := "java/util/DualPivotQuicksort", name := "sort", desc := "([JIII)V" } : Jvm.MethodName))).before a0 Z = true := hw _ (List.mem_of_getElem? (i := 165) rfl)
theorem tw166 {a0 : Array Value} {Z : State} (hw : ∀ d ∈ tables_1, d.before a0 Z = true) : ((Jvm.Cond.static ({ cls := "java/util/DualPivotQuicksort", name := "sort", desc := "([JIII)V" } : Jvm.MethodName))).before a0 Z = true := hw _ (List.mem_of_getElem? (i := 166) rfl)
theorem tw167 {a0 : Array Value} {Z : State} (hw : ∀ d ∈ tables_1, d.before a0 Z = true) : ((Jvm.Cond.initialized "java/util/DualPivotQuicksort")).before a0 Z = true := hw _ (List.mem_of_getElem? (i := 167) rfl)
theorem tw168 {a0 : Array Value} {Z : State} (hw : ∀ d ∈ tables_1, d.before a0 Z = true) : ((Jvm.Cond.code ({ cls := "java/util/DualPivotQuicksort", name := "sort", desc := "([JIII)V" } : Jvm.MethodName) jdk_2529_method_12_code (7 : Nat) (Option.none : Option Jvm.ClassFile.FieldType))).before a0 Z = true := hw _ (List.mem_of_getElem? (i := 168) rfl)
theorem tw169 {a0 : Array Value} {Z : State} (hw : ∀ d ∈ tables_1, d.before a0 Z = true) : ((Jvm.Cond.methodLink "java/util/DualPivotQuicksort" (99 : Nat) ({ cls := "java/util/DualPivotQuicksort", name := "sort", desc := "(Ljava/util/DualPivotQuicksort$Sorter;[JIII)V" } : Jvm.MethodName))).before a0 Z = true := hw _ (List.mem_of_getElem? (i := 169) rfl)
theorem tw170 {a0 : Array Value} {Z : State} (hw : ∀ d ∈ tables_1, d.before a0 Z = true) : ((Jvm.Cond.static ({ cls := "java/util/DualPivotQuicksort", name := "sort", desc := "(Ljava/util/DualPivotQuicksort$Sorter;[JIII)V" } : Jvm.MethodName))).before a0 Z = true := hw _ (List.mem_of_getElem? (i := 170) rfl)
theorem tw171 {a0 : Array Value} {Z : State} (hw : ∀ d ∈ tables_1, d.before a0 Z = true) : ((Jvm.Cond.code ({ cls := "java/util/DualPivotQuicksort", name := "sort", desc := "(Ljava/util/DualPivotQuicksort$Sorter;[JIII)V" } : Jvm.MethodName) jdk_2529_method_13_code (25 : Nat) (Option.none : Option Jvm.ClassFile.FieldType))).before a0 Z = true := hw _ (List.mem_of_getElem? (i := 171) rfl)
theorem tw172 {a0 : Array Value} {Z : State} (hw : ∀ d ∈ tables_1, d.before a0 Z = true) : ((Jvm.Cond.methodLink "java/util/DualPivotQuicksort" (105 : Nat) ({ cls := "java/util/DualPivotQuicksort", name := "insertionSort", desc := "([JII)V" } : Jvm.MethodName))).before a0 Z = true := hw _ (List.mem_of_getElem? (i := 172) rfl)
theorem tw173 {a0 : Array Value} {Z : State} (hw : ∀ d ∈ tables_1, d.before a0 Z = true) : ((Jvm.Cond.static ({ cls := "java/util/DualPivotQuicksort", name := "insertionSort", desc := "([JII)V" } : Jvm.MethodName))).before a0 Z = true := hw _ (List.mem_of_getElem? (i := 173) rfl)
theorem tw174 {a0 : Array Value} {Z : State} (hw : ∀ d ∈ tables_1, d.before a0 Z = true) : ((Jvm.Cond.code ({ cls := "java/util/DualPivotQuicksort", name := "insertionSort", desc := "([JII)V" } : Jvm.MethodName) jdk_2529_method_15_code (7 : Nat) (Option.none : Option Jvm.ClassFile.FieldType))).before a0 Z = true := hw _ (List.mem_of_getElem? (i := 174) rfl)
theorem tw175 {a0 : Array Value} {Z : State} (hw : ∀ d ∈ tables_1, d.before a0 Z = true) : ((Jvm.Cond.methodLink "com/example/interlace/interlace/engine/Floors" (62 : Nat) ({ cls := "com/example/interlace/interlace/engine/Plan$Required", name := "rest", desc := "()Lcom/example/interlace/interlace/engine/Plan$Required;" } : Jvm.MethodName))).before a0 Z = true := hw _ (List.mem_of_getElem? (i := 175) rfl)
theorem tw176 {a0 : Array Value} {Z : State} (hw : ∀ d ∈ tables_1, d.before a0 Z = true) : ((Jvm.Cond.declares ({ cls := "com/example/interlace/interlace/engine/Plan$Required", name := "rest", desc := "()Lcom/example/interlace/interlace/engine/Plan$Required;" } : Jvm.MethodName))).before a0 Z = true := hw _ (List.mem_of_getElem? (i := 176) rfl)
theorem tw177 {a0 : Array Value} {Z : State} (hw : ∀ d ∈ tables_1, d.before a0 Z = true) : ((Jvm.Cond.instanceMethod ({ cls := "com/example/interlace/interlace/engine/Plan$Required", name := "rest", desc := "()Lcom/example/interlace/interlace/engine/Plan$Required;" } : Jvm.MethodName))).before a0 Z = true := hw _ (List.mem_of_getElem? (i := 177) rfl)
theorem tw178 {a0 : Array Value} {Z : State} (hw : ∀ d ∈ tables_1, d.before a0 Z = true) : ((Jvm.Cond.selects "com/example/interlace/interlace/engine/Plan$Required" ({ cls := "com/example/interlace/interlace/engine/Plan$Required", name := "rest", desc := "()Lcom/example/interlace/interlace/engine/Plan$Required;" } : Jvm.MethodName) ({ cls := "com/example/interlace/interlace/engine/Plan$Required", name := "rest", desc := "()Lcom/example/interlace/interlace/engine/Plan$Required;" } : Jvm.MethodName))).before a0 Z = true := hw _ (List.mem_of_getElem? (i := 178) rfl)
theorem tw179 {a0 : Array Value} {Z : State} (hw : ∀ d ∈ tables_1, d.before a0 Z = true) : ((Jvm.Cond.code ({ cls := "com/example/interlace/interlace/engine/Plan$Required", name := "rest", desc := "()Lcom/example/interlace/interlace/engine/Plan$Required;" } : Jvm.MethodName) prog_47_method_10_code (1 : Nat) (Option.some (Jvm.ClassFile.FieldType.object "com/example/interlace/interlace/engine/Plan$Required")))).before a0 Z = true := hw _ (List.mem_of_getElem? (i := 179) rfl)
theorem tw180 {a0 : Array Value} {Z : State} (hw : ∀ d ∈ tables_1, d.before a0 Z = true) : ((Jvm.Cond.methodLink "java/util/Arrays" (319 : Nat) ({ cls := "[J", name := "clone", desc := "()Ljava/lang/Object;" } : Jvm.MethodName))).before a0 Z = true := hw _ (List.mem_of_getElem? (i := 180) rfl)
theorem tw181 {a0 : Array Value} {Z : State} (hw : ∀ d ∈ tables_1, d.before a0 Z = true) : ((Jvm.Cond.sameMethod "[J" "java/lang/Object" "clone" "()Ljava/lang/Object;")).before a0 Z = true := hw _ (List.mem_of_getElem? (i := 181) rfl)
theorem tw183 {a0 : Array Value} {Z : State} (hw : ∀ d ∈ tables_1, d.before a0 Z = true) : ((Jvm.Cond.instanceMethod ({ cls := "java/lang/Object", name := "clone", desc := "()Ljava/lang/Object;" } : Jvm.MethodName))).before a0 Z = true := hw _ (List.mem_of_getElem? (i := 183) rfl)
theorem tw184 {a0 : Array Value} {Z : State} (hw : ∀ d ∈ tables_1, d.before a0 Z = true) : ((Jvm.Cond.selects "[J" ({ cls := "[J", name := "clone", desc := "()Ljava/lang/Object;" } : Jvm.MethodName) ({ cls := "java/lang/Object", name := "clone", desc := "()Ljava/lang/Object;" } : Jvm.MethodName))).before a0 Z = true := hw _ (List.mem_of_getElem? (i := 184) rfl)
theorem tw185 {a0 : Array Value} {Z : State} (hw : ∀ d ∈ tables_1, d.before a0 Z = true) : ((Jvm.Cond.native ({ cls := "java/lang/Object", name := "clone", desc := "()Ljava/lang/Object;" } : Jvm.MethodName))).before a0 Z = true := hw _ (List.mem_of_getElem? (i := 185) rfl)
theorem tw186 {a0 : Array Value} {Z : State} (hw : ∀ d ∈ tables_1, d.before a0 Z = true) : ((Jvm.Cond.castable "[J" "java/lang/Cloneable")).before a0 Z = true := hw _ (List.mem_of_getElem? (i := 186) rfl)
theorem tw187 {a0 : Array Value} {Z : State} (hw : ∀ d ∈ tables_1, d.before a0 Z = true) : ((Jvm.Cond.classLink "java/util/Arrays" (320 : Nat) "[J")).before a0 Z = true := hw _ (List.mem_of_getElem? (i := 187) rfl)
theorem tw189 {a0 : Array Value} {Z : State} (hw : ∀ d ∈ tables_1, d.before a0 Z = true) : ((Jvm.Cond.methodLink "com/example/interlace/interlace/engine/FloorsSetPinLaw" (37 : Nat) ({ cls := "java/lang/Math", name := "min", desc := "(JJ)J" } : Jvm.MethodName))).before a0 Z = true := hw _ (List.mem_of_getElem? (i := 189) rfl)
theorem tw190 {a0 : Array Value} {Z : State} (hw : ∀ d ∈ tables_1, d.before a0 Z = true) : ((Jvm.Cond.static ({ cls := "java/lang/Math", name := "min", desc := "(JJ)J" } : Jvm.MethodName))).before a0 Z = true := hw _ (List.mem_of_getElem? (i := 190) rfl)
theorem tw191 {a0 : Array Value} {Z : State} (hw : ∀ d ∈ tables_1, d.before a0 Z = true) : ((Jvm.Cond.code ({ cls := "java/lang/Math", name := "min", desc := "(JJ)J" } : Jvm.MethodName) jdk_29_method_70_code (4 : Nat) (Option.some Jvm.ClassFile.FieldType.long))).before a0 Z = true := hw _ (List.mem_of_getElem? (i := 191) rfl)
theorem tw192 {a0 : Array Value} {Z : State} (hw : ∀ d ∈ tables_1, d.before a0 Z = true) : ((Jvm.Cond.methodLink "com/example/interlace/interlace/engine/FloorsSetPinLaw" (43 : Nat) ({ cls := "java/lang/Math", name := "max", desc := "(JJ)J" } : Jvm.MethodName))).before a0 Z = true := hw _ (List.mem_of_getElem? (i := 192) rfl)
theorem tw193 {a0 : Array Value} {Z : State} (hw : ∀ d ∈ tables_1, d.before a0 Z = true) : ((Jvm.Cond.static ({ cls := "java/lang/Math", name := "max", desc := "(JJ)J" } : Jvm.MethodName))).before a0 Z = true := hw _ (List.mem_of_getElem? (i := 193) rfl)
theorem tw194 {a0 : Array Value} {Z : State} (hw : ∀ d ∈ tables_1, d.before a0 Z = true) : ((Jvm.Cond.code ({ cls := "java/lang/Math", name := "max", desc := "(JJ)J" } : Jvm.MethodName) jdk_29_method_66_code (4 : Nat) (Option.some Jvm.ClassFile.FieldType.long))).before a0 Z = true := hw _ (List.mem_of_getElem? (i := 194) rfl)
theorem own_nn {x : Int32} (h : 0 ≤ x.toInt) : x.toInt = (x.toBitVec.toNat : Int) := by
  have q := BitVec.toInt_eq_toNat_cond x.toBitVec
  have e : x.toInt = x.toBitVec.toInt := rfl
  rw [e] at h ⊢
  rw [q] at h ⊢
  have := x.toBitVec.isLt
  split at h <;> rename_i c
  · rw [if_pos c]
  · omega
theorem own_nn' {x : Int32} (h : x.toBitVec.toNat < 2147483648) : x.toInt = (x.toBitVec.toNat : Int) := by
  have q := BitVec.toInt_eq_toNat_cond x.toBitVec
  have e : x.toInt = x.toBitVec.toInt := rfl
  rw [e, q, if_pos (by omega)]
theorem own_ofnat {x : Int32} (h : 0 ≤ x.toInt) : x = Int32.ofNat x.toBitVec.toNat := by
  apply Int32.toBitVec_inj.mp
  apply BitVec.eq_of_toNat_eq
  show _ = (BitVec.ofNat 32 x.toBitVec.toNat).toNat
  rw [BitVec.toNat_ofNat, Nat.mod_eq_of_lt x.toBitVec.isLt]
theorem own_b32 (x : Int32) : -2147483648 ≤ x.toInt ∧ x.toInt < 2147483648 := ⟨Int32.le_toInt x, Int32.toInt_lt x⟩
theorem own_b64 (x : Int64) : -9223372036854775808 ≤ x.toInt ∧ x.toInt < 9223372036854775808 := ⟨Int64.le_toInt x, Int64.toInt_lt x⟩
theorem own_add64 {x y : Int64} (h1 : -9223372036854775808 ≤ x.toInt + y.toInt) (h2 : x.toInt + y.toInt < 9223372036854775808) : (x + y).toInt = x.toInt + y.toInt := XT.add64 ⟨h1, h2⟩
theorem own_sub64 {x y : Int64} (h1 : -9223372036854775808 ≤ x.toInt - y.toInt) (h2 : x.toInt - y.toInt < 9223372036854775808) : (x - y).toInt = x.toInt - y.toInt := XT.sub64 ⟨h1, h2⟩
theorem own_mul64 {x y : Int64} (h1 : -9223372036854775808 ≤ x.toInt * y.toInt) (h2 : x.toInt * y.toInt < 9223372036854775808) : (x * y).toInt = x.toInt * y.toInt := XT.mul64 ⟨h1, h2⟩
theorem own_add32 {x y : Int32} (h1 : -2147483648 ≤ x.toInt + y.toInt) (h2 : x.toInt + y.toInt < 2147483648) : (x + y).toInt = x.toInt + y.toInt := XT.add32 ⟨h1, h2⟩
theorem own_sub32 {x y : Int32} (h1 : -2147483648 ≤ x.toInt - y.toInt) (h2 : x.toInt - y.toInt < 2147483648) : (x - y).toInt = x.toInt - y.toInt := XT.sub32 ⟨h1, h2⟩
theorem own_w (x : Int32) : x.toInt64.toInt = x.toInt := Int32.toInt_toInt64 x
theorem own_div64 {x y : Int64} (hx : 0 ≤ x.toInt) (hy : 0 < y.toInt) : (x / y).toInt = x.toInt / y.toInt := by
  rw [Int64.toInt_div, Int.tdiv_eq_ediv_of_nonneg hx]
  have b := own_b64 x
  have h1 : 0 ≤ x.toInt / y.toInt := Int.ediv_nonneg hx (Int.le_of_lt hy)
  have h2 : x.toInt / y.toInt ≤ x.toInt := Int.ediv_le_self _ hx
  exact Int.bmod_eq_of_le (by omega) (by omega)
theorem own_div32 {x y : Int32} (hx : 0 ≤ x.toInt) (hy : 0 < y.toInt) : (x / y).toInt = x.toInt / y.toInt := by
  rw [Int32.toInt_div, Int.tdiv_eq_ediv_of_nonneg hx]
  have b := own_b32 x
  have h1 : 0 ≤ x.toInt / y.toInt := Int.ediv_nonneg hx (Int.le_of_lt hy)
  have h2 : x.toInt / y.toInt ≤ x.toInt := Int.ediv_le_self _ hx
  exact Int.bmod_eq_of_le (by omega) (by omega)
theorem own_rem32 {x y : Int32} (hx : 0 ≤ x.toInt) : (x % y).toInt = x.toInt % y.toInt := by
  rw [Int32.toInt_mod, Int.tmod_eq_emod_of_nonneg hx]
theorem own_pos32 (x : Int32) : 0 ≤ (x &&& 2147483647).toInt := by
  have q := (XT.and_neg32 x 2147483647)
  rw [XT.negI32] at q
  have r : ¬ (x &&& 2147483647).toInt < 0 := fun h => absurd (q.mp h).2 (by decide)
  omega
theorem own_pos64 (x : Int64) : 0 ≤ (x &&& 9223372036854775807).toInt := by
  have q := (XT.and_neg64 x 9223372036854775807)
  rw [XT.negI64] at q
  have r : ¬ (x &&& 9223372036854775807).toInt < 0 := fun h => absurd (q.mp h).2 (by decide)
  omega
theorem own_lt32 {x y : Int32} : x < y ↔ x.toInt < y.toInt := Int32.lt_iff_toInt_lt
theorem own_lt64 {x y : Int64} : x < y ↔ x.toInt < y.toInt := Int64.lt_iff_toInt_lt
theorem own_eq32 {x y : Int32} : x = y ↔ x.toInt = y.toInt := ⟨fun h => h ▸ rfl, Int32.toInt_inj.mp⟩
theorem own_eq64 {x y : Int64} : x = y ↔ x.toInt = y.toInt := ⟨fun h => h ▸ rfl, Int64.toInt_inj.mp⟩
theorem own_00 : ((0 : Int32) = (0 : Int32)) = True := eq_self _
theorem own_10 : ((1 : Int32) = (0 : Int32)) = False := eq_false (by decide)
theorem own_two {x v : Int32} (h : v = x &&& 1) : v = 0 ∨ v = 1 := by
  have e : (x &&& 1).toBitVec.toNat = x.toBitVec.toNat % 2 := by
    rw [Int32.toBitVec_and, BitVec.toNat_and]
    show x.toBitVec.toNat &&& 1 = _
    exact Nat.and_two_pow_sub_one_eq_mod x.toBitVec.toNat 1
  have k := own_nn' (x := x &&& 1) (by omega)
  have q := own_ofnat (x := x &&& 1) (by omega)
  subst h
  have : (x &&& 1).toBitVec.toNat = 0 ∨ (x &&& 1).toBitVec.toNat = 1 := by omega
  rcases this with h | h <;> rw [h] at q <;> rw [q] <;> decide
theorem own_mx (f0 f1 : Int64) : (if f1 < f0 then f0 else f1) = (if f0 < f1 then f1 else f0) := by
  by_cases c : f1 < f0
  · rw [if_pos c, if_neg (by rw [own_lt64] at c ⊢; omega)]
  · by_cases d : f0 < f1
    · rw [if_neg c, if_pos d]
    · rw [if_neg c, if_neg d, own_eq64]; rw [own_lt64] at c d; omega
theorem own_none {args : Array Value} {Z : State} {t : Term} {a : Addr} (ev : t.eval args Z none [] Z = some (.ref a)) (h0 : (Cond.arrayOf t .long).value args Z none Z [] = some true) (hl : (Cond.eq (Term.length t) (Term.int 0)).value args Z none Z [] = some true) : Arj Z Z.heap a [] := by
  obtain ⟨cl, A⟩ := Arr.start ev h0
  have hl' := Cond.eq_int (Cond.before_iff.mpr hl) rfl
  obtain ⟨d', D', hev', harrAt, hlen⟩ := Term.length_spec hl'
  cases ev.symm.trans hev'
  obtain ⟨hcell', -, -, -⟩ := State.arrayAt?_spec harrAt
  cases A.1.symm.trans hcell'
  have h31 : cl.slots.size < 2147483648 := by
    by_cases q : cl.slots.size < 2147483648
    · exact q
    · simp [Term.eval, ev, harrAt, q] at hl'
  have hsz : cl.slots.size = 0 := by
    have e : (Term.length t).eval args Z none [] Z = some (.int (Int32.ofNat cl.slots.size)) := by simp [Term.eval, ev, harrAt, h31]
    have e2 := Value.int.inj (Option.some.inj (e.symm.trans hl'))
    have e3 := congrArg Int32.toInt e2
    rw [Int32.toInt_ofNat_small h31] at e3
    have c : (0 : Int32).toInt = 0 := by decide
    rw [c] at e3; omega
  refine ⟨cl, A, ?_, by decide⟩
  have : cl.slots = #[] := Array.eq_empty_of_size_eq_zero hsz
  rw [this]; rfl

theorem d23_0 : decode jdk_29_method_69_code 0 = .ok (.iload_n 0, 1) := by decide +kernel
theorem d23_1 : decode jdk_29_method_69_code 1 = .ok (.iload_n 1, 1) := by decide +kernel
theorem d23_2 : decode jdk_29_method_69_code 2 = .ok (.if_icmp .gt 7, 3) := by decide +kernel
theorem d23_5 : decode jdk_29_method_69_code 5 = .ok (.iload_n 0, 1) := by decide +kernel
theorem d23_6 : decode jdk_29_method_69_code 6 = .ok (.goto 4, 3) := by decide +kernel
theorem d23_9 : decode jdk_29_method_69_code 9 = .ok (.iload_n 1, 1) := by decide +kernel
theorem d23_10 : decode jdk_29_method_69_code 10 = .ok (.ireturn, 1) := by decide +kernel

theorem pd23 : parseMethodDescriptor "(II)I" = some ⟨[.int, .int], some .int⟩ := by decide +kernel
theorem pl23 : plainFor (⟨"java/lang/Math", "min", "(II)I"⟩ : MethodName) = true := by first | exact plainFor_of_name (by first | (simp [plainName, overriddenIn]; done) | decide +kernel) | decide +kernel

theorem ef_k_minI (m : MethodId) (x0 : Int32) (x1 : Int32) : entryFrame m #[(.int x0), (.int x1)] 2 = mkF m 0 #[.val (.int x0), .val (.int x1)] [] := by first | (simp [entryFrame, mkF, argsToLocals, Value.category]; done) | rfl

set_option maxRecDepth 65536 in
set_option maxHeartbeats 40000000 in
theorem k_minI {l : Launch} {Z : State} {a0 : Array Value} (hw : ∀ d ∈ tables_1, d.before a0 Z = true)  (h : Heap) (hz : Z.heap.size ≤ h.size) (x : Int32) (z : Int32)     : Go l Z (⟨"java/lang/Math", "min", "(II)I"⟩ : MethodName) jdk_29_method_69_code 2 (Option.some Jvm.ClassFile.FieldType.int) ({ frames := 0, cells := 0, slots := 0, locals := 0 } : Room) (QI fun rz h' => rz = (if z < x then z else x) ∧ h' = h) 0 0 h 0 #[.val (.int x), .val (.int z)] [] := by
  refine Go.iload_n 1 d23_0 rfl rfl ?_
  refine Go.iload_n 2 d23_1 rfl rfl ?_
  refine Go.icmp_gt 9 5 d23_2 (by decide) (by decide) rfl (fun c1 => ?_) (fun c1 => ?_)
  ·
    refine Go.iload_n 10 d23_9 rfl rfl ?_
    refine Go.ireturn d23_10 rfl (by decide) (by decide) ?_
    exact ⟨by first | rfl | (simp [*]; done) | simp_all, rfl⟩
  ·
    refine Go.iload_n 6 d23_5 rfl rfl ?_
    refine Go.goto 10 d23_6 (by decide) (by decide) ?_
    refine Go.ireturn d23_10 rfl (by decide) (by decide) ?_
    exact ⟨by first | rfl | (simp [*]; done) | simp_all, rfl⟩

theorem d29_0 : decode jdk_29_method_70_code 0 = .ok (.lload_n 0, 1) := by decide +kernel
theorem d29_1 : decode jdk_29_method_70_code 1 = .ok (.lload_n 2, 1) := by decide +kernel
theorem d29_2 : decode jdk_29_method_70_code 2 = .ok (.lcmp, 1) := by decide +kernel
theorem d29_3 : decode jdk_29_method_70_code 3 = .ok (.ifCond .gt 7, 3) := by decide +kernel
theorem d29_6 : decode jdk_29_method_70_code 6 = .ok (.lload_n 0, 1) := by decide +kernel
theorem d29_7 : decode jdk_29_method_70_code 7 = .ok (.goto 4, 3) := by decide +kernel
theorem d29_10 : decode jdk_29_method_70_code 10 = .ok (.lload_n 2, 1) := by decide +kernel
theorem d29_11 : decode jdk_29_method_70_code 11 = .ok (.lreturn, 1) := by decide +kernel

theorem pd29 : parseMethodDescriptor "(JJ)J" = some ⟨[.long, .long], some .long⟩ := by decide +kernel
theorem pl29 : plainFor (⟨"java/lang/Math", "min", "(JJ)J"⟩ : MethodName) = true := by first | exact plainFor_of_name (by first | (simp [plainName, overriddenIn]; done) | decide +kernel) | decide +kernel

theorem ef_k_min (m : MethodId) (x0 : Int64) (x1 : Int64) : entryFrame m #[(.long x0), (.long x1)] 4 = mkF m 0 #[.val (.long x0), .second, .val (.long x1), .second] [] := by first | (simp [entryFrame, mkF, argsToLocals, Value.category]; done) | rfl

set_option maxRecDepth 65536 in
set_option maxHeartbeats 40000000 in
theorem k_min {l : Launch} {Z : State} {a0 : Array Value} (hw : ∀ d ∈ tables_1, d.before a0 Z = true)  (h : Heap) (hz : Z.heap.size ≤ h.size) (x : Int64) (z : Int64)     : Go l Z (⟨"java/lang/Math", "min", "(JJ)J"⟩ : MethodName) jdk_29_method_70_code 4 (Option.some Jvm.ClassFile.FieldType.long) ({ frames := 0, cells := 0, slots := 0, locals := 0 } : Room) (QJ fun rz h' => rz = (if z < x then z else x) ∧ h' = h) 0 0 h 0 #[.val (.long x), .second, .val (.long z), .second] [] := by
  refine Go.lload_n 1 d29_0 rfl rfl ?_
  refine Go.lload_n 2 d29_1 rfl rfl ?_
  refine Go.lcmp 3 d29_2 rfl ?_
  refine Go.lcmp_gt 10 6 d29_3 (by decide) (by decide) rfl (fun c1 => ?_) (fun c1 => ?_)
  ·
    refine Go.lload_n 11 d29_10 rfl rfl ?_
    refine Go.lreturn d29_11 rfl (by decide) (by decide) ?_
    exact ⟨by first | rfl | (simp [*]; done) | simp_all, rfl⟩
  ·
    refine Go.lload_n 7 d29_6 rfl rfl ?_
    refine Go.goto 11 d29_7 (by decide) (by decide) ?_
    refine Go.lreturn d29_11 rfl (by decide) (by decide) ?_
    exact ⟨by first | rfl | (simp [*]; done) | simp_all, rfl⟩

theorem d30_0 : decode jdk_29_method_66_code 0 = .ok (.lload_n 0, 1) := by decide +kernel
theorem d30_1 : decode jdk_29_method_66_code 1 = .ok (.lload_n 2, 1) := by decide +kernel
theorem d30_2 : decode jdk_29_method_66_code 2 = .ok (.lcmp, 1) := by decide +kernel
theorem d30_3 : decode jdk_29_method_66_code 3 = .ok (.ifCond .lt 7, 3) := by decide +kernel
theorem d30_6 : decode jdk_29_method_66_code 6 = .ok (.lload_n 0, 1) := by decide +kernel
theorem d30_7 : decode jdk_29_method_66_code 7 = .ok (.goto 4, 3) := by decide +kernel
theorem d30_10 : decode jdk_29_method_66_code 10 = .ok (.lload_n 2, 1) := by decide +kernel
theorem d30_11 : decode jdk_29_method_66_code 11 = .ok (.lreturn, 1) := by decide +kernel

theorem pd30 : parseMethodDescriptor "(JJ)J" = some ⟨[.long, .long], some .long⟩ := by decide +kernel
theorem pl30 : plainFor (⟨"java/lang/Math", "max", "(JJ)J"⟩ : MethodName) = true := by first | exact plainFor_of_name (by first | (simp [plainName, overriddenIn]; done) | decide +kernel) | decide +kernel

theorem ef_k_max (m : MethodId) (x0 : Int64) (x1 : Int64) : entryFrame m #[(.long x0), (.long x1)] 4 = mkF m 0 #[.val (.long x0), .second, .val (.long x1), .second] [] := by first | (simp [entryFrame, mkF, argsToLocals, Value.category]; done) | rfl

set_option maxRecDepth 65536 in
set_option maxHeartbeats 40000000 in
theorem k_max {l : Launch} {Z : State} {a0 : Array Value} (hw : ∀ d ∈ tables_1, d.before a0 Z = true)  (h : Heap) (hz : Z.heap.size ≤ h.size) (x : Int64) (z : Int64)     : Go l Z (⟨"java/lang/Math", "max", "(JJ)J"⟩ : MethodName) jdk_29_method_66_code 4 (Option.some Jvm.ClassFile.FieldType.long) ({ frames := 0, cells := 0, slots := 0, locals := 0 } : Room) (QJ fun rz h' => rz = (if x < z then z else x) ∧ h' = h) 0 0 h 0 #[.val (.long x), .second, .val (.long z), .second] [] := by
  refine Go.lload_n 1 d30_0 rfl rfl ?_
  refine Go.lload_n 2 d30_1 rfl rfl ?_
  refine Go.lcmp 3 d30_2 rfl ?_
  refine Go.lcmp_lt 10 6 d30_3 (by decide) (by decide) rfl (fun c1 => ?_) (fun c1 => ?_)
  ·
    refine Go.lload_n 11 d30_10 rfl rfl ?_
    refine Go.lreturn d30_11 rfl (by decide) (by decide) ?_
    exact ⟨by first | rfl | (simp [*]; done) | simp_all, rfl⟩
  ·
    refine Go.lload_n 7 d30_6 rfl rfl ?_
    refine Go.goto 11 d30_7 (by decide) (by decide) ?_
    refine Go.lreturn d30_11 rfl (by decide) (by decide) ?_
    exact ⟨by first | rfl | (simp [*]; done) | simp_all, rfl⟩

theorem d8_0 : decode jdk_30_method_1_code 0 = .ok (.aload_n 0, 1) := by decide +kernel
theorem d8_1 : decode jdk_30_method_1_code 1 = .ok (.invokespecial 1, 3) := by decide +kernel
theorem d8_4 : decode jdk_30_method_1_code 4 = .ok (.return_, 1) := by decide +kernel

theorem pd8 : parseMethodDescriptor "()V" = some ⟨[], none⟩ := by decide +kernel
theorem pl8 : plainFor (⟨"java/lang/Record", "<init>", "()V"⟩ : MethodName) = true := by first | exact plainFor_of_name (by first | (simp [plainName, overriddenIn]; done) | decide +kernel) | decide +kernel

theorem ef_k_rec (m : MethodId) (x0 : Addr) : entryFrame m #[(.ref x0)] 1 = mkF m 0 #[.val (.ref x0)] [] := by first | (simp [entryFrame, mkF, argsToLocals, Value.category]; done) | rfl

set_option maxRecDepth 65536 in
set_option maxHeartbeats 40000000 in
theorem k_rec {l : Launch} {Z : State} {a0 : Array Value} (hw : ∀ d ∈ tables_1, d.before a0 Z = true)  (h : Heap) (hz : Z.heap.size ≤ h.size) (a : Addr)     : Go l Z (⟨"java/lang/Record", "<init>", "()V"⟩ : MethodName) jdk_30_method_1_code 1 (Option.none : Option Jvm.ClassFile.FieldType) ({ frames := 1, cells := 0, slots := 0, locals := 16 } : Room) (QV fun h' => h' = h) 0 0 h 0 #[.val (.ref a)] [] := by
  refine Go.aload_n 1 d8_0 rfl rfl rfl ?_
  refine Go.initO 0 4 d8_1 (tw52 hw) (tw7 hw) (tw8 hw) rfl (by decide) (Nat.le_of_eq rfl) (by decide) rfl ?_
  refine Go.vreturn d8_4 rfl (by decide) (by decide) ?_
  rfl

theorem d17_0 : decode jdk_22_method_1_code 0 = .ok (.aload_n 0, 1) := by decide +kernel
theorem d17_1 : decode jdk_22_method_1_code 1 = .ok (.invokespecial 1, 3) := by decide +kernel
theorem d17_4 : decode jdk_22_method_1_code 4 = .ok (.return_, 1) := by decide +kernel

theorem pd17 : parseMethodDescriptor "()V" = some ⟨[], none⟩ := by decide +kernel
theorem pl17 : plainFor (⟨"java/util/AbstractCollection", "<init>", "()V"⟩ : MethodName) = true := by first | exact plainFor_of_name (by first | (simp [plainName, overriddenIn]; done) | decide +kernel) | decide +kernel

theorem ef_k_col (m : MethodId) (x0 : Addr) : entryFrame m #[(.ref x0)] 1 = mkF m 0 #[.val (.ref x0)] [] := by first | (simp [entryFrame, mkF, argsToLocals, Value.category]; done) | rfl

set_option maxRecDepth 65536 in
set_option maxHeartbeats 40000000 in
theorem k_col {l : Launch} {Z : State} {a0 : Array Value} (hw : ∀ d ∈ tables_1, d.before a0 Z = true)  (h : Heap) (hz : Z.heap.size ≤ h.size) (a : Addr)     : Go l Z (⟨"java/util/AbstractCollection", "<init>", "()V"⟩ : MethodName) jdk_22_method_1_code 1 (Option.none : Option Jvm.ClassFile.FieldType) ({ frames := 1, cells := 0, slots := 0, locals := 16 } : Room) (QV fun h' => h' = h) 0 0 h 0 #[.val (.ref a)] [] := by
  refine Go.aload_n 1 d17_0 rfl rfl rfl ?_
  refine Go.initO 0 4 d17_1 (tw118 hw) (tw7 hw) (tw8 hw) rfl (by decide) (Nat.le_of_eq rfl) (by decide) rfl ?_
  refine Go.vreturn d17_4 rfl (by decide) (by decide) ?_
  rfl

theorem d7_0 : decode prog_83_method_1_code 0 = .ok (.aload_n 0, 1) := by decide +kernel
theorem d7_1 : decode prog_83_method_1_code 1 = .ok (.invokespecial 1, 3) := by decide +kernel
theorem d7_4 : decode prog_83_method_1_code 4 = .ok (.aload_n 0, 1) := by decide +kernel
theorem d7_5 : decode prog_83_method_1_code 5 = .ok (.iload_n 1, 1) := by decide +kernel
theorem d7_6 : decode prog_83_method_1_code 6 = .ok (.putfield 7, 3) := by decide +kernel
theorem d7_9 : decode prog_83_method_1_code 9 = .ok (.return_, 1) := by decide +kernel

theorem pd7 : parseMethodDescriptor "(I)V" = some ⟨[.int], none⟩ := by decide +kernel
theorem pl7 : plainFor (⟨"com/example/interlace/interlace/pattern/Structure$Leaf", "<init>", "(I)V"⟩ : MethodName) = true := by first | exact plainFor_of_name (by first | (simp [plainName, overriddenIn]; done) | decide +kernel) | decide +kernel

theorem ef_k_leaf (m : MethodId) (x0 : Addr) (x1 : Int32) : entryFrame m #[(.ref x0), (.int x1)] 2 = mkF m 0 #[.val (.ref x0), .val (.int x1)] [] := by first | (simp [entryFrame, mkF, argsToLocals, Value.category]; done) | rfl

set_option maxRecDepth 65536 in
set_option maxHeartbeats 40000000 in
theorem k_leaf {l : Launch} {Z : State} {a0 : Array Value} (hw : ∀ d ∈ tables_1, d.before a0 Z = true)  (h : Heap) (hz : Z.heap.size ≤ h.size) (a : Addr) (v : Int32) (fa0 : Exa Z h a "com/example/interlace/interlace/pattern/Structure$Leaf") (fa1 : Fld Z h a "com/example/interlace/interlace/pattern/Structure$Leaf" "variable" "I" (.int (0 : Int32)))  (ge_a : Z.heap.size ≤ a)  : Go l Z (⟨"com/example/interlace/interlace/pattern/Structure$Leaf", "<init>", "(I)V"⟩ : MethodName) prog_83_method_1_code 2 (Option.none : Option Jvm.ClassFile.FieldType) ({ frames := 2, cells := 0, slots := 0, locals := 40 } : Room) (QV fun h' => Keep h h' [a] ∧ Exa Z h' a "com/example/interlace/interlace/pattern/Structure$Leaf" ∧ Fld Z h' a "com/example/interlace/interlace/pattern/Structure$Leaf" "variable" "I" (.int v)) 0 0 h 0 #[.val (.ref a), .val (.int v)] [] := by
  have kp0 : Keep h h [a] := Keep.refl _ _
  refine Go.aload_n 1 d7_0 rfl rfl rfl ?_
  refine Go.callCp [] [] 4 d7_1 rfl (tw47 hw) (tw48 hw) (tw50 hw) (tw51 hw) pl8 (by decide) (lenOf pd8 rfl) rfl (fun m => ef_k_rec m a) (k_rec hw h hz a) 0 rfl (Nat.le_of_eq rfl) (by decide) (by decide) (by decide) (by decide) rfl ?_
  refine Go.aload_n 5 d7_4 rfl rfl rfl ?_
  refine Go.iload_n 6 d7_5 rfl rfl ?_
  refine Go.putfield (ty := .int) 9 d7_6 (tw53 hw) fa1 fa0 (Or.inr ⟨(tw54 hw), rfl, rfl⟩) (tw42 hw) (by decide) rfl rfl ge_a rfl (fun h4 W5 => ?_)
  have f6 : Exa Z h4 a "com/example/interlace/interlace/pattern/Structure$Leaf" := fa0.wr W5
  have f7 : Fld Z h4 a "com/example/interlace/interlace/pattern/Structure$Leaf" "variable" "I" (.int v) := fa1.same W5
  have zs8 : Z.heap.size ≤ h4.size := W5.size ▸ hz
  have kp9 : Keep h h4 [a] := kp0.wr W5 (Or.inl (by simp))
  refine Go.vreturn d7_9 rfl (by decide) (by decide) ?_
  exact ⟨kp9, f6, f7⟩

theorem d9_0 : decode prog_47_method_1_code 0 = .ok (.aload_n 0, 1) := by decide +kernel
theorem d9_1 : decode prog_47_method_1_code 1 = .ok (.invokespecial 1, 3) := by decide +kernel
theorem d9_4 : decode prog_47_method_1_code 4 = .ok (.aload_n 0, 1) := by decide +kernel
theorem d9_5 : decode prog_47_method_1_code 5 = .ok (.aload_n 1, 1) := by decide +kernel
theorem d9_6 : decode prog_47_method_1_code 6 = .ok (.putfield 7, 3) := by decide +kernel
theorem d9_9 : decode prog_47_method_1_code 9 = .ok (.aload_n 0, 1) := by decide +kernel
theorem d9_10 : decode prog_47_method_1_code 10 = .ok (.iload_n 2, 1) := by decide +kernel
theorem d9_11 : decode prog_47_method_1_code 11 = .ok (.putfield 13, 3) := by decide +kernel
theorem d9_14 : decode prog_47_method_1_code 14 = .ok (.aload_n 0, 1) := by decide +kernel
theorem d9_15 : decode prog_47_method_1_code 15 = .ok (.aload_n 3, 1) := by decide +kernel
theorem d9_16 : decode prog_47_method_1_code 16 = .ok (.putfield 17, 3) := by decide +kernel
theorem d9_19 : decode prog_47_method_1_code 19 = .ok (.return_, 1) := by decide +kernel

theorem pd9 : parseMethodDescriptor "(Lcom/example/interlace/interlace/pattern/Structure;ZLcom/example/interlace/interlace/engine/Plan$Required;)V" = some ⟨[(.object "com/example/interlace/interlace/pattern/Structure"), .boolean, (.object "com/example/interlace/interlace/engine/Plan$Required")], none⟩ := by decide +kernel
theorem pl9 : plainFor (⟨"com/example/interlace/interlace/engine/Plan$Required", "<init>", "(Lcom/example/interlace/interlace/pattern/Structure;ZLcom/example/interlace/interlace/engine/Plan$Required;)V"⟩ : MethodName) = true := by first | exact plainFor_of_name (by first | (simp [plainName, overriddenIn]; done) | decide +kernel) | decide +kernel

theorem ef_k_reqN (m : MethodId) (x0 : Addr) (x1 : Addr) (x2 : Int32) (x3 : Unit) : entryFrame m #[(.ref x0), (.ref x1), (.int x2), .null] 4 = mkF m 0 #[.val (.ref x0), .val (.ref x1), .val (.int x2), .val .null] [] := by first | (simp [entryFrame, mkF, argsToLocals, Value.category]; done) | rfl

set_option maxRecDepth 65536 in
set_option maxHeartbeats 40000000 in
theorem k_reqN {l : Launch} {Z : State} {a0 : Array Value} (hw : ∀ d ∈ tables_1, d.before a0 Z = true)  (h : Heap) (hz : Z.heap.size ≤ h.size) (a : Addr) (o : Addr) (r : Unit) (fa0 : Exa Z h a "com/example/interlace/interlace/engine/Plan$Required") (fa1 : Fld Z h a "com/example/interlace/interlace/engine/Plan$Required" "operand" "Lcom/example/interlace/interlace/pattern/Structure;" (.null)) (fa2 : Fld Z h a "com/example/interlace/interlace/engine/Plan$Required" "before" "Z" (.int (0 : Int32))) (fa3 : Fld Z h a "com/example/interlace/interlace/engine/Plan$Required" "rest" "Lcom/example/interlace/interlace/engine/Plan$Required;" (.null))  (ge_a : Z.heap.size ≤ a)  : Go l Z (⟨"com/example/interlace/interlace/engine/Plan$Required", "<init>", "(Lcom/example/interlace/interlace/pattern/Structure;ZLcom/example/interlace/interlace/engine/Plan$Required;)V"⟩ : MethodName) prog_47_method_1_code 4 (Option.none : Option Jvm.ClassFile.FieldType) ({ frames := 2, cells := 0, slots := 0, locals := 40 } : Room) (QV fun h' => Keep h h' [a] ∧ Exa Z h' a "com/example/interlace/interlace/engine/Plan$Required" ∧ Fld Z h' a "com/example/interlace/interlace/engine/Plan$Required" "operand" "Lcom/example/interlace/interlace/pattern/Structure;" (.ref o) ∧ Fld Z h' a "com/example/interlace/interlace/engine/Plan$Required" "rest" "Lcom/example/interlace/interlace/engine/Plan$Required;" (.null)) 0 0 h 0 #[.val (.ref a), .val (.ref o), .val (.int (0 : Int32)), .val (.null)] [] := by
  have kp0 : Keep h h [a] := Keep.refl _ _
  refine Go.aload_n 1 d9_0 rfl rfl rfl ?_
  refine Go.callCp [] [] 4 d9_1 rfl (tw58 hw) (tw48 hw) (tw50 hw) (tw51 hw) pl8 (by decide) (lenOf pd8 rfl) rfl (fun m => ef_k_rec m a) (k_rec hw h hz a) 0 rfl (Nat.le_of_eq rfl) (by decide) (by decide) (by decide) (by decide) rfl ?_
  refine Go.aload_n 5 d9_4 rfl rfl rfl ?_
  refine Go.aload_n 6 d9_5 rfl rfl rfl ?_
  refine Go.putfield (ty := (.object "com/example/interlace/interlace/pattern/Structure")) 9 d9_6 (tw59 hw) fa1 fa0 (Or.inr ⟨(tw60 hw), rfl, rfl⟩) (tw39 hw) (by decide) rfl rfl ge_a rfl (fun h4 W5 => ?_)
  have f6 : Exa Z h4 a "com/example/interlace/interlace/engine/Plan$Required" := fa0.wr W5
  have f7 : Fld Z h4 a "com/example/interlace/interlace/engine/Plan$Required" "operand" "Lcom/example/interlace/interlace/pattern/Structure;" (.ref o) := fa1.same W5
  have f8 : Fld Z h4 a "com/example/interlace/interlace/engine/Plan$Required" "before" "Z" (.int (0 : Int32)) := fa2.other W5 (Or.inr (slot_ne (Or.inr (tw62 hw)) (Or.inr (tw60 hw)) (by decide) (by decide +kernel : parseFieldDescriptor "Z" = some .boolean) (by decide +kernel : parseFieldDescriptor "Lcom/example/interlace/interlace/pattern/Structure;" = some (.object "com/example/interlace/interlace/pattern/Structure"))))
  have f9 : Fld Z h4 a "com/example/interlace/interlace/engine/Plan$Required" "rest" "Lcom/example/interlace/interlace/engine/Plan$Required;" (.null) := fa3.other W5 (Or.inr (slot_ne (Or.inr (tw64 hw)) (Or.inr (tw60 hw)) (by decide) (by decide +kernel : parseFieldDescriptor "Lcom/example/interlace/interlace/engine/Plan$Required;" = some (.object "com/example/interlace/interlace/engine/Plan$Required")) (by decide +kernel : parseFieldDescriptor "Lcom/example/interlace/interlace/pattern/Structure;" = some (.object "com/example/interlace/interlace/pattern/Structure"))))
  have zs10 : Z.heap.size ≤ h4.size := W5.size ▸ hz
  have kp11 : Keep h h4 [a] := kp0.wr W5 (Or.inl (by simp))
  refine Go.aload_n 10 d9_9 rfl rfl rfl ?_
  refine Go.iload_n 11 d9_10 rfl rfl ?_
  refine Go.putfieldN (ty := .boolean) (v' := .int (0 : Int32)) 14 d9_11 (tw61 hw) f8 f6 (Or.inr ⟨(tw62 hw), rfl, rfl⟩) (tw39 hw) (by decide) (by decide) (by decide) ge_a rfl (fun h12 W13 => ?_)
  have f14 : Exa Z h12 a "com/example/interlace/interlace/engine/Plan$Required" := f6.wr W13
  have f15 : Fld Z h12 a "com/example/interlace/interlace/engine/Plan$Required" "operand" "Lcom/example/interlace/interlace/pattern/Structure;" (.ref o) := f7.other W13 (Or.inr (slot_ne (Or.inr (tw60 hw)) (Or.inr (tw62 hw)) (by decide) (by decide +kernel : parseFieldDescriptor "Lcom/example/interlace/interlace/pattern/Structure;" = some (.object "com/example/interlace/interlace/pattern/Structure")) (by decide +kernel : parseFieldDescriptor "Z" = some .boolean)))
  have f16 : Fld Z h12 a "com/example/interlace/interlace/engine/Plan$Required" "before" "Z" (.int (0 : Int32)) := f8.same W13
  have f17 : Fld Z h12 a "com/example/interlace/interlace/engine/Plan$Required" "rest" "Lcom/example/interlace/interlace/engine/Plan$Required;" (.null) := f9.other W13 (Or.inr (slot_ne (Or.inr (tw64 hw)) (Or.inr (tw62 hw)) (by decide) (by decide +kernel : parseFieldDescriptor "Lcom/example/interlace/interlace/engine/Plan$Required;" = some (.object "com/example/interlace/interlace/engine/Plan$Required")) (by decide +kernel : parseFieldDescriptor "Z" = some .boolean)))
  have zs18 : Z.heap.size ≤ h12.size := W13.size ▸ zs10
  have kp19 : Keep h h12 [a] := kp11.wr W13 (Or.inl (by simp))
  refine Go.aload_n 15 d9_14 rfl rfl rfl ?_
  refine Go.aload_n 16 d9_15 rfl rfl rfl ?_
  refine Go.putfield (ty := (.object "com/example/interlace/interlace/engine/Plan$Required")) 19 d9_16 (tw63 hw) f17 f14 (Or.inr ⟨(tw64 hw), rfl, rfl⟩) (tw39 hw) (by decide) rfl rfl ge_a rfl (fun h20 W21 => ?_)
  have f22 : Exa Z h20 a "com/example/interlace/interlace/engine/Plan$Required" := f14.wr W21
  have f23 : Fld Z h20 a "com/example/interlace/interlace/engine/Plan$Required" "operand" "Lcom/example/interlace/interlace/pattern/Structure;" (.ref o) := f15.other W21 (Or.inr (slot_ne (Or.inr (tw60 hw)) (Or.inr (tw64 hw)) (by decide) (by decide +kernel : parseFieldDescriptor "Lcom/example/interlace/interlace/pattern/Structure;" = some (.object "com/example/interlace/interlace/pattern/Structure")) (by decide +kernel : parseFieldDescriptor "Lcom/example/interlace/interlace/engine/Plan$Required;" = some (.object "com/example/interlace/interlace/engine/Plan$Required"))))
  have f24 : Fld Z h20 a "com/example/interlace/interlace/engine/Plan$Required" "before" "Z" (.int (0 : Int32)) := f16.other W21 (Or.inr (slot_ne (Or.inr (tw62 hw)) (Or.inr (tw64 hw)) (by decide) (by decide +kernel : parseFieldDescriptor "Z" = some .boolean) (by decide +kernel : parseFieldDescriptor "Lcom/example/interlace/interlace/engine/Plan$Required;" = some (.object "com/example/interlace/interlace/engine/Plan$Required"))))
  have f25 : Fld Z h20 a "com/example/interlace/interlace/engine/Plan$Required" "rest" "Lcom/example/interlace/interlace/engine/Plan$Required;" (.null) := f17.same W21
  have zs26 : Z.heap.size ≤ h20.size := W21.size ▸ zs18
  have kp27 : Keep h h20 [a] := kp19.wr W21 (Or.inl (by simp))
  refine Go.vreturn d9_19 rfl (by decide) (by decide) ?_
  exact ⟨kp27, f22, f23, f25⟩

theorem ef_k_reqA (m : MethodId) (x0 : Addr) (x1 : Addr) (x2 : Int32) (x3 : Addr) : entryFrame m #[(.ref x0), (.ref x1), (.int x2), (.ref x3)] 4 = mkF m 0 #[.val (.ref x0), .val (.ref x1), .val (.int x2), .val (.ref x3)] [] := by first | (simp [entryFrame, mkF, argsToLocals, Value.category]; done) | rfl

set_option maxRecDepth 65536 in
set_option maxHeartbeats 40000000 in
theorem k_reqA {l : Launch} {Z : State} {a0 : Array Value} (hw : ∀ d ∈ tables_1, d.before a0 Z = true)  (h : Heap) (hz : Z.heap.size ≤ h.size) (a : Addr) (o : Addr) (r : Addr) (fa0 : Exa Z h a "com/example/interlace/interlace/engine/Plan$Required") (fa1 : Fld Z h a "com/example/interlace/interlace/engine/Plan$Required" "operand" "Lcom/example/interlace/interlace/pattern/Structure;" (.null)) (fa2 : Fld Z h a "com/example/interlace/interlace/engine/Plan$Required" "before" "Z" (.int (0 : Int32))) (fa3 : Fld Z h a "com/example/interlace/interlace/engine/Plan$Required" "rest" "Lcom/example/interlace/interlace/engine/Plan$Required;" (.null))  (ge_a : Z.heap.size ≤ a)  : Go l Z (⟨"com/example/interlace/interlace/engine/Plan$Required", "<init>", "(Lcom/example/interlace/interlace/pattern/Structure;ZLcom/example/interlace/interlace/engine/Plan$Required;)V"⟩ : MethodName) prog_47_method_1_code 4 (Option.none : Option Jvm.ClassFile.FieldType) ({ frames := 2, cells := 0, slots := 0, locals := 40 } : Room) (QV fun h' => Keep h h' [a] ∧ Exa Z h' a "com/example/interlace/interlace/engine/Plan$Required" ∧ Fld Z h' a "com/example/interlace/interlace/engine/Plan$Required" "operand" "Lcom/example/interlace/interlace/pattern/Structure;" (.ref o) ∧ Fld Z h' a "com/example/interlace/interlace/engine/Plan$Required" "rest" "Lcom/example/interlace/interlace/engine/Plan$Required;" (.ref r)) 0 0 h 0 #[.val (.ref a), .val (.ref o), .val (.int (0 : Int32)), .val (.ref r)] [] := by
  have kp0 : Keep h h [a] := Keep.refl _ _
  refine Go.aload_n 1 d9_0 rfl rfl rfl ?_
  refine Go.callCp [] [] 4 d9_1 rfl (tw58 hw) (tw48 hw) (tw50 hw) (tw51 hw) pl8 (by decide) (lenOf pd8 rfl) rfl (fun m => ef_k_rec m a) (k_rec hw h hz a) 0 rfl (Nat.le_of_eq rfl) (by decide) (by decide) (by decide) (by decide) rfl ?_
  refine Go.aload_n 5 d9_4 rfl rfl rfl ?_
  refine Go.aload_n 6 d9_5 rfl rfl rfl ?_
  refine Go.putfield (ty := (.object "com/example/interlace/interlace/pattern/Structure")) 9 d9_6 (tw59 hw) fa1 fa0 (Or.inr ⟨(tw60 hw), rfl, rfl⟩) (tw39 hw) (by decide) rfl rfl ge_a rfl (fun h4 W5 => ?_)
  have f6 : Exa Z h4 a "com/example/interlace/interlace/engine/Plan$Required" := fa0.wr W5
  have f7 : Fld Z h4 a "com/example/interlace/interlace/engine/Plan$Required" "operand" "Lcom/example/interlace/interlace/pattern/Structure;" (.ref o) := fa1.same W5
  have f8 : Fld Z h4 a "com/example/interlace/interlace/engine/Plan$Required" "before" "Z" (.int (0 : Int32)) := fa2.other W5 (Or.inr (slot_ne (Or.inr (tw62 hw)) (Or.inr (tw60 hw)) (by decide) (by decide +kernel : parseFieldDescriptor "Z" = some .boolean) (by decide +kernel : parseFieldDescriptor "Lcom/example/interlace/interlace/pattern/Structure;" = some (.object "com/example/interlace/interlace/pattern/Structure"))))
  have f9 : Fld Z h4 a "com/example/interlace/interlace/engine/Plan$Required" "rest" "Lcom/example/interlace/interlace/engine/Plan$Required;" (.null) := fa3.other W5 (Or.inr (slot_ne (Or.inr (tw64 hw)) (Or.inr (tw60 hw)) (by decide) (by decide +kernel : parseFieldDescriptor "Lcom/example/interlace/interlace/engine/Plan$Required;" = some (.object "com/example/interlace/interlace/engine/Plan$Required")) (by decide +kernel : parseFieldDescriptor "Lcom/example/interlace/interlace/pattern/Structure;" = some (.object "com/example/interlace/interlace/pattern/Structure"))))
  have zs10 : Z.heap.size ≤ h4.size := W5.size ▸ hz
  have kp11 : Keep h h4 [a] := kp0.wr W5 (Or.inl (by simp))
  refine Go.aload_n 10 d9_9 rfl rfl rfl ?_
  refine Go.iload_n 11 d9_10 rfl rfl ?_
  refine Go.putfieldN (ty := .boolean) (v' := .int (0 : Int32)) 14 d9_11 (tw61 hw) f8 f6 (Or.inr ⟨(tw62 hw), rfl, rfl⟩) (tw39 hw) (by decide) (by decide) (by decide) ge_a rfl (fun h12 W13 => ?_)
  have f14 : Exa Z h12 a "com/example/interlace/interlace/engine/Plan$Required" := f6.wr W13
  have f15 : Fld Z h12 a "com/example/interlace/interlace/engine/Plan$Required" "operand" "Lcom/example/interlace/interlace/pattern/Structure;" (.ref o) := f7.other W13 (Or.inr (slot_ne (Or.inr (tw60 hw)) (Or.inr (tw62 hw)) (by decide) (by decide +kernel : parseFieldDescriptor "Lcom/example/interlace/interlace/pattern/Structure;" = some (.object "com/example/interlace/interlace/pattern/Structure")) (by decide +kernel : parseFieldDescriptor "Z" = some .boolean)))
  have f16 : Fld Z h12 a "com/example/interlace/interlace/engine/Plan$Required" "before" "Z" (.int (0 : Int32)) := f8.same W13
  have f17 : Fld Z h12 a "com/example/interlace/interlace/engine/Plan$Required" "rest" "Lcom/example/interlace/interlace/engine/Plan$Required;" (.null) := f9.other W13 (Or.inr (slot_ne (Or.inr (tw64 hw)) (Or.inr (tw62 hw)) (by decide) (by decide +kernel : parseFieldDescriptor "Lcom/example/interlace/interlace/engine/Plan$Required;" = some (.object "com/example/interlace/interlace/engine/Plan$Required")) (by decide +kernel : parseFieldDescriptor "Z" = some .boolean)))
  have zs18 : Z.heap.size ≤ h12.size := W13.size ▸ zs10
  have kp19 : Keep h h12 [a] := kp11.wr W13 (Or.inl (by simp))
  refine Go.aload_n 15 d9_14 rfl rfl rfl ?_
  refine Go.aload_n 16 d9_15 rfl rfl rfl ?_
  refine Go.putfield (ty := (.object "com/example/interlace/interlace/engine/Plan$Required")) 19 d9_16 (tw63 hw) f17 f14 (Or.inr ⟨(tw64 hw), rfl, rfl⟩) (tw39 hw) (by decide) rfl rfl ge_a rfl (fun h20 W21 => ?_)
  have f22 : Exa Z h20 a "com/example/interlace/interlace/engine/Plan$Required" := f14.wr W21
  have f23 : Fld Z h20 a "com/example/interlace/interlace/engine/Plan$Required" "operand" "Lcom/example/interlace/interlace/pattern/Structure;" (.ref o) := f15.other W21 (Or.inr (slot_ne (Or.inr (tw60 hw)) (Or.inr (tw64 hw)) (by decide) (by decide +kernel : parseFieldDescriptor "Lcom/example/interlace/interlace/pattern/Structure;" = some (.object "com/example/interlace/interlace/pattern/Structure")) (by decide +kernel : parseFieldDescriptor "Lcom/example/interlace/interlace/engine/Plan$Required;" = some (.object "com/example/interlace/interlace/engine/Plan$Required"))))
  have f24 : Fld Z h20 a "com/example/interlace/interlace/engine/Plan$Required" "before" "Z" (.int (0 : Int32)) := f16.other W21 (Or.inr (slot_ne (Or.inr (tw62 hw)) (Or.inr (tw64 hw)) (by decide) (by decide +kernel : parseFieldDescriptor "Z" = some .boolean) (by decide +kernel : parseFieldDescriptor "Lcom/example/interlace/interlace/engine/Plan$Required;" = some (.object "com/example/interlace/interlace/engine/Plan$Required"))))
  have f25 : Fld Z h20 a "com/example/interlace/interlace/engine/Plan$Required" "rest" "Lcom/example/interlace/interlace/engine/Plan$Required;" (.ref r) := f17.same W21
  have zs26 : Z.heap.size ≤ h20.size := W21.size ▸ zs18
  have kp27 : Keep h h20 [a] := kp19.wr W21 (Or.inl (by simp))
  refine Go.vreturn d9_19 rfl (by decide) (by decide) ?_
  exact ⟨kp27, f22, f23, f25⟩

theorem d10_0 : decode prog_41_method_1_code 0 = .ok (.aload_n 0, 1) := by decide +kernel
theorem d10_1 : decode prog_41_method_1_code 1 = .ok (.invokespecial 1, 3) := by decide +kernel
theorem d10_4 : decode prog_41_method_1_code 4 = .ok (.aload_n 0, 1) := by decide +kernel
theorem d10_5 : decode prog_41_method_1_code 5 = .ok (.iload_n 1, 1) := by decide +kernel
theorem d10_6 : decode prog_41_method_1_code 6 = .ok (.putfield 7, 3) := by decide +kernel
theorem d10_9 : decode prog_41_method_1_code 9 = .ok (.aload_n 0, 1) := by decide +kernel
theorem d10_10 : decode prog_41_method_1_code 10 = .ok (.aload_n 2, 1) := by decide +kernel
theorem d10_11 : decode prog_41_method_1_code 11 = .ok (.putfield 13, 3) := by decide +kernel
theorem d10_14 : decode prog_41_method_1_code 14 = .ok (.aload_n 0, 1) := by decide +kernel
theorem d10_15 : decode prog_41_method_1_code 15 = .ok (.aload_n 3, 1) := by decide +kernel
theorem d10_16 : decode prog_41_method_1_code 16 = .ok (.putfield 17, 3) := by decide +kernel
theorem d10_19 : decode prog_41_method_1_code 19 = .ok (.aload_n 0, 1) := by decide +kernel
theorem d10_20 : decode prog_41_method_1_code 20 = .ok (.aload 4, 2) := by decide +kernel
theorem d10_22 : decode prog_41_method_1_code 22 = .ok (.putfield 21, 3) := by decide +kernel
theorem d10_25 : decode prog_41_method_1_code 25 = .ok (.return_, 1) := by decide +kernel

theorem pd10 : parseMethodDescriptor "(I[Lcom/example/interlace/interlace/engine/Plan$Absent;Lcom/example/interlace/interlace/engine/Plan$Required;Lcom/example/interlace/interlace/engine/Plan$Step;)V" = some ⟨[.int, (.array (.object "com/example/interlace/interlace/engine/Plan$Absent")), (.object "com/example/interlace/interlace/engine/Plan$Required"), (.object "com/example/interlace/interlace/engine/Plan$Step")], none⟩ := by decide +kernel
theorem pl10 : plainFor (⟨"com/example/interlace/interlace/engine/Plan$Bind", "<init>", "(I[Lcom/example/interlace/interlace/engine/Plan$Absent;Lcom/example/interlace/interlace/engine/Plan$Required;Lcom/example/interlace/interlace/engine/Plan$Step;)V"⟩ : MethodName) = true := by first | exact plainFor_of_name (by first | (simp [plainName, overriddenIn]; done) | decide +kernel) | decide +kernel

theorem ef_k_bind (m : MethodId) (x0 : Addr) (x1 : Int32) (x2 : Unit) (x3 : Addr) (x4 : Unit) : entryFrame m #[(.ref x0), (.int x1), .null, (.ref x3), .null] 5 = mkF m 0 #[.val (.ref x0), .val (.int x1), .val .null, .val (.ref x3), .val .null] [] := by first | (simp [entryFrame, mkF, argsToLocals, Value.category]; done) | rfl

set_option maxRecDepth 65536 in
set_option maxHeartbeats 40000000 in
theorem k_bind {l : Launch} {Z : State} {a0 : Array Value} (hw : ∀ d ∈ tables_1, d.before a0 Z = true)  (h : Heap) (hz : Z.heap.size ≤ h.size) (a : Addr) (n1 : Unit) (q : Addr) (n2 : Unit) (fa0 : Exa Z h a "com/example/interlace/interlace/engine/Plan$Bind") (fa1 : Fld Z h a "com/example/interlace/interlace/engine/Plan$Bind" "variable" "I" (.int (0 : Int32))) (fa2 : Fld Z h a "com/example/interlace/interlace/engine/Plan$Bind" "nots" "[Lcom/example/interlace/interlace/engine/Plan$Absent;" (.null)) (fa3 : Fld Z h a "com/example/interlace/interlace/engine/Plan$Bind" "required" "Lcom/example/interlace/interlace/engine/Plan$Required;" (.null)) (fa4 : Fld Z h a "com/example/interlace/interlace/engine/Plan$Bind" "next" "Lcom/example/interlace/interlace/engine/Plan$Step;" (.null))  (ge_a : Z.heap.size ≤ a)  : Go l Z (⟨"com/example/interlace/interlace/engine/Plan$Bind", "<init>", "(I[Lcom/example/interlace/interlace/engine/Plan$Absent;Lcom/example/interlace/interlace/engine/Plan$Required;Lcom/example/interlace/interlace/engine/Plan$Step;)V"⟩ : MethodName) prog_41_method_1_code 5 (Option.none : Option Jvm.ClassFile.FieldType) ({ frames := 2, cells := 0, slots := 0, locals := 40 } : Room) (QV fun h' => Keep h h' [a] ∧ Exa Z h' a "com/example/interlace/interlace/engine/Plan$Bind" ∧ Fld Z h' a "com/example/interlace/interlace/engine/Plan$Bind" "variable" "I" (.int (0 : Int32)) ∧ Fld Z h' a "com/example/interlace/interlace/engine/Plan$Bind" "required" "Lcom/example/interlace/interlace/engine/Plan$Required;" (.ref q)) 0 0 h 0 #[.val (.ref a), .val (.int (0 : Int32)), .val (.null), .val (.ref q), .val (.null)] [] := by
  have kp0 : Keep h h [a] := Keep.refl _ _
  refine Go.aload_n 1 d10_0 rfl rfl rfl ?_
  refine Go.callCp [] [] 4 d10_1 rfl (tw71 hw) (tw48 hw) (tw50 hw) (tw51 hw) pl8 (by decide) (lenOf pd8 rfl) rfl (fun m => ef_k_rec m a) (k_rec hw h hz a) 0 rfl (Nat.le_of_eq rfl) (by decide) (by decide) (by decide) (by decide) rfl ?_
  refine Go.aload_n 5 d10_4 rfl rfl rfl ?_
  refine Go.iload_n 6 d10_5 rfl rfl ?_
  refine Go.putfield (ty := .int) 9 d10_6 (tw72 hw) fa1 fa0 (Or.inr ⟨(tw73 hw), rfl, rfl⟩) (tw66 hw) (by decide) rfl rfl ge_a rfl (fun h4 W5 => ?_)
  have f6 : Exa Z h4 a "com/example/interlace/interlace/engine/Plan$Bind" := fa0.wr W5
  have f7 : Fld Z h4 a "com/example/interlace/interlace/engine/Plan$Bind" "variable" "I" (.int (0 : Int32)) := fa1.same W5
  have f8 : Fld Z h4 a "com/example/interlace/interlace/engine/Plan$Bind" "nots" "[Lcom/example/interlace/interlace/engine/Plan$Absent;" (.null) := fa2.other W5 (Or.inr (slot_ne (Or.inr (tw75 hw)) (Or.inr (tw73 hw)) (by decide) (by decide +kernel : parseFieldDescriptor "[Lcom/example/interlace/interlace/engine/Plan$Absent;" = some (.array (.object "com/example/interlace/interlace/engine/Plan$Absent"))) (by decide +kernel : parseFieldDescriptor "I" = some .int)))
  have f9 : Fld Z h4 a "com/example/interlace/interlace/engine/Plan$Bind" "required" "Lcom/example/interlace/interlace/engine/Plan$Required;" (.null) := fa3.other W5 (Or.inr (slot_ne (Or.inr (tw77 hw)) (Or.inr (tw73 hw)) (by decide) (by decide +kernel : parseFieldDescriptor "Lcom/example/interlace/interlace/engine/Plan$Required;" = some (.object "com/example/interlace/interlace/engine/Plan$Required")) (by decide +kernel : parseFieldDescriptor "I" = some .int)))
  have f10 : Fld Z h4 a "com/example/interlace/interlace/engine/Plan$Bind" "next" "Lcom/example/interlace/interlace/engine/Plan$Step;" (.null) := fa4.other W5 (Or.inr (slot_ne (Or.inr (tw79 hw)) (Or.inr (tw73 hw)) (by decide) (by decide +kernel : parseFieldDescriptor "Lcom/example/interlace/interlace/engine/Plan$Step;" = some (.object "com/example/interlace/interlace/engine/Plan$Step")) (by decide +kernel : parseFieldDescriptor "I" = some .int)))
  have zs11 : Z.heap.size ≤ h4.size := W5.size ▸ hz
  have kp12 : Keep h h4 [a] := kp0.wr W5 (Or.inl (by simp))
  refine Go.aload_n 10 d10_9 rfl rfl rfl ?_
  refine Go.aload_n 11 d10_10 rfl rfl rfl ?_
  refine Go.putfield (ty := (.array (.object "com/example/interlace/interlace/engine/Plan$Absent"))) 14 d10_11 (tw74 hw) f8 f6 (Or.inr ⟨(tw75 hw), rfl, rfl⟩) (tw66 hw) (by decide) rfl rfl ge_a rfl (fun h13 W14 => ?_)
  have f15 : Exa Z h13 a "com/example/interlace/interlace/engine/Plan$Bind" := f6.wr W14
  have f16 : Fld Z h13 a "com/example/interlace/interlace/engine/Plan$Bind" "variable" "I" (.int (0 : Int32)) := f7.other W14 (Or.inr (slot_ne (Or.inr (tw73 hw)) (Or.inr (tw75 hw)) (by decide) (by decide +kernel : parseFieldDescriptor "I" = some .int) (by decide +kernel : parseFieldDescriptor "[Lcom/example/interlace/interlace/engine/Plan$Absent;" = some (.array (.object "com/example/interlace/interlace/engine/Plan$Absent")))))
  have f17 : Fld Z h13 a "com/example/interlace/interlace/engine/Plan$Bind" "nots" "[Lcom/example/interlace/interlace/engine/Plan$Absent;" (.null) := f8.same W14
  have f18 : Fld Z h13 a "com/example/interlace/interlace/engine/Plan$Bind" "required" "Lcom/example/interlace/interlace/engine/Plan$Required;" (.null) := f9.other W14 (Or.inr (slot_ne (Or.inr (tw77 hw)) (Or.inr (tw75 hw)) (by decide) (by decide +kernel : parseFieldDescriptor "Lcom/example/interlace/interlace/engine/Plan$Required;" = some (.object "com/example/interlace/interlace/engine/Plan$Required")) (by decide +kernel : parseFieldDescriptor "[Lcom/example/interlace/interlace/engine/Plan$Absent;" = some (.array (.object "com/example/interlace/interlace/engine/Plan$Absent")))))
  have f19 : Fld Z h13 a "com/example/interlace/interlace/engine/Plan$Bind" "next" "Lcom/example/interlace/interlace/engine/Plan$Step;" (.null) := f10.other W14 (Or.inr (slot_ne (Or.inr (tw79 hw)) (Or.inr (tw75 hw)) (by decide) (by decide +kernel : parseFieldDescriptor "Lcom/example/interlace/interlace/engine/Plan$Step;" = some (.object "com/example/interlace/interlace/engine/Plan$Step")) (by decide +kernel : parseFieldDescriptor "[Lcom/example/interlace/interlace/engine/Plan$Absent;" = some (.array (.object "com/example/interlace/interlace/engine/Plan$Absent")))))
  have zs20 : Z.heap.size ≤ h13.size := W14.size ▸ zs11
  have kp21 : Keep h h13 [a] := kp12.wr W14 (Or.inl (by simp))
  refine Go.aload_n 15 d10_14 rfl rfl rfl ?_
  refine Go.aload_n 16 d10_15 rfl rfl rfl ?_
  refine Go.putfield (ty := (.object "com/example/interlace/interlace/engine/Plan$Required")) 19 d10_16 (tw76 hw) f18 f15 (Or.inr ⟨(tw77 hw), rfl, rfl⟩) (tw66 hw) (by decide) rfl rfl ge_a rfl (fun h22 W23 => ?_)
  have f24 : Exa Z h22 a "com/example/interlace/interlace/engine/Plan$Bind" := f15.wr W23
  have f25 : Fld Z h22 a "com/example/interlace/interlace/engine/Plan$Bind" "variable" "I" (.int (0 : Int32)) := f16.other W23 (Or.inr (slot_ne (Or.inr (tw73 hw)) (Or.inr (tw77 hw)) (by decide) (by decide +kernel : parseFieldDescriptor "I" = some .int) (by decide +kernel : parseFieldDescriptor "Lcom/example/interlace/interlace/engine/Plan$Required;" = some (.object "com/example/interlace/interlace/engine/Plan$Required"))))
  have f26 : Fld Z h22 a "com/example/interlace/interlace/engine/Plan$Bind" "nots" "[Lcom/example/interlace/interlace/engine/Plan$Absent;" (.null) := f17.other W23 (Or.inr (slot_ne (Or.inr (tw75 hw)) (Or.inr (tw77 hw)) (by decide) (by decide +kernel : parseFieldDescriptor "[Lcom/example/interlace/interlace/engine/Plan$Absent;" = some (.array (.object "com/example/interlace/interlace/engine/Plan$Absent"))) (by decide +kernel : parseFieldDescriptor "Lcom/example/interlace/interlace/engine/Plan$Required;" = some (.object "com/example/interlace/interlace/engine/Plan$Required"))))
  have f27 : Fld Z h22 a "com/example/interlace/interlace/engine/Plan$Bind" "required" "Lcom/example/interlace/interlace/engine/Plan$Required;" (.ref q) := f18.same W23
  have f28 : Fld Z h22 a "com/example/interlace/interlace/engine/Plan$Bind" "next" "Lcom/example/interlace/interlace/engine/Plan$Step;" (.null) := f19.other W23 (Or.inr (slot_ne (Or.inr (tw79 hw)) (Or.inr (tw77 hw)) (by decide) (by decide +kernel : parseFieldDescriptor "Lcom/example/interlace/interlace/engine/Plan$Step;" = some (.object "com/example/interlace/interlace/engine/Plan$Step")) (by decide +kernel : parseFieldDescriptor "Lcom/example/interlace/interlace/engine/Plan$Required;" = some (.object "com/example/interlace/interlace/engine/Plan$Required"))))
  have zs29 : Z.heap.size ≤ h22.size := W23.size ▸ zs20
  have kp30 : Keep h h22 [a] := kp21.wr W23 (Or.inl (by simp))
  refine Go.aload_n 20 d10_19 rfl rfl rfl ?_
  refine Go.aload 22 d10_20 rfl rfl rfl ?_
  refine Go.putfield (ty := (.object "com/example/interlace/interlace/engine/Plan$Step")) 25 d10_22 (tw78 hw) f28 f24 (Or.inr ⟨(tw79 hw), rfl, rfl⟩) (tw66 hw) (by decide) rfl rfl ge_a rfl (fun h31 W32 => ?_)
  have f33 : Exa Z h31 a "com/example/interlace/interlace/engine/Plan$Bind" := f24.wr W32
  have f34 : Fld Z h31 a "com/example/interlace/interlace/engine/Plan$Bind" "variable" "I" (.int (0 : Int32)) := f25.other W32 (Or.inr (slot_ne (Or.inr (tw73 hw)) (Or.inr (tw79 hw)) (by decide) (by decide +kernel : parseFieldDescriptor "I" = some .int) (by decide +kernel : parseFieldDescriptor "Lcom/example/interlace/interlace/engine/Plan$Step;" = some (.object "com/example/interlace/interlace/engine/Plan$Step"))))
  have f35 : Fld Z h31 a "com/example/interlace/interlace/engine/Plan$Bind" "nots" "[Lcom/example/interlace/interlace/engine/Plan$Absent;" (.null) := f26.other W32 (Or.inr (slot_ne (Or.inr (tw75 hw)) (Or.inr (tw79 hw)) (by decide) (by decide +kernel : parseFieldDescriptor "[Lcom/example/interlace/interlace/engine/Plan$Absent;" = some (.array (.object "com/example/interlace/interlace/engine/Plan$Absent"))) (by decide +kernel : parseFieldDescriptor "Lcom/example/interlace/interlace/engine/Plan$Step;" = some (.object "com/example/interlace/interlace/engine/Plan$Step"))))
  have f36 : Fld Z h31 a "com/example/interlace/interlace/engine/Plan$Bind" "required" "Lcom/example/interlace/interlace/engine/Plan$Required;" (.ref q) := f27.other W32 (Or.inr (slot_ne (Or.inr (tw77 hw)) (Or.inr (tw79 hw)) (by decide) (by decide +kernel : parseFieldDescriptor "Lcom/example/interlace/interlace/engine/Plan$Required;" = some (.object "com/example/interlace/interlace/engine/Plan$Required")) (by decide +kernel : parseFieldDescriptor "Lcom/example/interlace/interlace/engine/Plan$Step;" = some (.object "com/example/interlace/interlace/engine/Plan$Step"))))
  have f37 : Fld Z h31 a "com/example/interlace/interlace/engine/Plan$Bind" "next" "Lcom/example/interlace/interlace/engine/Plan$Step;" (.null) := f28.same W32
  have zs38 : Z.heap.size ≤ h31.size := W32.size ▸ zs29
  have kp39 : Keep h h31 [a] := kp30.wr W32 (Or.inl (by simp))
  refine Go.vreturn d10_25 rfl (by decide) (by decide) ?_
  exact ⟨kp39, f33, f34, f36⟩

theorem d1_0 : decode prog_34_method_1_code 0 = .ok (.aload_n 0, 1) := by decide +kernel
theorem d1_1 : decode prog_34_method_1_code 1 = .ok (.invokespecial 1, 3) := by decide +kernel
theorem d1_4 : decode prog_34_method_1_code 4 = .ok (.aload_n 0, 1) := by decide +kernel
theorem d1_5 : decode prog_34_method_1_code 5 = .ok (.iload_n 1, 1) := by decide +kernel
theorem d1_6 : decode prog_34_method_1_code 6 = .ok (.newarray .long, 2) := by decide +kernel
theorem d1_8 : decode prog_34_method_1_code 8 = .ok (.putfield 7, 3) := by decide +kernel
theorem d1_11 : decode prog_34_method_1_code 11 = .ok (.aload_n 0, 1) := by decide +kernel
theorem d1_12 : decode prog_34_method_1_code 12 = .ok (.iload_n 1, 1) := by decide +kernel
theorem d1_13 : decode prog_34_method_1_code 13 = .ok (.newarray .boolean, 2) := by decide +kernel
theorem d1_15 : decode prog_34_method_1_code 15 = .ok (.putfield 13, 3) := by decide +kernel
theorem d1_18 : decode prog_34_method_1_code 18 = .ok (.aload_n 0, 1) := by decide +kernel
theorem d1_19 : decode prog_34_method_1_code 19 = .ok (.iload_n 1, 1) := by decide +kernel
theorem d1_20 : decode prog_34_method_1_code 20 = .ok (.anewarray 17, 3) := by decide +kernel
theorem d1_23 : decode prog_34_method_1_code 23 = .ok (.putfield 18, 3) := by decide +kernel
theorem d1_26 : decode prog_34_method_1_code 26 = .ok (.return_, 1) := by decide +kernel

theorem pd1 : parseMethodDescriptor "(I)V" = some ⟨[.int], none⟩ := by decide +kernel
theorem pl1 : plainFor (⟨"com/example/interlace/interlace/engine/Floors", "<init>", "(I)V"⟩ : MethodName) = true := by first | exact plainFor_of_name (by first | (simp [plainName, overriddenIn]; done) | decide +kernel) | decide +kernel

theorem ef_k_fl (m : MethodId) (x0 : Addr) (x1 : Int32) : entryFrame m #[(.ref x0), (.int x1)] 2 = mkF m 0 #[.val (.ref x0), .val (.int x1)] [] := by first | (simp [entryFrame, mkF, argsToLocals, Value.category]; done) | rfl

set_option maxRecDepth 65536 in
set_option maxHeartbeats 40000000 in
theorem k_fl {l : Launch} {Z : State} {a0 : Array Value} (hw : ∀ d ∈ tables_1, d.before a0 Z = true)  (h : Heap) (hz : Z.heap.size ≤ h.size) (a : Addr) (fa0 : Exa Z h a "com/example/interlace/interlace/engine/Floors") (fa1 : Fld Z h a "com/example/interlace/interlace/engine/Floors" "floors" "[J" (.null)) (fa2 : Fld Z h a "com/example/interlace/interlace/engine/Floors" "hasFloor" "[Z" (.null)) (fa3 : Fld Z h a "com/example/interlace/interlace/engine/Floors" "rests" "[[J" (.null)) (fa4 : Fld Z h a "com/example/interlace/interlace/engine/Floors" "latest" "J" (.long (0 : Int64)))  (ge_a : Z.heap.size ≤ a)  : Go l Z (⟨"com/example/interlace/interlace/engine/Floors", "<init>", "(I)V"⟩ : MethodName) prog_34_method_1_code 2 (Option.none : Option Jvm.ClassFile.FieldType) ({ frames := 1, cells := 3, slots := 6, locals := 16 } : Room) (QV fun h' => ∃ x y z : Addr, h.size ≤ x ∧ h.size ≤ y ∧ h.size ≤ z ∧ x ≠ y ∧ x ≠ z ∧ y ≠ z ∧ Keep h h' [a] ∧ Exa Z h' a "com/example/interlace/interlace/engine/Floors" ∧ Fld Z h' a "com/example/interlace/interlace/engine/Floors" "floors" "[J" (.ref x) ∧ Fld Z h' a "com/example/interlace/interlace/engine/Floors" "hasFloor" "[Z" (.ref y) ∧ Fld Z h' a "com/example/interlace/interlace/engine/Floors" "rests" "[[J" (.ref z) ∧ Fld Z h' a "com/example/interlace/interlace/engine/Floors" "latest" "J" (.long (0 : Int64)) ∧ Arj Z h' x [0, 0] ∧ Ari Z h' y .boolean [0, 0] ∧ Arz Z h' z .long "[J" [.null, .null] ∧ Exa Z h' x "[J" ∧ Exa Z h' y "[Z") 0 0 h 0 #[.val (.ref a), .val (.int (2 : Int32))] [] := by
  have kp0 : Keep h h [a] := Keep.refl _ _
  refine Go.aload_n 1 d1_0 rfl rfl rfl ?_
  refine Go.initO 0 4 d1_1 (tw6 hw) (tw7 hw) (tw8 hw) rfl (by decide) (Nat.le_of_eq rfl) (by decide) rfl ?_
  refine Go.aload_n 5 d1_4 rfl rfl rfl ?_
  refine Go.iload_n 6 d1_5 rfl rfl ?_
  refine Go.newJE (cap := 2) (xs := [0, 0]) "[J" 8 d1_6 (tw9 hw) rfl (by decide) (by decide) (by decide) (by decide) rfl (by decide) (by decide) rfl (fun a1 h2 q3 E4 A5 Ex6 => ?_)
  have ne7 : a ≠ a1 := fun e => absurd fa0.lt (by rw [e, q3]; exact Nat.lt_irrefl _)
  have ge8 : Z.heap.size ≤ a1 := (Eq.symm q3) ▸ hz
  have fr9 : h.size ≤ a1 := by rw [q3]; exact kp0.1
  have f10 : Exa Z h2 a "com/example/interlace/interlace/engine/Floors" := fa0.ext E4
  have f11 : Fld Z h2 a "com/example/interlace/interlace/engine/Floors" "floors" "[J" (.null) := fa1.ext E4
  have f12 : Fld Z h2 a "com/example/interlace/interlace/engine/Floors" "hasFloor" "[Z" (.null) := fa2.ext E4
  have f13 : Fld Z h2 a "com/example/interlace/interlace/engine/Floors" "rests" "[[J" (.null) := fa3.ext E4
  have f14 : Fld Z h2 a "com/example/interlace/interlace/engine/Floors" "latest" "J" (.long (0 : Int64)) := fa4.ext E4
  have zs15 : Z.heap.size ≤ h2.size := Nat.le_trans hz E4.1
  have kp16 : Keep h h2 [a] := kp0.ext E4
  refine Go.putfield (ty := (.array .long)) 11 d1_8 (tw10 hw) f11 f10 (Or.inr ⟨(tw11 hw), rfl, rfl⟩) (tw1 hw) (by decide) rfl rfl ge_a rfl (fun h17 W18 => ?_)
  have f19 : Exa Z h17 a "com/example/interlace/interlace/engine/Floors" := f10.wr W18
  have f20 : Fld Z h17 a "com/example/interlace/interlace/engine/Floors" "floors" "[J" (.ref a1) := f11.same W18
  have f21 : Fld Z h17 a "com/example/interlace/interlace/engine/Floors" "hasFloor" "[Z" (.null) := f12.other W18 (Or.inr (slot_ne (Or.inr (tw14 hw)) (Or.inr (tw11 hw)) (by decide) (by decide +kernel : parseFieldDescriptor "[Z" = some (.array .boolean)) (by decide +kernel : parseFieldDescriptor "[J" = some (.array .long))))
  have f22 : Fld Z h17 a "com/example/interlace/interlace/engine/Floors" "rests" "[[J" (.null) := f13.other W18 (Or.inr (slot_ne (Or.inr (tw18 hw)) (Or.inr (tw11 hw)) (by decide) (by decide +kernel : parseFieldDescriptor "[[J" = some (.array (.array .long))) (by decide +kernel : parseFieldDescriptor "[J" = some (.array .long))))
  have f23 : Fld Z h17 a "com/example/interlace/interlace/engine/Floors" "latest" "J" (.long (0 : Int64)) := f14.other W18 (Or.inr (slot_ne (Or.inl (tw25 hw)) (Or.inr (tw11 hw)) (by decide) (by decide +kernel : parseFieldDescriptor "J" = some .long) (by decide +kernel : parseFieldDescriptor "[J" = some (.array .long))))
  have f24 : Arj Z h17 a1 [0, 0] := A5.other W18 (Ne.symm ne7)
  have f25 : Exa Z h17 a1 "[J" := Ex6.wr W18
  have zs26 : Z.heap.size ≤ h17.size := W18.size ▸ zs15
  have kp27 : Keep h h17 [a] := kp16.wr W18 (Or.inl (by simp))
  refine Go.aload_n 12 d1_11 rfl rfl rfl ?_
  refine Go.iload_n 13 d1_12 rfl rfl ?_
  refine Go.newIE (cap := 2) (xs := [0, 0]) "[Z" 15 d1_13 (tw12 hw) rfl (by decide) (by decide) (by decide) (by decide) rfl (by decide) (by decide) rfl (fun a28 h29 q30 E31 A32 Ex33 => ?_)
  have ne34 : a ≠ a28 := fun e => absurd f19.lt (by rw [e, q30]; exact Nat.lt_irrefl _)
  have ne35 : a1 ≠ a28 := fun e => absurd f24.lt (by rw [e, q30]; exact Nat.lt_irrefl _)
  have ge36 : Z.heap.size ≤ a28 := (Eq.symm q30) ▸ zs26
  have fr37 : h.size ≤ a28 := by rw [q30]; exact kp27.1
  have f38 : Exa Z h29 a "com/example/interlace/interlace/engine/Floors" := f19.ext E31
  have f39 : Fld Z h29 a "com/example/interlace/interlace/engine/Floors" "floors" "[J" (.ref a1) := f20.ext E31
  have f40 : Fld Z h29 a "com/example/interlace/interlace/engine/Floors" "hasFloor" "[Z" (.null) := f21.ext E31
  have f41 : Fld Z h29 a "com/example/interlace/interlace/engine/Floors" "rests" "[[J" (.null) := f22.ext E31
  have f42 : Fld Z h29 a "com/example/interlace/interlace/engine/Floors" "latest" "J" (.long (0 : Int64)) := f23.ext E31
  have f43 : Arj Z h29 a1 [0, 0] := f24.ext E31
  have f44 : Exa Z h29 a1 "[J" := f25.ext E31
  have zs45 : Z.heap.size ≤ h29.size := Nat.le_trans zs26 E31.1
  have kp46 : Keep h h29 [a] := kp27.ext E31
  refine Go.putfield (ty := (.array .boolean)) 18 d1_15 (tw13 hw) f40 f38 (Or.inr ⟨(tw14 hw), rfl, rfl⟩) (tw1 hw) (by decide) rfl rfl ge_a rfl (fun h47 W48 => ?_)
  have f49 : Exa Z h47 a "com/example/interlace/interlace/engine/Floors" := f38.wr W48
  have f50 : Fld Z h47 a "com/example/interlace/interlace/engine/Floors" "floors" "[J" (.ref a1) := f39.other W48 (Or.inr (slot_ne (Or.inr (tw11 hw)) (Or.inr (tw14 hw)) (by decide) (by decide +kernel : parseFieldDescriptor "[J" = some (.array .long)) (by decide +kernel : parseFieldDescriptor "[Z" = some (.array .boolean))))
  have f51 : Fld Z h47 a "com/example/interlace/interlace/engine/Floors" "hasFloor" "[Z" (.ref a28) := f40.same W48
  have f52 : Fld Z h47 a "com/example/interlace/interlace/engine/Floors" "rests" "[[J" (.null) := f41.other W48 (Or.inr (slot_ne (Or.inr (tw18 hw)) (Or.inr (tw14 hw)) (by decide) (by decide +kernel : parseFieldDescriptor "[[J" = some (.array (.array .long))) (by decide +kernel : parseFieldDescriptor "[Z" = some (.array .boolean))))
  have f53 : Fld Z h47 a "com/example/interlace/interlace/engine/Floors" "latest" "J" (.long (0 : Int64)) := f42.other W48 (Or.inr (slot_ne (Or.inl (tw25 hw)) (Or.inr (tw14 hw)) (by decide) (by decide +kernel : parseFieldDescriptor "J" = some .long) (by decide +kernel : parseFieldDescriptor "[Z" = some (.array .boolean))))
  have f54 : Arj Z h47 a1 [0, 0] := f43.other W48 (Ne.symm ne7)
  have f55 : Exa Z h47 a1 "[J" := f44.wr W48
  have f56 : Ari Z h47 a28 .boolean [0, 0] := A32.other W48 (Ne.symm ne34)
  have f57 : Exa Z h47 a28 "[Z" := Ex33.wr W48
  have zs58 : Z.heap.size ≤ h47.size := W48.size ▸ zs45
  have kp59 : Keep h h47 [a] := kp46.wr W48 (Or.inl (by simp))
  refine Go.aload_n 19 d1_18 rfl rfl rfl ?_
  refine Go.iload_n 20 d1_19 rfl rfl ?_
  refine Go.newZ (ty := .long) (ad := "[[J") (cap := 2) (vs := [.null, .null]) 23 d1_20 (by decide) (tw15 hw) (tw16 hw) (by decide) (by decide) (by decide) (by decide) rfl (by decide) (by decide) rfl (fun a60 h61 q62 E63 A64 => ?_)
  have ne65 : a ≠ a60 := fun e => absurd f49.lt (by rw [e, q62]; exact Nat.lt_irrefl _)
  have ne66 : a1 ≠ a60 := fun e => absurd f54.lt (by rw [e, q62]; exact Nat.lt_irrefl _)
  have ne67 : a28 ≠ a60 := fun e => absurd f56.lt (by rw [e, q62]; exact Nat.lt_irrefl _)
  have ge68 : Z.heap.size ≤ a60 := (Eq.symm q62) ▸ zs58
  have fr69 : h.size ≤ a60 := by rw [q62]; exact kp59.1
  have f70 : Exa Z h61 a "com/example/interlace/interlace/engine/Floors" := f49.ext E63
  have f71 : Fld Z h61 a "com/example/interlace/interlace/engine/Floors" "floors" "[J" (.ref a1) := f50.ext E63
  have f72 : Fld Z h61 a "com/example/interlace/interlace/engine/Floors" "hasFloor" "[Z" (.ref a28) := f51.ext E63
  have f73 : Fld Z h61 a "com/example/interlace/interlace/engine/Floors" "rests" "[[J" (.null) := f52.ext E63
  have f74 : Fld Z h61 a "com/example/interlace/interlace/engine/Floors" "latest" "J" (.long (0 : Int64)) := f53.ext E63
  have f75 : Arj Z h61 a1 [0, 0] := f54.ext E63
  have f76 : Exa Z h61 a1 "[J" := f55.ext E63
  have f77 : Ari Z h61 a28 .boolean [0, 0] := f56.ext E63
  have f78 : Exa Z h61 a28 "[Z" := f57.ext E63
  have zs79 : Z.heap.size ≤ h61.size := Nat.le_trans zs58 E63.1
  have kp80 : Keep h h61 [a] := kp59.ext E63
  refine Go.putfield (ty := (.array (.array .long))) 26 d1_23 (tw17 hw) f73 f70 (Or.inr ⟨(tw18 hw), rfl, rfl⟩) (tw1 hw) (by decide) rfl rfl ge_a rfl (fun h81 W82 => ?_)
  have f83 : Exa Z h81 a "com/example/interlace/interlace/engine/Floors" := f70.wr W82
  have f84 : Fld Z h81 a "com/example/interlace/interlace/engine/Floors" "floors" "[J" (.ref a1) := f71.other W82 (Or.inr (slot_ne (Or.inr (tw11 hw)) (Or.inr (tw18 hw)) (by decide) (by decide +kernel : parseFieldDescriptor "[J" = some (.array .long)) (by decide +kernel : parseFieldDescriptor "[[J" = some (.array (.array .long)))))
  have f85 : Fld Z h81 a "com/example/interlace/interlace/engine/Floors" "hasFloor" "[Z" (.ref a28) := f72.other W82 (Or.inr (slot_ne (Or.inr (tw14 hw)) (Or.inr (tw18 hw)) (by decide) (by decide +kernel : parseFieldDescriptor "[Z" = some (.array .boolean)) (by decide +kernel : parseFieldDescriptor "[[J" = some (.array (.array .long)))))
  have f86 : Fld Z h81 a "com/example/interlace/interlace/engine/Floors" "rests" "[[J" (.ref a60) := f73.same W82
  have f87 : Fld Z h81 a "com/example/interlace/interlace/engine/Floors" "latest" "J" (.long (0 : Int64)) := f74.other W82 (Or.inr (slot_ne (Or.inl (tw25 hw)) (Or.inr (tw18 hw)) (by decide) (by decide +kernel : parseFieldDescriptor "J" = some .long) (by decide +kernel : parseFieldDescriptor "[[J" = some (.array (.array .long)))))
  have f88 : Arj Z h81 a1 [0, 0] := f75.other W82 (Ne.symm ne7)
  have f89 : Exa Z h81 a1 "[J" := f76.wr W82
  have f90 : Ari Z h81 a28 .boolean [0, 0] := f77.other W82 (Ne.symm ne34)
  have f91 : Exa Z h81 a28 "[Z" := f78.wr W82
  have f92 : Arz Z h81 a60 .long "[J" [.null, .null] := A64.other W82 (Ne.symm ne65)
  have zs93 : Z.heap.size ≤ h81.size := W82.size ▸ zs79
  have kp94 : Keep h h81 [a] := kp80.wr W82 (Or.inl (by simp))
  refine Go.vreturn d1_26 rfl (by decide) (by decide) ?_
  exact ⟨a1, a28, a60, fr9, fr37, fr69, ne35, ne66, ne67, kp94, f83, f84, f85, f86, f87, f88, f90, f92, f89, f91⟩

theorem d4_0 : decode jdk_65_method_111_code 0 = .ok (.iconst 0, 1) := by decide +kernel
theorem d4_1 : decode jdk_65_method_111_code 1 = .ok (.istore_n 2, 1) := by decide +kernel
theorem d4_2 : decode jdk_65_method_111_code 2 = .ok (.aload_n 0, 1) := by decide +kernel
theorem d4_3 : decode jdk_65_method_111_code 3 = .ok (.arraylength, 1) := by decide +kernel
theorem d4_4 : decode jdk_65_method_111_code 4 = .ok (.istore_n 3, 1) := by decide +kernel
theorem d4_5 : decode jdk_65_method_111_code 5 = .ok (.iload_n 2, 1) := by decide +kernel
theorem d4_6 : decode jdk_65_method_111_code 6 = .ok (.iload_n 3, 1) := by decide +kernel
theorem d4_7 : decode jdk_65_method_111_code 7 = .ok (.if_icmp .ge 13, 3) := by decide +kernel
theorem d4_10 : decode jdk_65_method_111_code 10 = .ok (.aload_n 0, 1) := by decide +kernel
theorem d4_11 : decode jdk_65_method_111_code 11 = .ok (.iload_n 2, 1) := by decide +kernel
theorem d4_12 : decode jdk_65_method_111_code 12 = .ok (.iload_n 1, 1) := by decide +kernel
theorem d4_13 : decode jdk_65_method_111_code 13 = .ok (.bastore, 1) := by decide +kernel
theorem d4_14 : decode jdk_65_method_111_code 14 = .ok (.iinc 2 1, 3) := by decide +kernel
theorem d4_17 : decode jdk_65_method_111_code 17 = .ok (.goto (-12), 3) := by decide +kernel
theorem d4_20 : decode jdk_65_method_111_code 20 = .ok (.return_, 1) := by decide +kernel

theorem pd4 : parseMethodDescriptor "([ZZ)V" = some ⟨[(.array .boolean), .boolean], none⟩ := by decide +kernel
theorem pl4 : plainFor (⟨"java/util/Arrays", "fill", "([ZZ)V"⟩ : MethodName) = true := by first | exact plainFor_of_name (by first | (simp [plainName, overriddenIn]; done) | decide +kernel) | decide +kernel

theorem ef_k_fz (m : MethodId) (x0 : Addr) (x1 : Int32) : entryFrame m #[(.ref x0), (.int x1)] 4 = mkF m 0 #[.val (.ref x0), .val (.int x1), .unset, .unset] [] := by first | (simp [entryFrame, mkF, argsToLocals, Value.category]; done) | rfl

set_option maxRecDepth 65536 in
set_option maxHeartbeats 40000000 in
theorem k_fz {l : Launch} {Z : State} {a0 : Array Value} (hw : ∀ d ∈ tables_1, d.before a0 Z = true)  (h : Heap) (hz : Z.heap.size ≤ h.size) (r : Addr) (fa0 : Ari Z h r .boolean [0, 0])  (ge_r : Z.heap.size ≤ r)  : Go l Z (⟨"java/util/Arrays", "fill", "([ZZ)V"⟩ : MethodName) jdk_65_method_111_code 4 (Option.none : Option Jvm.ClassFile.FieldType) ({ frames := 0, cells := 0, slots := 0, locals := 0 } : Room) (QV fun h' => Keep h h' [r] ∧ Ari Z h' r .boolean [0, 0]) 0 0 h 0 #[.val (.ref r), .val (.int (0 : Int32)), .unset, .unset] [] := by
  have kp0 : Keep h h [r] := Keep.refl _ _
  refine Go.iconst 1 (0) d4_0 (by decide) rfl ?_
  refine Go.istore_n 2 #[.val (.ref r), .val (.int (0 : Int32)), .val (.int (0 : Int32)), .unset] d4_1 rfl rfl ?_
  refine Go.aload_n 3 d4_2 rfl rfl rfl ?_
  refine Go.arraylength (z := (2 : Int32)) 4 d4_3 fa0 (by decide : Nat.toInt32 2 = (2 : Int32)) rfl ?_
  refine Go.istore_n 5 #[.val (.ref r), .val (.int (0 : Int32)), .val (.int (0 : Int32)), .val (.int (2 : Int32))] d4_4 rfl rfl ?_
  refine Go.iload_n 6 d4_5 rfl rfl ?_
  refine Go.iload_n 7 d4_6 rfl rfl ?_
  refine Go.icmp_ge 20 10 d4_7 (by decide) (by decide) rfl (fun c => absurd c (by decide)) (fun _ => ?_)
  refine Go.aload_n 11 d4_10 rfl rfl rfl ?_
  refine Go.iload_n 12 d4_11 rfl rfl ?_
  refine Go.iload_n 13 d4_12 rfl rfl ?_
  refine Go.zastore (0) ([0, 0]) 14 d4_13 fa0 (by decide) (by decide) (by decide : (0 : Nat) < 2) (by rw [show (nar .boolean (0 : Int32)) = 0 from by decide]; rfl) ge_r rfl (fun h2 W3 A4 => ?_)
  have zs5 : Z.heap.size ≤ h2.size := W3.size ▸ hz
  have kp6 : Keep h h2 [r] := kp0.wr W3 (Or.inl (by simp))
  refine Go.iinc 17 (1) #[.val (.ref r), .val (.int (0 : Int32)), .val (.int ((0 : Int32) + (1 : Int32))), .val (.int (2 : Int32))] d4_14 (by decide) rfl rfl rfl ?_
  refine Go.goto 5 d4_17 (by decide) (by decide) ?_
  refine Go.iload_n 6 d4_5 rfl rfl ?_
  refine Go.iload_n 7 d4_6 rfl rfl ?_
  refine Go.icmp_ge 20 10 d4_7 (by decide) (by decide) rfl (fun c => absurd c (by decide)) (fun _ => ?_)
  refine Go.aload_n 11 d4_10 rfl rfl rfl ?_
  refine Go.iload_n 12 d4_11 rfl rfl ?_
  refine Go.iload_n 13 d4_12 rfl rfl ?_
  refine Go.zastore (1) ([0, 0]) 14 d4_13 A4 (by decide) (by decide) (by decide : (1 : Nat) < 2) (by rw [show (nar .boolean (0 : Int32)) = 0 from by decide]; rfl) ge_r rfl (fun h8 W9 A10 => ?_)
  have zs11 : Z.heap.size ≤ h8.size := W9.size ▸ zs5
  have kp12 : Keep h h8 [r] := kp6.wr W9 (Or.inl (by simp))
  refine Go.iinc 17 (1) #[.val (.ref r), .val (.int (0 : Int32)), .val (.int (((0 : Int32) + (1 : Int32)) + (1 : Int32))), .val (.int (2 : Int32))] d4_14 (by decide) rfl rfl rfl ?_
  refine Go.goto 5 d4_17 (by decide) (by decide) ?_
  refine Go.iload_n 6 d4_5 rfl rfl ?_
  refine Go.iload_n 7 d4_6 rfl rfl ?_
  refine Go.icmp_ge 20 10 d4_7 (by decide) (by decide) rfl (fun _ => ?_) (fun c => absurd c (by decide))
  refine Go.vreturn d4_20 rfl (by decide) (by decide) ?_
  exact ⟨kp12, A10⟩

theorem d5_0 : decode jdk_65_method_117_code 0 = .ok (.iconst 0, 1) := by decide +kernel
theorem d5_1 : decode jdk_65_method_117_code 1 = .ok (.istore_n 2, 1) := by decide +kernel
theorem d5_2 : decode jdk_65_method_117_code 2 = .ok (.aload_n 0, 1) := by decide +kernel
theorem d5_3 : decode jdk_65_method_117_code 3 = .ok (.arraylength, 1) := by decide +kernel
theorem d5_4 : decode jdk_65_method_117_code 4 = .ok (.istore_n 3, 1) := by decide +kernel
theorem d5_5 : decode jdk_65_method_117_code 5 = .ok (.iload_n 2, 1) := by decide +kernel
theorem d5_6 : decode jdk_65_method_117_code 6 = .ok (.iload_n 3, 1) := by decide +kernel
theorem d5_7 : decode jdk_65_method_117_code 7 = .ok (.if_icmp .ge 13, 3) := by decide +kernel
theorem d5_10 : decode jdk_65_method_117_code 10 = .ok (.aload_n 0, 1) := by decide +kernel
theorem d5_11 : decode jdk_65_method_117_code 11 = .ok (.iload_n 2, 1) := by decide +kernel
theorem d5_12 : decode jdk_65_method_117_code 12 = .ok (.aload_n 1, 1) := by decide +kernel
theorem d5_13 : decode jdk_65_method_117_code 13 = .ok (.aastore, 1) := by decide +kernel
theorem d5_14 : decode jdk_65_method_117_code 14 = .ok (.iinc 2 1, 3) := by decide +kernel
theorem d5_17 : decode jdk_65_method_117_code 17 = .ok (.goto (-12), 3) := by decide +kernel
theorem d5_20 : decode jdk_65_method_117_code 20 = .ok (.return_, 1) := by decide +kernel

theorem pd5 : parseMethodDescriptor "([Ljava/lang/Object;Ljava/lang/Object;)V" = some ⟨[(.array (.object "java/lang/Object")), (.object "java/lang/Object")], none⟩ := by decide +kernel
theorem pl5 : plainFor (⟨"java/util/Arrays", "fill", "([Ljava/lang/Object;Ljava/lang/Object;)V"⟩ : MethodName) = true := by first | exact plainFor_of_name (by first | (simp [plainName, overriddenIn]; done) | decide +kernel) | decide +kernel

theorem ef_k_fo (m : MethodId) (x0 : Addr) (x1 : Unit) : entryFrame m #[(.ref x0), .null] 4 = mkF m 0 #[.val (.ref x0), .val .null, .unset, .unset] [] := by first | (simp [entryFrame, mkF, argsToLocals, Value.category]; done) | rfl

set_option maxRecDepth 65536 in
set_option maxHeartbeats 40000000 in
theorem k_fo {l : Launch} {Z : State} {a0 : Array Value} (hw : ∀ d ∈ tables_1, d.before a0 Z = true)  (h : Heap) (hz : Z.heap.size ≤ h.size) (r : Addr) (nul : Unit) (fa0 : Arz Z h r .long "[J" [.null, .null])  (ge_r : Z.heap.size ≤ r)  : Go l Z (⟨"java/util/Arrays", "fill", "([Ljava/lang/Object;Ljava/lang/Object;)V"⟩ : MethodName) jdk_65_method_117_code 4 (Option.none : Option Jvm.ClassFile.FieldType) ({ frames := 0, cells := 0, slots := 0, locals := 0 } : Room) (QV fun h' => Keep h h' [r] ∧ Arz Z h' r .long "[J" [.null, .null]) 0 0 h 0 #[.val (.ref r), .val (.null), .unset, .unset] [] := by
  have kp0 : Keep h h [r] := Keep.refl _ _
  refine Go.iconst 1 (0) d5_0 (by decide) rfl ?_
  refine Go.istore_n 2 #[.val (.ref r), .val (.null), .val (.int (0 : Int32)), .unset] d5_1 rfl rfl ?_
  refine Go.aload_n 3 d5_2 rfl rfl rfl ?_
  refine Go.zzlen (z := (2 : Int32)) 4 d5_3 fa0 (by decide : Nat.toInt32 2 = (2 : Int32)) rfl ?_
  refine Go.istore_n 5 #[.val (.ref r), .val (.null), .val (.int (0 : Int32)), .val (.int (2 : Int32))] d5_4 rfl rfl ?_
  refine Go.iload_n 6 d5_5 rfl rfl ?_
  refine Go.iload_n 7 d5_6 rfl rfl ?_
  refine Go.icmp_ge 20 10 d5_7 (by decide) (by decide) rfl (fun c => absurd c (by decide)) (fun _ => ?_)
  refine Go.aload_n 11 d5_10 rfl rfl rfl ?_
  refine Go.iload_n 12 d5_11 rfl rfl ?_
  refine Go.aload_n 13 d5_12 rfl rfl rfl ?_
  refine Go.zzstore (0) ([.null, .null]) 14 d5_13 fa0 (Or.inl rfl) (by decide) (by decide) (by decide : (0 : Nat) < 2) rfl ge_r rfl (fun h2 W3 A4 => ?_)
  have zs5 : Z.heap.size ≤ h2.size := W3.size ▸ hz
  have kp6 : Keep h h2 [r] := kp0.wr W3 (Or.inl (by simp))
  refine Go.iinc 17 (1) #[.val (.ref r), .val (.null), .val (.int ((0 : Int32) + (1 : Int32))), .val (.int (2 : Int32))] d5_14 (by decide) rfl rfl rfl ?_
  refine Go.goto 5 d5_17 (by decide) (by decide) ?_
  refine Go.iload_n 6 d5_5 rfl rfl ?_
  refine Go.iload_n 7 d5_6 rfl rfl ?_
  refine Go.icmp_ge 20 10 d5_7 (by decide) (by decide) rfl (fun c => absurd c (by decide)) (fun _ => ?_)
  refine Go.aload_n 11 d5_10 rfl rfl rfl ?_
  refine Go.iload_n 12 d5_11 rfl rfl ?_
  refine Go.aload_n 13 d5_12 rfl rfl rfl ?_
  refine Go.zzstore (1) ([.null, .null]) 14 d5_13 A4 (Or.inl rfl) (by decide) (by decide) (by decide : (1 : Nat) < 2) rfl ge_r rfl (fun h8 W9 A10 => ?_)
  have zs11 : Z.heap.size ≤ h8.size := W9.size ▸ zs5
  have kp12 : Keep h h8 [r] := kp6.wr W9 (Or.inl (by simp))
  refine Go.iinc 17 (1) #[.val (.ref r), .val (.null), .val (.int (((0 : Int32) + (1 : Int32)) + (1 : Int32))), .val (.int (2 : Int32))] d5_14 (by decide) rfl rfl rfl ?_
  refine Go.goto 5 d5_17 (by decide) (by decide) ?_
  refine Go.iload_n 6 d5_5 rfl rfl ?_
  refine Go.iload_n 7 d5_6 rfl rfl ?_
  refine Go.icmp_ge 20 10 d5_7 (by decide) (by decide) rfl (fun _ => ?_) (fun c => absurd c (by decide))
  refine Go.vreturn d5_20 rfl (by decide) (by decide) ?_
  exact ⟨kp12, A10⟩

theorem d3_0 : decode prog_34_method_2_code 0 = .ok (.aload_n 0, 1) := by decide +kernel
theorem d3_1 : decode prog_34_method_2_code 1 = .ok (.lload_n 1, 1) := by decide +kernel
theorem d3_2 : decode prog_34_method_2_code 2 = .ok (.putfield 22, 3) := by decide +kernel
theorem d3_5 : decode prog_34_method_2_code 5 = .ok (.aload_n 0, 1) := by decide +kernel
theorem d3_6 : decode prog_34_method_2_code 6 = .ok (.getfield 13, 3) := by decide +kernel
theorem d3_9 : decode prog_34_method_2_code 9 = .ok (.iconst 0, 1) := by decide +kernel
theorem d3_10 : decode prog_34_method_2_code 10 = .ok (.invokestatic 26, 3) := by decide +kernel
theorem d3_13 : decode prog_34_method_2_code 13 = .ok (.aload_n 0, 1) := by decide +kernel
theorem d3_14 : decode prog_34_method_2_code 14 = .ok (.getfield 18, 3) := by decide +kernel
theorem d3_17 : decode prog_34_method_2_code 17 = .ok (.aconst_null, 1) := by decide +kernel
theorem d3_18 : decode prog_34_method_2_code 18 = .ok (.invokestatic 32, 3) := by decide +kernel
theorem d3_21 : decode prog_34_method_2_code 21 = .ok (.return_, 1) := by decide +kernel

theorem pd3 : parseMethodDescriptor "(J)V" = some ⟨[.long], none⟩ := by decide +kernel
theorem pl3 : plainFor (⟨"com/example/interlace/interlace/engine/Floors", "clear", "(J)V"⟩ : MethodName) = true := by first | exact plainFor_of_name (by first | (simp [plainName, overriddenIn]; done) | decide +kernel) | decide +kernel

theorem ef_k_clr (m : MethodId) (x0 : Addr) (x1 : Int64) : entryFrame m #[(.ref x0), (.long x1)] 3 = mkF m 0 #[.val (.ref x0), .val (.long x1), .second] [] := by first | (simp [entryFrame, mkF, argsToLocals, Value.category]; done) | rfl

set_option maxRecDepth 65536 in
set_option maxHeartbeats 40000000 in
theorem k_clr {l : Launch} {Z : State} {a0 : Array Value} (hw : ∀ d ∈ tables_1, d.before a0 Z = true) {x : Addr} {y : Addr} {z : Addr} (h : Heap) (hz : Z.heap.size ≤ h.size) (a : Addr) (lat : Int64) (fa0 : Exa Z h a "com/example/interlace/interlace/engine/Floors") (fa1 : Fld Z h a "com/example/interlace/interlace/engine/Floors" "floors" "[J" (.ref x)) (fa2 : Fld Z h a "com/example/interlace/interlace/engine/Floors" "hasFloor" "[Z" (.ref y)) (fa3 : Fld Z h a "com/example/interlace/interlace/engine/Floors" "rests" "[[J" (.ref z)) (fa4 : Fld Z h a "com/example/interlace/interlace/engine/Floors" "latest" "J" (.long (0 : Int64))) (fa5 : Arj Z h x [0, 0]) (fa6 : Ari Z h y .boolean [0, 0]) (fa7 : Arz Z h z .long "[J" [.null, .null]) (fa8 : Exa Z h x "[J") (fa9 : Exa Z h y "[Z")  (ge_a : Z.heap.size ≤ a) (ge_x : Z.heap.size ≤ x) (ge_y : Z.heap.size ≤ y) (ge_z : Z.heap.size ≤ z) (nax : a ≠ x) (nay : a ≠ y) (naz : a ≠ z) (nxy : x ≠ y) (nxz : x ≠ z) (nyz : y ≠ z) : Go l Z (⟨"com/example/interlace/interlace/engine/Floors", "clear", "(J)V"⟩ : MethodName) prog_34_method_2_code 3 (Option.none : Option Jvm.ClassFile.FieldType) ({ frames := 1, cells := 0, slots := 0, locals := 24 } : Room) (QV fun h' => Keep h h' [a, y, z] ∧ Exa Z h' a "com/example/interlace/interlace/engine/Floors" ∧ Fld Z h' a "com/example/interlace/interlace/engine/Floors" "floors" "[J" (.ref x) ∧ Fld Z h' a "com/example/interlace/interlace/engine/Floors" "hasFloor" "[Z" (.ref y) ∧ Fld Z h' a "com/example/interlace/interlace/engine/Floors" "rests" "[[J" (.ref z) ∧ Fld Z h' a "com/example/interlace/interlace/engine/Floors" "latest" "J" (.long lat) ∧ Arj Z h' x [0, 0] ∧ Ari Z h' y .boolean [0, 0] ∧ Arz Z h' z .long "[J" [.null, .null] ∧ Exa Z h' x "[J" ∧ Exa Z h' y "[Z") 0 0 h 0 #[.val (.ref a), .val (.long lat), .second] [] := by
  have kp0 : Keep h h [a, y, z] := Keep.refl _ _
  refine Go.aload_n 1 d3_0 rfl rfl rfl ?_
  refine Go.lload_n 2 d3_1 rfl rfl ?_
  refine Go.putfield (ty := .long) 5 d3_2 (tw24 hw) fa4 fa0 (Or.inl (tw25 hw)) (tw1 hw) (by decide) rfl rfl ge_a rfl (fun h1 W2 => ?_)
  have f3 : Exa Z h1 a "com/example/interlace/interlace/engine/Floors" := fa0.wr W2
  have f4 : Fld Z h1 a "com/example/interlace/interlace/engine/Floors" "floors" "[J" (.ref x) := fa1.other W2 (Or.inr (slot_ne (Or.inr (tw11 hw)) (Or.inl (tw25 hw)) (by decide) (by decide +kernel : parseFieldDescriptor "[J" = some (.array .long)) (by decide +kernel : parseFieldDescriptor "J" = some .long)))
  have f5 : Fld Z h1 a "com/example/interlace/interlace/engine/Floors" "hasFloor" "[Z" (.ref y) := fa2.other W2 (Or.inr (slot_ne (Or.inr (tw14 hw)) (Or.inl (tw25 hw)) (by decide) (by decide +kernel : parseFieldDescriptor "[Z" = some (.array .boolean)) (by decide +kernel : parseFieldDescriptor "J" = some .long)))
  have f6 : Fld Z h1 a "com/example/interlace/interlace/engine/Floors" "rests" "[[J" (.ref z) := fa3.other W2 (Or.inr (slot_ne (Or.inr (tw18 hw)) (Or.inl (tw25 hw)) (by decide) (by decide +kernel : parseFieldDescriptor "[[J" = some (.array (.array .long))) (by decide +kernel : parseFieldDescriptor "J" = some .long)))
  have f7 : Fld Z h1 a "com/example/interlace/interlace/engine/Floors" "latest" "J" (.long lat) := fa4.same W2
  have f8 : Arj Z h1 x [0, 0] := fa5.other W2 (Ne.symm nax)
  have f9 : Ari Z h1 y .boolean [0, 0] := fa6.other W2 (Ne.symm nay)
  have f10 : Arz Z h1 z .long "[J" [.null, .null] := fa7.other W2 (Ne.symm naz)
  have f11 : Exa Z h1 x "[J" := fa8.wr W2
  have f12 : Exa Z h1 y "[Z" := fa9.wr W2
  have zs13 : Z.heap.size ≤ h1.size := W2.size ▸ hz
  have kp14 : Keep h h1 [a, y, z] := kp0.wr W2 (Or.inl (by simp))
  refine Go.aload_n 6 d3_5 rfl rfl rfl ?_
  refine Go.getfield 9 d3_6 (tw13 hw) f5 rfl ?_
  refine Go.iconst 10 (0) d3_9 (by decide) rfl ?_
  refine Go.callSV [.ref y, .int (0 : Int32)] [] 13 d3_10 (tw26 hw) (tw27 hw) (tw28 hw) (tw29 hw) pl4 (by decide) (lenOf pd4 rfl) rfl (fun m => ef_k_fz m y (0 : Int32)) _ (k_fz hw h1 zs13 y f9 ge_y) 0 rfl (Nat.le_of_eq rfl) (by decide) (by decide) (by decide) (by decide) rfl ?_
  rintro h16 ⟨K17, f18⟩
  have f19 : Exa Z h16 a "com/example/interlace/interlace/engine/Floors" := f3.keep K17
  have f20 : Fld Z h16 a "com/example/interlace/interlace/engine/Floors" "floors" "[J" (.ref x) := f4.keep K17 (ninS nay nin0)
  have f21 : Fld Z h16 a "com/example/interlace/interlace/engine/Floors" "hasFloor" "[Z" (.ref y) := f5.keep K17 (ninS nay nin0)
  have f22 : Fld Z h16 a "com/example/interlace/interlace/engine/Floors" "rests" "[[J" (.ref z) := f6.keep K17 (ninS nay nin0)
  have f23 : Fld Z h16 a "com/example/interlace/interlace/engine/Floors" "latest" "J" (.long lat) := f7.keep K17 (ninS nay nin0)
  have f24 : Arj Z h16 x [0, 0] := f8.keep K17 (ninS nxy nin0)
  have f25 : Arz Z h16 z .long "[J" [.null, .null] := f10.keep K17 (ninS (Ne.symm nyz) nin0)
  have f26 : Exa Z h16 x "[J" := f11.keep K17
  have f27 : Exa Z h16 y "[Z" := f12.keep K17
  have zs28 : Z.heap.size ≤ h16.size := Nat.le_trans zs13 K17.1
  have kp29 : Keep h h16 [a, y, z] := kp14.trans K17 (allS (Or.inl (by simp)) all0)
  refine Go.aload_n 14 d3_13 rfl rfl rfl ?_
  refine Go.getfield 17 d3_14 (tw17 hw) f22 rfl ?_
  refine Go.aconst_null 18 d3_17 rfl ?_
  refine Go.callSV [.ref z, .null] [] 21 d3_18 (tw30 hw) (tw31 hw) (tw28 hw) (tw32 hw) pl5 (by decide) (lenOf pd5 rfl) rfl (fun m => ef_k_fo m z ()) _ (k_fo hw h16 zs28 z () f25 ge_z) 0 rfl (Nat.le_of_eq rfl) (by decide) (by decide) (by decide) (by decide) rfl ?_
  rintro h31 ⟨K32, f33⟩
  have f34 : Exa Z h31 a "com/example/interlace/interlace/engine/Floors" := f19.keep K32
  have f35 : Fld Z h31 a "com/example/interlace/interlace/engine/Floors" "floors" "[J" (.ref x) := f20.keep K32 (ninS naz nin0)
  have f36 : Fld Z h31 a "com/example/interlace/interlace/engine/Floors" "hasFloor" "[Z" (.ref y) := f21.keep K32 (ninS naz nin0)
  have f37 : Fld Z h31 a "com/example/interlace/interlace/engine/Floors" "rests" "[[J" (.ref z) := f22.keep K32 (ninS naz nin0)
  have f38 : Fld Z h31 a "com/example/interlace/interlace/engine/Floors" "latest" "J" (.long lat) := f23.keep K32 (ninS naz nin0)
  have f39 : Arj Z h31 x [0, 0] := f24.keep K32 (ninS nxz nin0)
  have f40 : Exa Z h31 x "[J" := f26.keep K32
  have f41 : Exa Z h31 y "[Z" := f27.keep K32
  have f42 : Ari Z h31 y .boolean [0, 0] := f18.keep K32 (ninS nyz nin0)
  have zs43 : Z.heap.size ≤ h31.size := Nat.le_trans zs28 K32.1
  have kp44 : Keep h h31 [a, y, z] := kp29.trans K32 (allS (Or.inl (by simp)) all0)
  refine Go.vreturn d3_21 rfl (by decide) (by decide) ?_
  exact ⟨kp44, f34, f35, f36, f37, f38, f39, f42, f33, f40, f41⟩

theorem d6_0 : decode prog_34_method_3_code 0 = .ok (.lload_n 2, 1) := by decide +kernel
theorem d6_1 : decode prog_34_method_3_code 1 = .ok (.aload_n 0, 1) := by decide +kernel
theorem d6_2 : decode prog_34_method_3_code 2 = .ok (.getfield 22, 3) := by decide +kernel
theorem d6_5 : decode prog_34_method_3_code 5 = .ok (.lcmp, 1) := by decide +kernel
theorem d6_6 : decode prog_34_method_3_code 6 = .ok (.ifCond .ge 17, 3) := by decide +kernel
theorem d6_9 : decode prog_34_method_3_code 9 = .ok (.aload_n 0, 1) := by decide +kernel
theorem d6_10 : decode prog_34_method_3_code 10 = .ok (.getfield 7, 3) := by decide +kernel
theorem d6_13 : decode prog_34_method_3_code 13 = .ok (.iload_n 1, 1) := by decide +kernel
theorem d6_14 : decode prog_34_method_3_code 14 = .ok (.lload_n 2, 1) := by decide +kernel
theorem d6_15 : decode prog_34_method_3_code 15 = .ok (.lastore, 1) := by decide +kernel
theorem d6_16 : decode prog_34_method_3_code 16 = .ok (.aload_n 0, 1) := by decide +kernel
theorem d6_17 : decode prog_34_method_3_code 17 = .ok (.getfield 13, 3) := by decide +kernel
theorem d6_20 : decode prog_34_method_3_code 20 = .ok (.iload_n 1, 1) := by decide +kernel
theorem d6_21 : decode prog_34_method_3_code 21 = .ok (.iconst 1, 1) := by decide +kernel
theorem d6_22 : decode prog_34_method_3_code 22 = .ok (.bastore, 1) := by decide +kernel
theorem d6_23 : decode prog_34_method_3_code 23 = .ok (.return_, 1) := by decide +kernel

theorem pd6 : parseMethodDescriptor "(IJ)V" = some ⟨[.int, .long], none⟩ := by decide +kernel
theorem pl6 : plainFor (⟨"com/example/interlace/interlace/engine/Floors", "set", "(IJ)V"⟩ : MethodName) = true := by first | exact plainFor_of_name (by first | (simp [plainName, overriddenIn]; done) | decide +kernel) | decide +kernel

theorem ef_k_set (m : MethodId) (x0 : Addr) (x1 : Int32) (x2 : Int64) : entryFrame m #[(.ref x0), (.int x1), (.long x2)] 4 = mkF m 0 #[.val (.ref x0), .val (.int x1), .val (.long x2), .second] [] := by first | (simp [entryFrame, mkF, argsToLocals, Value.category]; done) | rfl

set_option maxRecDepth 65536 in
set_option maxHeartbeats 40000000 in
theorem k_set {l : Launch} {Z : State} {a0 : Array Value} (hw : ∀ d ∈ tables_1, d.before a0 Z = true) {x : Addr} {y : Addr} {lat : Int64} {f0 : Int64} {f1 : Int64} {p0 : Int32} {p1 : Int32} (h : Heap) (hz : Z.heap.size ≤ h.size) (a : Addr) (v : Int32) (ts : Int64) (fa0 : Fld Z h a "com/example/interlace/interlace/engine/Floors" "latest" "J" (.long lat)) (fa1 : Fld Z h a "com/example/interlace/interlace/engine/Floors" "floors" "[J" (.ref x)) (fa2 : Fld Z h a "com/example/interlace/interlace/engine/Floors" "hasFloor" "[Z" (.ref y)) (fa3 : Arj Z h x [f0, f1]) (fa4 : Ari Z h y .boolean [p0, p1]) (hv : v = 0 ∨ v = 1) (ge_x : Z.heap.size ≤ x) (ge_y : Z.heap.size ≤ y) (nax : a ≠ x) (nay : a ≠ y) (nxy : x ≠ y) : Go l Z (⟨"com/example/interlace/interlace/engine/Floors", "set", "(IJ)V"⟩ : MethodName) prog_34_method_3_code 4 (Option.none : Option Jvm.ClassFile.FieldType) ({ frames := 0, cells := 0, slots := 0, locals := 0 } : Room) (QV fun h' => Keep h h' [x, y] ∧ Arj Z h' x [(if v = (0 : Int32) then (if ts < lat then ts else f0) else f0), (if v = (0 : Int32) then f1 else (if ts < lat then ts else f1))] ∧ Ari Z h' y .boolean [(if v = (0 : Int32) then (if ts < lat then (1 : Int32) else p0) else p0), (if v = (0 : Int32) then p1 else (if ts < lat then (1 : Int32) else p1))]) 0 0 h 0 #[.val (.ref a), .val (.int v), .val (.long ts), .second] [] := by
  have kp0 : Keep h h [x, y] := Keep.refl _ _
  rcases hv with hs0 | hs0
  ·
    subst hs0
    refine Go.lload_n 1 d6_0 rfl rfl ?_
    refine Go.aload_n 2 d6_1 rfl rfl rfl ?_
    refine Go.getfield 5 d6_2 (tw24 hw) fa0 rfl ?_
    refine Go.lcmp 6 d6_5 rfl ?_
    refine Go.lcmp_ge 23 9 d6_6 (by decide) (by decide) rfl (fun c2 => ?_) (fun c2 => ?_)
    ·
      refine Go.vreturn d6_23 rfl (by decide) (by decide) ?_
      exact ⟨kp0, (by simp only [own_00, own_10, if_true, if_false, c2]; exact fa3), (by simp only [own_00, own_10, if_true, if_false, c2]; exact fa4)⟩
    ·
      refine Go.aload_n 10 d6_9 rfl rfl rfl ?_
      refine Go.getfield 13 d6_10 (tw10 hw) fa1 rfl ?_
      refine Go.iload_n 14 d6_13 rfl rfl ?_
      refine Go.lload_n 15 d6_14 rfl rfl ?_
      refine Go.lastore (0) ([ts, f1]) 16 d6_15 fa3 (by decide) (by decide) (by decide : (0 : Nat) < 2) rfl ge_x rfl (fun h3 W4 A5 => ?_)
      have f6 : Fld Z h3 a "com/example/interlace/interlace/engine/Floors" "latest" "J" (.long lat) := fa0.other W4 (Or.inl nax)
      have f7 : Fld Z h3 a "com/example/interlace/interlace/engine/Floors" "floors" "[J" (.ref x) := fa1.other W4 (Or.inl nax)
      have f8 : Fld Z h3 a "com/example/interlace/interlace/engine/Floors" "hasFloor" "[Z" (.ref y) := fa2.other W4 (Or.inl nax)
      have f9 : Ari Z h3 y .boolean [p0, p1] := fa4.other W4 (Ne.symm nxy)
      have zs10 : Z.heap.size ≤ h3.size := W4.size ▸ hz
      have kp11 : Keep h h3 [x, y] := kp0.wr W4 (Or.inl (by simp))
      refine Go.aload_n 17 d6_16 rfl rfl rfl ?_
      refine Go.getfield 20 d6_17 (tw13 hw) f8 rfl ?_
      refine Go.iload_n 21 d6_20 rfl rfl ?_
      refine Go.iconst 22 (1) d6_21 (by decide) rfl ?_
      refine Go.zastore (0) ([(1 : Int32), p1]) 23 d6_22 f9 (by decide) (by decide) (by decide : (0 : Nat) < 2) (by rw [show (nar .boolean (1 : Int32)) = (1 : Int32) from by decide]; rfl) ge_y rfl (fun h12 W13 A14 => ?_)
      have f15 : Fld Z h12 a "com/example/interlace/interlace/engine/Floors" "latest" "J" (.long lat) := f6.other W13 (Or.inl nay)
      have f16 : Fld Z h12 a "com/example/interlace/interlace/engine/Floors" "floors" "[J" (.ref x) := f7.other W13 (Or.inl nay)
      have f17 : Fld Z h12 a "com/example/interlace/interlace/engine/Floors" "hasFloor" "[Z" (.ref y) := f8.other W13 (Or.inl nay)
      have f18 : Arj Z h12 x [ts, f1] := A5.other W13 nxy
      have zs19 : Z.heap.size ≤ h12.size := W13.size ▸ zs10
      have kp20 : Keep h h12 [x, y] := kp11.wr W13 (Or.inl (by simp))
      refine Go.vreturn d6_23 rfl (by decide) (by decide) ?_
      exact ⟨kp20, (by simp only [own_00, own_10, if_true, if_false, c2]; exact f18), (by simp only [own_00, own_10, if_true, if_false, c2]; exact A14)⟩
  ·
    subst hs0
    refine Go.lload_n 1 d6_0 rfl rfl ?_
    refine Go.aload_n 2 d6_1 rfl rfl rfl ?_
    refine Go.getfield 5 d6_2 (tw24 hw) fa0 rfl ?_
    refine Go.lcmp 6 d6_5 rfl ?_
    refine Go.lcmp_ge 23 9 d6_6 (by decide) (by decide) rfl (fun c21 => ?_) (fun c21 => ?_)
    ·
      refine Go.vreturn d6_23 rfl (by decide) (by decide) ?_
      exact ⟨kp0, (by simp only [own_00, own_10, if_true, if_false, c21]; exact fa3), (by simp only [own_00, own_10, if_true, if_false, c21]; exact fa4)⟩
    ·
      refine Go.aload_n 10 d6_9 rfl rfl rfl ?_
      refine Go.getfield 13 d6_10 (tw10 hw) fa1 rfl ?_
      refine Go.iload_n 14 d6_13 rfl rfl ?_
      refine Go.lload_n 15 d6_14 rfl rfl ?_
      refine Go.lastore (1) ([f0, ts]) 16 d6_15 fa3 (by decide) (by decide) (by decide : (1 : Nat) < 2) rfl ge_x rfl (fun h22 W23 A24 => ?_)
      have f25 : Fld Z h22 a "com/example/interlace/interlace/engine/Floors" "latest" "J" (.long lat) := fa0.other W23 (Or.inl nax)
      have f26 : Fld Z h22 a "com/example/interlace/interlace/engine/Floors" "floors" "[J" (.ref x) := fa1.other W23 (Or.inl nax)
      have f27 : Fld Z h22 a "com/example/interlace/interlace/engine/Floors" "hasFloor" "[Z" (.ref y) := fa2.other W23 (Or.inl nax)
      have f28 : Ari Z h22 y .boolean [p0, p1] := fa4.other W23 (Ne.symm nxy)
      have zs29 : Z.heap.size ≤ h22.size := W23.size ▸ hz
      have kp30 : Keep h h22 [x, y] := kp0.wr W23 (Or.inl (by simp))
      refine Go.aload_n 17 d6_16 rfl rfl rfl ?_
      refine Go.getfield 20 d6_17 (tw13 hw) f27 rfl ?_
      refine Go.iload_n 21 d6_20 rfl rfl ?_
      refine Go.iconst 22 (1) d6_21 (by decide) rfl ?_
      refine Go.zastore (1) ([p0, (1 : Int32)]) 23 d6_22 f28 (by decide) (by decide) (by decide : (1 : Nat) < 2) (by rw [show (nar .boolean (1 : Int32)) = (1 : Int32) from by decide]; rfl) ge_y rfl (fun h31 W32 A33 => ?_)
      have f34 : Fld Z h31 a "com/example/interlace/interlace/engine/Floors" "latest" "J" (.long lat) := f25.other W32 (Or.inl nay)
      have f35 : Fld Z h31 a "com/example/interlace/interlace/engine/Floors" "floors" "[J" (.ref x) := f26.other W32 (Or.inl nay)
      have f36 : Fld Z h31 a "com/example/interlace/interlace/engine/Floors" "hasFloor" "[Z" (.ref y) := f27.other W32 (Or.inl nay)
      have f37 : Arj Z h31 x [f0, ts] := A24.other W32 nxy
      have zs38 : Z.heap.size ≤ h31.size := W32.size ▸ zs29
      have kp39 : Keep h h31 [x, y] := kp30.wr W32 (Or.inl (by simp))
      refine Go.vreturn d6_23 rfl (by decide) (by decide) ?_
      exact ⟨kp39, (by simp only [own_00, own_10, if_true, if_false, c21]; exact f37), (by simp only [own_00, own_10, if_true, if_false, c21]; exact A33)⟩

theorem d19_0 : decode prog_83_method_7_code 0 = .ok (.aload_n 0, 1) := by decide +kernel
theorem d19_1 : decode prog_83_method_7_code 1 = .ok (.getfield 7, 3) := by decide +kernel
theorem d19_4 : decode prog_83_method_7_code 4 = .ok (.ireturn, 1) := by decide +kernel

theorem pd19 : parseMethodDescriptor "()I" = some ⟨[], some .int⟩ := by decide +kernel
theorem pl19 : plainFor (⟨"com/example/interlace/interlace/pattern/Structure$Leaf", "variable", "()I"⟩ : MethodName) = true := by first | exact plainFor_of_name (by first | (simp [plainName, overriddenIn]; done) | decide +kernel) | decide +kernel

theorem ef_k_lv (m : MethodId) (x0 : Addr) : entryFrame m #[(.ref x0)] 1 = mkF m 0 #[.val (.ref x0)] [] := by first | (simp [entryFrame, mkF, argsToLocals, Value.category]; done) | rfl

set_option maxRecDepth 65536 in
set_option maxHeartbeats 40000000 in
theorem k_lv {l : Launch} {Z : State} {a0 : Array Value} (hw : ∀ d ∈ tables_1, d.before a0 Z = true) {n : Int32} (h : Heap) (hz : Z.heap.size ≤ h.size) (a : Addr) (fa0 : Fld Z h a "com/example/interlace/interlace/pattern/Structure$Leaf" "variable" "I" (.int n))    : Go l Z (⟨"com/example/interlace/interlace/pattern/Structure$Leaf", "variable", "()I"⟩ : MethodName) prog_83_method_7_code 1 (Option.some Jvm.ClassFile.FieldType.int) ({ frames := 0, cells := 0, slots := 0, locals := 0 } : Room) (QI fun rz h' => rz = n ∧ h' = h) 0 0 h 0 #[.val (.ref a)] [] := by
  refine Go.aload_n 1 d19_0 rfl rfl rfl ?_
  refine Go.getfield 4 d19_1 (tw53 hw) fa0 rfl ?_
  refine Go.ireturn d19_4 rfl (by decide) (by decide) ?_
  exact ⟨rfl, rfl⟩

theorem d12_0 : decode prog_41_method_5_code 0 = .ok (.aload_n 0, 1) := by decide +kernel
theorem d12_1 : decode prog_41_method_5_code 1 = .ok (.getfield 7, 3) := by decide +kernel
theorem d12_4 : decode prog_41_method_5_code 4 = .ok (.ireturn, 1) := by decide +kernel

theorem pd12 : parseMethodDescriptor "()I" = some ⟨[], some .int⟩ := by decide +kernel
theorem pl12 : plainFor (⟨"com/example/interlace/interlace/engine/Plan$Bind", "variable", "()I"⟩ : MethodName) = true := by first | exact plainFor_of_name (by first | (simp [plainName, overriddenIn]; done) | decide +kernel) | decide +kernel

theorem ef_k_bv (m : MethodId) (x0 : Addr) : entryFrame m #[(.ref x0)] 1 = mkF m 0 #[.val (.ref x0)] [] := by first | (simp [entryFrame, mkF, argsToLocals, Value.category]; done) | rfl

set_option maxRecDepth 65536 in
set_option maxHeartbeats 40000000 in
theorem k_bv {l : Launch} {Z : State} {a0 : Array Value} (hw : ∀ d ∈ tables_1, d.before a0 Z = true) {n : Int32} (h : Heap) (hz : Z.heap.size ≤ h.size) (a : Addr) (fa0 : Fld Z h a "com/example/interlace/interlace/engine/Plan$Bind" "variable" "I" (.int n))    : Go l Z (⟨"com/example/interlace/interlace/engine/Plan$Bind", "variable", "()I"⟩ : MethodName) prog_41_method_5_code 1 (Option.some Jvm.ClassFile.FieldType.int) ({ frames := 0, cells := 0, slots := 0, locals := 0 } : Room) (QI fun rz h' => rz = n ∧ h' = h) 0 0 h 0 #[.val (.ref a)] [] := by
  refine Go.aload_n 1 d12_0 rfl rfl rfl ?_
  refine Go.getfield 4 d12_1 (tw72 hw) fa0 rfl ?_
  refine Go.ireturn d12_4 rfl (by decide) (by decide) ?_
  exact ⟨rfl, rfl⟩

theorem d13_0 : decode prog_41_method_7_code 0 = .ok (.aload_n 0, 1) := by decide +kernel
theorem d13_1 : decode prog_41_method_7_code 1 = .ok (.getfield 17, 3) := by decide +kernel
theorem d13_4 : decode prog_41_method_7_code 4 = .ok (.areturn, 1) := by decide +kernel

theorem pd13 : parseMethodDescriptor "()Lcom/example/interlace/interlace/engine/Plan$Required;" = some ⟨[], some (.object "com/example/interlace/interlace/engine/Plan$Required")⟩ := by decide +kernel
theorem pl13 : plainFor (⟨"com/example/interlace/interlace/engine/Plan$Bind", "required", "()Lcom/example/interlace/interlace/engine/Plan$Required;"⟩ : MethodName) = true := by first | exact plainFor_of_name (by first | (simp [plainName, overriddenIn]; done) | decide +kernel) | decide +kernel

theorem ef_k_bq (m : MethodId) (x0 : Addr) : entryFrame m #[(.ref x0)] 1 = mkF m 0 #[.val (.ref x0)] [] := by first | (simp [entryFrame, mkF, argsToLocals, Value.category]; done) | rfl

set_option maxRecDepth 65536 in
set_option maxHeartbeats 40000000 in
theorem k_bq {l : Launch} {Z : State} {a0 : Array Value} (hw : ∀ d ∈ tables_1, d.before a0 Z = true) {q : Addr} (h : Heap) (hz : Z.heap.size ≤ h.size) (a : Addr) (fa0 : Fld Z h a "com/example/interlace/interlace/engine/Plan$Bind" "required" "Lcom/example/interlace/interlace/engine/Plan$Required;" (.ref q))    : Go l Z (⟨"com/example/interlace/interlace/engine/Plan$Bind", "required", "()Lcom/example/interlace/interlace/engine/Plan$Required;"⟩ : MethodName) prog_41_method_7_code 1 (Option.some (Jvm.ClassFile.FieldType.object "com/example/interlace/interlace/engine/Plan$Required")) ({ frames := 0, cells := 0, slots := 0, locals := 0 } : Room) (QR fun rz h' => rz = .ref q ∧ h' = h) 0 0 h 0 #[.val (.ref a)] [] := by
  refine Go.aload_n 1 d13_0 rfl rfl rfl ?_
  refine Go.getfield 4 d13_1 (tw76 hw) fa0 rfl ?_
  refine Go.areturn d13_4 rfl rfl rfl (by decide) (by decide) ?_
  exact ⟨rfl, rfl⟩

theorem d14_0 : decode prog_47_method_8_code 0 = .ok (.aload_n 0, 1) := by decide +kernel
theorem d14_1 : decode prog_47_method_8_code 1 = .ok (.getfield 7, 3) := by decide +kernel
theorem d14_4 : decode prog_47_method_8_code 4 = .ok (.areturn, 1) := by decide +kernel

theorem pd14 : parseMethodDescriptor "()Lcom/example/interlace/interlace/pattern/Structure;" = some ⟨[], some (.object "com/example/interlace/interlace/pattern/Structure")⟩ := by decide +kernel
theorem pl14 : plainFor (⟨"com/example/interlace/interlace/engine/Plan$Required", "operand", "()Lcom/example/interlace/interlace/pattern/Structure;"⟩ : MethodName) = true := by first | exact plainFor_of_name (by first | (simp [plainName, overriddenIn]; done) | decide +kernel) | decide +kernel

theorem ef_k_ro (m : MethodId) (x0 : Addr) : entryFrame m #[(.ref x0)] 1 = mkF m 0 #[.val (.ref x0)] [] := by first | (simp [entryFrame, mkF, argsToLocals, Value.category]; done) | rfl

set_option maxRecDepth 65536 in
set_option maxHeartbeats 40000000 in
theorem k_ro {l : Launch} {Z : State} {a0 : Array Value} (hw : ∀ d ∈ tables_1, d.before a0 Z = true) {q : Addr} (h : Heap) (hz : Z.heap.size ≤ h.size) (a : Addr) (fa0 : Fld Z h a "com/example/interlace/interlace/engine/Plan$Required" "operand" "Lcom/example/interlace/interlace/pattern/Structure;" (.ref q))    : Go l Z (⟨"com/example/interlace/interlace/engine/Plan$Required", "operand", "()Lcom/example/interlace/interlace/pattern/Structure;"⟩ : MethodName) prog_47_method_8_code 1 (Option.some (Jvm.ClassFile.FieldType.object "com/example/interlace/interlace/pattern/Structure")) ({ frames := 0, cells := 0, slots := 0, locals := 0 } : Room) (QR fun rz h' => rz = .ref q ∧ h' = h) 0 0 h 0 #[.val (.ref a)] [] := by
  refine Go.aload_n 1 d14_0 rfl rfl rfl ?_
  refine Go.getfield 4 d14_1 (tw59 hw) fa0 rfl ?_
  refine Go.areturn d14_4 rfl rfl rfl (by decide) (by decide) ?_
  exact ⟨rfl, rfl⟩

theorem d28_0 : decode prog_47_method_10_code 0 = .ok (.aload_n 0, 1) := by decide +kernel
theorem d28_1 : decode prog_47_method_10_code 1 = .ok (.getfield 17, 3) := by decide +kernel
theorem d28_4 : decode prog_47_method_10_code 4 = .ok (.areturn, 1) := by decide +kernel

theorem pd28 : parseMethodDescriptor "()Lcom/example/interlace/interlace/engine/Plan$Required;" = some ⟨[], some (.object "com/example/interlace/interlace/engine/Plan$Required")⟩ := by decide +kernel
theorem pl28 : plainFor (⟨"com/example/interlace/interlace/engine/Plan$Required", "rest", "()Lcom/example/interlace/interlace/engine/Plan$Required;"⟩ : MethodName) = true := by first | exact plainFor_of_name (by first | (simp [plainName, overriddenIn]; done) | decide +kernel) | decide +kernel

theorem ef_k_rrA (m : MethodId) (x0 : Addr) : entryFrame m #[(.ref x0)] 1 = mkF m 0 #[.val (.ref x0)] [] := by first | (simp [entryFrame, mkF, argsToLocals, Value.category]; done) | rfl

set_option maxRecDepth 65536 in
set_option maxHeartbeats 40000000 in
theorem k_rrA {l : Launch} {Z : State} {a0 : Array Value} (hw : ∀ d ∈ tables_1, d.before a0 Z = true) {q : Addr} (h : Heap) (hz : Z.heap.size ≤ h.size) (a : Addr) (fa0 : Fld Z h a "com/example/interlace/interlace/engine/Plan$Required" "rest" "Lcom/example/interlace/interlace/engine/Plan$Required;" (.ref q))    : Go l Z (⟨"com/example/interlace/interlace/engine/Plan$Required", "rest", "()Lcom/example/interlace/interlace/engine/Plan$Required;"⟩ : MethodName) prog_47_method_10_code 1 (Option.some (Jvm.ClassFile.FieldType.object "com/example/interlace/interlace/engine/Plan$Required")) ({ frames := 0, cells := 0, slots := 0, locals := 0 } : Room) (QR fun rz h' => rz = .ref q ∧ h' = h) 0 0 h 0 #[.val (.ref a)] [] := by
  refine Go.aload_n 1 d28_0 rfl rfl rfl ?_
  refine Go.getfield 4 d28_1 (tw63 hw) fa0 rfl ?_
  refine Go.areturn d28_4 rfl rfl rfl (by decide) (by decide) ?_
  exact ⟨rfl, rfl⟩

theorem ef_k_rrN (m : MethodId) (x0 : Addr) : entryFrame m #[(.ref x0)] 1 = mkF m 0 #[.val (.ref x0)] [] := by first | (simp [entryFrame, mkF, argsToLocals, Value.category]; done) | rfl

set_option maxRecDepth 65536 in
set_option maxHeartbeats 40000000 in
theorem k_rrN {l : Launch} {Z : State} {a0 : Array Value} (hw : ∀ d ∈ tables_1, d.before a0 Z = true)  (h : Heap) (hz : Z.heap.size ≤ h.size) (a : Addr) (fa0 : Fld Z h a "com/example/interlace/interlace/engine/Plan$Required" "rest" "Lcom/example/interlace/interlace/engine/Plan$Required;" (.null))    : Go l Z (⟨"com/example/interlace/interlace/engine/Plan$Required", "rest", "()Lcom/example/interlace/interlace/engine/Plan$Required;"⟩ : MethodName) prog_47_method_10_code 1 (Option.some (Jvm.ClassFile.FieldType.object "com/example/interlace/interlace/engine/Plan$Required")) ({ frames := 0, cells := 0, slots := 0, locals := 0 } : Room) (QR fun rz h' => rz = .null ∧ h' = h) 0 0 h 0 #[.val (.ref a)] [] := by
  refine Go.aload_n 1 d28_0 rfl rfl rfl ?_
  refine Go.getfield 4 d28_1 (tw63 hw) fa0 rfl ?_
  refine Go.areturn d28_4 rfl rfl rfl (by decide) (by decide) ?_
  exact ⟨rfl, rfl⟩

theorem d20_0 : decode jdk_21_method_38_code 0 = .ok (.aload_n 0, 1) := by decide +kernel
theorem d20_1 : decode jdk_21_method_38_code 1 = .ok (.getfield 24, 3) := by decide +kernel
theorem d20_4 : decode jdk_21_method_38_code 4 = .ok (.aload_n 0, 1) := by decide +kernel
theorem d20_5 : decode jdk_21_method_38_code 5 = .ok (.getfield 20, 3) := by decide +kernel
theorem d20_8 : decode jdk_21_method_38_code 8 = .ok (.if_icmp .ne 7, 3) := by decide +kernel
theorem d20_11 : decode jdk_21_method_38_code 11 = .ok (.iconst 1, 1) := by decide +kernel
theorem d20_12 : decode jdk_21_method_38_code 12 = .ok (.goto 4, 3) := by decide +kernel
theorem d20_15 : decode jdk_21_method_38_code 15 = .ok (.iconst 0, 1) := by decide +kernel
theorem d20_16 : decode jdk_21_method_38_code 16 = .ok (.ireturn, 1) := by decide +kernel

theorem pd20 : parseMethodDescriptor "()Z" = some ⟨[], some .boolean⟩ := by decide +kernel
theorem pl20 : plainFor (⟨"java/util/ArrayDeque", "isEmpty", "()Z"⟩ : MethodName) = true := by first | exact plainFor_of_name (by first | (simp [plainName, overriddenIn]; done) | decide +kernel) | decide +kernel

theorem ef_k_emp (m : MethodId) (x0 : Addr) : entryFrame m #[(.ref x0)] 1 = mkF m 0 #[.val (.ref x0)] [] := by first | (simp [entryFrame, mkF, argsToLocals, Value.category]; done) | rfl

set_option maxRecDepth 65536 in
set_option maxHeartbeats 40000000 in
theorem k_emp {l : Launch} {Z : State} {a0 : Array Value} (hw : ∀ d ∈ tables_1, d.before a0 Z = true)  (h : Heap) (hz : Z.heap.size ≤ h.size) (d : Addr) (fa0 : Fld Z h d "java/util/ArrayDeque" "head" "I" (.int (0 : Int32))) (fa1 : Fld Z h d "java/util/ArrayDeque" "tail" "I" (.int (0 : Int32)))    : Go l Z (⟨"java/util/ArrayDeque", "isEmpty", "()Z"⟩ : MethodName) jdk_21_method_38_code 1 (Option.some Jvm.ClassFile.FieldType.boolean) ({ frames := 0, cells := 0, slots := 0, locals := 0 } : Room) (QI fun rz h' => rz = (1 : Int32) ∧ h' = h) 0 0 h 0 #[.val (.ref d)] [] := by
  refine Go.aload_n 1 d20_0 rfl rfl rfl ?_
  refine Go.getfield 4 d20_1 (tw143 hw) fa0 rfl ?_
  refine Go.aload_n 5 d20_4 rfl rfl rfl ?_
  refine Go.getfield 8 d20_5 (tw145 hw) fa1 rfl ?_
  refine Go.icmp_ne 15 11 d20_8 (by decide) (by decide) rfl (fun c => absurd c (by decide)) (fun _ => ?_)
  refine Go.iconst 12 (1) d20_11 (by decide) rfl ?_
  refine Go.goto 16 d20_12 (by decide) (by decide) ?_
  refine Go.nreturn (t := .boolean) (z' := (1 : Int32)) d20_16 rfl (by simp) (by decide) (by decide) (by decide) ?_
  exact ⟨rfl, rfl⟩

theorem d16_0 : decode jdk_21_method_3_code 0 = .ok (.aload_n 0, 1) := by decide +kernel
theorem d16_1 : decode jdk_21_method_3_code 1 = .ok (.invokespecial 42, 3) := by decide +kernel
theorem d16_4 : decode jdk_21_method_3_code 4 = .ok (.aload_n 0, 1) := by decide +kernel
theorem d16_5 : decode jdk_21_method_3_code 5 = .ok (.bipush 17, 2) := by decide +kernel
theorem d16_7 : decode jdk_21_method_3_code 7 = .ok (.anewarray 47, 3) := by decide +kernel
theorem d16_10 : decode jdk_21_method_3_code 10 = .ok (.putfield 3, 3) := by decide +kernel
theorem d16_13 : decode jdk_21_method_3_code 13 = .ok (.return_, 1) := by decide +kernel

theorem pd16 : parseMethodDescriptor "()V" = some ⟨[], none⟩ := by decide +kernel
theorem pl16 : plainFor (⟨"java/util/ArrayDeque", "<init>", "()V"⟩ : MethodName) = true := by first | exact plainFor_of_name (by first | (simp [plainName, overriddenIn]; done) | decide +kernel) | decide +kernel

theorem ef_k_ad (m : MethodId) (x0 : Addr) : entryFrame m #[(.ref x0)] 1 = mkF m 0 #[.val (.ref x0)] [] := by first | (simp [entryFrame, mkF, argsToLocals, Value.category]; done) | rfl

set_option maxRecDepth 65536 in
set_option maxHeartbeats 40000000 in
theorem k_ad {l : Launch} {Z : State} {a0 : Array Value} (hw : ∀ d ∈ tables_1, d.before a0 Z = true)  (h : Heap) (hz : Z.heap.size ≤ h.size) (d : Addr) (fa0 : Exa Z h d "java/util/ArrayDeque") (fa1 : Fld Z h d "java/util/ArrayDeque" "elements" "[Ljava/lang/Object;" (.null)) (fa2 : Fld Z h d "java/util/ArrayDeque" "head" "I" (.int (0 : Int32))) (fa3 : Fld Z h d "java/util/ArrayDeque" "tail" "I" (.int (0 : Int32)))  (ge_d : Z.heap.size ≤ d)  : Go l Z (⟨"java/util/ArrayDeque", "<init>", "()V"⟩ : MethodName) jdk_21_method_3_code 1 (Option.none : Option Jvm.ClassFile.FieldType) ({ frames := 2, cells := 1, slots := 17, locals := 40 } : Room) (QV fun h' => Keep h h' [d] ∧ Exa Z h' d "java/util/ArrayDeque" ∧ Fld Z h' d "java/util/ArrayDeque" "head" "I" (.int (0 : Int32)) ∧ Fld Z h' d "java/util/ArrayDeque" "tail" "I" (.int (0 : Int32))) 0 0 h 0 #[.val (.ref d)] [] := by
  have kp0 : Keep h h [d] := Keep.refl _ _
  refine Go.aload_n 1 d16_0 rfl rfl rfl ?_
  refine Go.callCp [] [] 4 d16_1 rfl (tw112 hw) (tw113 hw) (tw116 hw) (tw117 hw) pl17 (by decide) (lenOf pd17 rfl) rfl (fun m => ef_k_col m d) (k_col hw h hz d) 0 rfl (Nat.le_of_eq rfl) (by decide) (by decide) (by decide) (by decide) rfl ?_
  refine Go.aload_n 5 d16_4 rfl rfl rfl ?_
  refine Go.bipush 7 (17) d16_5 (by decide) rfl ?_
  refine Go.newR (cap := 17) (vs := [.null, .null, .null, .null, .null, .null, .null, .null, .null, .null, .null, .null, .null, .null, .null, .null, .null]) 10 d16_7 (tw119 hw) (tw120 hw) (by decide) (by decide) (by decide) rfl (by decide) (by decide) rfl (fun a4 h5 q6 E7 A8 => ?_)
  have ne9 : d ≠ a4 := fun e => absurd fa0.lt (by rw [e, q6]; exact Nat.lt_irrefl _)
  have ge10 : Z.heap.size ≤ a4 := (Eq.symm q6) ▸ hz
  have fr11 : h.size ≤ a4 := by rw [q6]; exact kp0.1
  have f12 : Exa Z h5 d "java/util/ArrayDeque" := fa0.ext E7
  have f13 : Fld Z h5 d "java/util/ArrayDeque" "elements" "[Ljava/lang/Object;" (.null) := fa1.ext E7
  have f14 : Fld Z h5 d "java/util/ArrayDeque" "head" "I" (.int (0 : Int32)) := fa2.ext E7
  have f15 : Fld Z h5 d "java/util/ArrayDeque" "tail" "I" (.int (0 : Int32)) := fa3.ext E7
  have zs16 : Z.heap.size ≤ h5.size := Nat.le_trans hz E7.1
  have kp17 : Keep h h5 [d] := kp0.ext E7
  refine Go.putfield (ty := (.array (.object "java/lang/Object"))) 13 d16_10 (tw121 hw) f13 f12 (Or.inl (tw122 hw)) (tw107 hw) (by decide) rfl rfl ge_d rfl (fun h18 W19 => ?_)
  have f20 : Exa Z h18 d "java/util/ArrayDeque" := f12.wr W19
  have f21 : Fld Z h18 d "java/util/ArrayDeque" "elements" "[Ljava/lang/Object;" (.ref a4) := f13.same W19
  have f22 : Fld Z h18 d "java/util/ArrayDeque" "head" "I" (.int (0 : Int32)) := f14.other W19 (Or.inr (slot_ne (Or.inl (tw144 hw)) (Or.inl (tw122 hw)) (by decide) (by decide +kernel : parseFieldDescriptor "I" = some .int) (by decide +kernel : parseFieldDescriptor "[Ljava/lang/Object;" = some (.array (.object "java/lang/Object")))))
  have f23 : Fld Z h18 d "java/util/ArrayDeque" "tail" "I" (.int (0 : Int32)) := f15.other W19 (Or.inr (slot_ne (Or.inl (tw146 hw)) (Or.inl (tw122 hw)) (by decide) (by decide +kernel : parseFieldDescriptor "I" = some .int) (by decide +kernel : parseFieldDescriptor "[Ljava/lang/Object;" = some (.array (.object "java/lang/Object")))))
  have f24 : Aro Z h18 a4 "java/lang/Object" [.null, .null, .null, .null, .null, .null, .null, .null, .null, .null, .null, .null, .null, .null, .null, .null, .null] := A8.other W19 (Ne.symm ne9)
  have zs25 : Z.heap.size ≤ h18.size := W19.size ▸ zs16
  have kp26 : Keep h h18 [d] := kp17.wr W19 (Or.inl (by simp))
  refine Go.vreturn d16_13 rfl (by decide) (by decide) ?_
  exact ⟨kp26, f20, f22, f23⟩

theorem d18_0 : decode prog_34_method_6_code 0 = .ok (.aconst_null, 1) := by decide +kernel
theorem d18_1 : decode prog_34_method_6_code 1 = .ok (.astore_n 3, 1) := by decide +kernel
theorem d18_2 : decode prog_34_method_6_code 2 = .ok (.aload_n 1, 1) := by decide +kernel
theorem d18_3 : decode prog_34_method_6_code 3 = .ok (.instanceof 98, 3) := by decide +kernel
theorem d18_6 : decode prog_34_method_6_code 6 = .ok (.ifCond .eq 48, 3) := by decide +kernel
theorem d18_9 : decode prog_34_method_6_code 9 = .ok (.aload_n 1, 1) := by decide +kernel
theorem d18_10 : decode prog_34_method_6_code 10 = .ok (.checkcast 98, 3) := by decide +kernel
theorem d18_13 : decode prog_34_method_6_code 13 = .ok (.astore 4, 2) := by decide +kernel
theorem d18_15 : decode prog_34_method_6_code 15 = .ok (.aload_n 0, 1) := by decide +kernel
theorem d18_16 : decode prog_34_method_6_code 16 = .ok (.getfield 13, 3) := by decide +kernel
theorem d18_19 : decode prog_34_method_6_code 19 = .ok (.aload 4, 2) := by decide +kernel
theorem d18_21 : decode prog_34_method_6_code 21 = .ok (.invokevirtual 100, 3) := by decide +kernel
theorem d18_24 : decode prog_34_method_6_code 24 = .ok (.baload, 1) := by decide +kernel
theorem d18_25 : decode prog_34_method_6_code 25 = .ok (.ifCond .eq 22, 3) := by decide +kernel
theorem d18_28 : decode prog_34_method_6_code 28 = .ok (.iconst 1, 1) := by decide +kernel
theorem d18_29 : decode prog_34_method_6_code 29 = .ok (.newarray .long, 2) := by decide +kernel
theorem d18_31 : decode prog_34_method_6_code 31 = .ok (.dup, 1) := by decide +kernel
theorem d18_32 : decode prog_34_method_6_code 32 = .ok (.iconst 0, 1) := by decide +kernel
theorem d18_33 : decode prog_34_method_6_code 33 = .ok (.aload_n 0, 1) := by decide +kernel
theorem d18_34 : decode prog_34_method_6_code 34 = .ok (.getfield 7, 3) := by decide +kernel
theorem d18_37 : decode prog_34_method_6_code 37 = .ok (.aload 4, 2) := by decide +kernel
theorem d18_39 : decode prog_34_method_6_code 39 = .ok (.invokevirtual 100, 3) := by decide +kernel
theorem d18_42 : decode prog_34_method_6_code 42 = .ok (.laload, 1) := by decide +kernel
theorem d18_43 : decode prog_34_method_6_code 43 = .ok (.lastore, 1) := by decide +kernel
theorem d18_44 : decode prog_34_method_6_code 44 = .ok (.goto 6, 3) := by decide +kernel
theorem d18_47 : decode prog_34_method_6_code 47 = .ok (.getstatic 41, 3) := by decide +kernel
theorem d18_50 : decode prog_34_method_6_code 50 = .ok (.astore_n 3, 1) := by decide +kernel
theorem d18_51 : decode prog_34_method_6_code 51 = .ok (.goto 38, 3) := by decide +kernel
theorem d18_54 : decode prog_34_method_6_code 54 = .ok (.aload_n 1, 1) := by decide +kernel
theorem d18_55 : decode prog_34_method_6_code 55 = .ok (.instanceof 101, 3) := by decide +kernel
theorem d18_58 : decode prog_34_method_6_code 58 = .ok (.ifCond .eq 27, 3) := by decide +kernel
theorem d18_61 : decode prog_34_method_6_code 61 = .ok (.aload_n 1, 1) := by decide +kernel
theorem d18_62 : decode prog_34_method_6_code 62 = .ok (.checkcast 101, 3) := by decide +kernel
theorem d18_65 : decode prog_34_method_6_code 65 = .ok (.astore 5, 2) := by decide +kernel
theorem d18_67 : decode prog_34_method_6_code 67 = .ok (.aload_n 2, 1) := by decide +kernel
theorem d18_68 : decode prog_34_method_6_code 68 = .ok (.new 82, 3) := by decide +kernel
theorem d18_71 : decode prog_34_method_6_code 71 = .ok (.dup, 1) := by decide +kernel
theorem d18_72 : decode prog_34_method_6_code 72 = .ok (.aload 5, 2) := by decide +kernel
theorem d18_74 : decode prog_34_method_6_code 74 = .ok (.invokespecial 103, 3) := by decide +kernel
theorem d18_77 : decode prog_34_method_6_code 77 = .ok (.invokeinterface 106 2, 5) := by decide +kernel
theorem d18_82 : decode prog_34_method_6_code 82 = .ok (.goto 7, 3) := by decide +kernel
theorem d18_85 : decode prog_34_method_6_code 85 = .ok (.getstatic 41, 3) := by decide +kernel
theorem d18_88 : decode prog_34_method_6_code 88 = .ok (.astore_n 3, 1) := by decide +kernel
theorem d18_89 : decode prog_34_method_6_code 89 = .ok (.aload_n 3, 1) := by decide +kernel
theorem d18_90 : decode prog_34_method_6_code 90 = .ok (.areturn, 1) := by decide +kernel

theorem pd18 : parseMethodDescriptor "(Lcom/example/interlace/interlace/pattern/Structure;Ljava/util/Deque;)[J" = some ⟨[(.object "com/example/interlace/interlace/pattern/Structure"), (.object "java/util/Deque")], some (.array .long)⟩ := by decide +kernel
theorem pl18 : plainFor (⟨"com/example/interlace/interlace/engine/Floors", "enter", "(Lcom/example/interlace/interlace/pattern/Structure;Ljava/util/Deque;)[J"⟩ : MethodName) = true := by first | exact plainFor_of_name (by first | (simp [plainName, overriddenIn]; done) | decide +kernel) | decide +kernel

theorem ef_k_ent00 (m : MethodId) (x0 : Addr) (x1 : Addr) (x2 : Addr) : entryFrame m #[(.ref x0), (.ref x1), (.ref x2)] 6 = mkF m 0 #[.val (.ref x0), .val (.ref x1), .val (.ref x2), .unset, .unset, .unset] [] := by first | (simp [entryFrame, mkF, argsToLocals, Value.category]; done) | rfl

set_option maxRecDepth 65536 in
set_option maxHeartbeats 40000000 in
theorem k_ent00 {l : Launch} {Z : State} {a0 : Array Value} (hw : ∀ d ∈ tables_1, d.before a0 Z = true) {x : Addr} {y : Addr} {nn : Addr} {f0 : Int64} {f1 : Int64} {p1 : Int32} (h : Heap) (hz : Z.heap.size ≤ h.size) (a : Addr) (o : Addr) (d : Addr) (fa0 : Exa Z h a "com/example/interlace/interlace/engine/Floors") (fa1 : Fld Z h a "com/example/interlace/interlace/engine/Floors" "floors" "[J" (.ref x)) (fa2 : Fld Z h a "com/example/interlace/interlace/engine/Floors" "hasFloor" "[Z" (.ref y)) (fa3 : Arj Z h x [f0, f1]) (fa4 : Ari Z h y .boolean [(0 : Int32), p1]) (fa5 : Exa Z h o "com/example/interlace/interlace/pattern/Structure$Leaf") (fa6 : Fld Z h o "com/example/interlace/interlace/pattern/Structure$Leaf" "variable" "I" (.int (0 : Int32))) (fa7 : Sta Z h "com/example/interlace/interlace/engine/Floors" "NONE" "[J" (.ref nn)) (fa8 : Arj Z h nn []) (fa9 : Exa Z h nn "[J")    : Go l Z (⟨"com/example/interlace/interlace/engine/Floors", "enter", "(Lcom/example/interlace/interlace/pattern/Structure;Ljava/util/Deque;)[J"⟩ : MethodName) prog_34_method_6_code 6 (Option.some (Jvm.ClassFile.FieldType.array Jvm.ClassFile.FieldType.long)) ({ frames := 1, cells := 1, slots := 1, locals := 16 } : Room) (QR fun rz h' => rz = .ref nn ∧ Keep h h' []) 0 0 h 0 #[.val (.ref a), .val (.ref o), .val (.ref d), .unset, .unset, .unset] [] := by
  have kp0 : Keep h h [] := Keep.refl _ _
  refine Go.aconst_null 1 d18_0 rfl ?_
  refine Go.astore_n 2 #[.val (.ref a), .val (.ref o), .val (.ref d), .val (.null), .unset, .unset] d18_1 rfl rfl rfl ?_
  refine Go.aload_n 3 d18_2 rfl rfl rfl ?_
  refine Go.instY 6 d18_3 (tw127 hw) (Ins.self fa5) rfl ?_
  refine Go.if_eq 54 9 d18_6 (by decide) (by decide) rfl (fun c => absurd c (by decide)) (fun _ => ?_)
  refine Go.aload_n 10 d18_9 rfl rfl rfl ?_
  refine Go.cast 13 d18_10 (tw127 hw) (Ins.self fa5) rfl ?_
  refine Go.astore 15 #[.val (.ref a), .val (.ref o), .val (.ref d), .val (.null), .val (.ref o), .unset] d18_13 rfl rfl rfl ?_
  refine Go.aload_n 16 d18_15 rfl rfl rfl ?_
  refine Go.getfield 19 d18_16 (tw13 hw) fa2 rfl ?_
  refine Go.aload 21 d18_19 rfl rfl rfl ?_
  refine Go.callVIp [] [.ref y] 24 d18_21 (tw129 hw) (tw130 hw) (tw132 hw) (tw131 hw) (tw43 hw) (tw133 hw) fa5 pl19 (by decide) (lenOf pd19 rfl) rfl (fun m => ef_k_lv m o) _ (k_lv hw h hz o fa6) 1 rfl (Nat.le_of_eq rfl) (by decide) (by decide) (by decide) (by decide) rfl ?_
  refine Go.zaload (x := (0 : Int32)) (0) 25 d18_24 fa4 (by decide) (by decide) rfl rfl ?_
  refine Go.if_eq 47 28 d18_25 (by decide) (by decide) rfl (fun _ => ?_) (fun c => absurd c (by decide))
  refine Go.getstatic 50 d18_47 (tw90 hw) fa7 rfl ?_
  refine Go.astore_n 51 #[.val (.ref a), .val (.ref o), .val (.ref d), .val (.ref nn), .val (.ref o), .unset] d18_50 rfl rfl rfl ?_
  refine Go.goto 89 d18_51 (by decide) (by decide) ?_
  refine Go.aload_n 90 d18_89 rfl rfl rfl ?_
  refine Go.areturn d18_90 rfl rfl rfl (by decide) (by decide) ?_
  exact ⟨rfl, kp0⟩

theorem ef_k_ent01 (m : MethodId) (x0 : Addr) (x1 : Addr) (x2 : Addr) : entryFrame m #[(.ref x0), (.ref x1), (.ref x2)] 6 = mkF m 0 #[.val (.ref x0), .val (.ref x1), .val (.ref x2), .unset, .unset, .unset] [] := by first | (simp [entryFrame, mkF, argsToLocals, Value.category]; done) | rfl

set_option maxRecDepth 65536 in
set_option maxHeartbeats 40000000 in
theorem k_ent01 {l : Launch} {Z : State} {a0 : Array Value} (hw : ∀ d ∈ tables_1, d.before a0 Z = true) {x : Addr} {y : Addr} {nn : Addr} {f0 : Int64} {f1 : Int64} {p1 : Int32} (h : Heap) (hz : Z.heap.size ≤ h.size) (a : Addr) (o : Addr) (d : Addr) (fa0 : Exa Z h a "com/example/interlace/interlace/engine/Floors") (fa1 : Fld Z h a "com/example/interlace/interlace/engine/Floors" "floors" "[J" (.ref x)) (fa2 : Fld Z h a "com/example/interlace/interlace/engine/Floors" "hasFloor" "[Z" (.ref y)) (fa3 : Arj Z h x [f0, f1]) (fa4 : Ari Z h y .boolean [(1 : Int32), p1]) (fa5 : Exa Z h o "com/example/interlace/interlace/pattern/Structure$Leaf") (fa6 : Fld Z h o "com/example/interlace/interlace/pattern/Structure$Leaf" "variable" "I" (.int (0 : Int32))) (fa7 : Sta Z h "com/example/interlace/interlace/engine/Floors" "NONE" "[J" (.ref nn)) (fa8 : Arj Z h nn []) (fa9 : Exa Z h nn "[J")    : Go l Z (⟨"com/example/interlace/interlace/engine/Floors", "enter", "(Lcom/example/interlace/interlace/pattern/Structure;Ljava/util/Deque;)[J"⟩ : MethodName) prog_34_method_6_code 6 (Option.some (Jvm.ClassFile.FieldType.array Jvm.ClassFile.FieldType.long)) ({ frames := 1, cells := 1, slots := 1, locals := 16 } : Room) (QR fun rz h' => ∃ r : Addr, rz = .ref r ∧ h.size ≤ r ∧ Keep h h' [] ∧ Arj Z h' r [f0] ∧ Exa Z h' r "[J") 0 0 h 0 #[.val (.ref a), .val (.ref o), .val (.ref d), .unset, .unset, .unset] [] := by
  have kp0 : Keep h h [] := Keep.refl _ _
  refine Go.aconst_null 1 d18_0 rfl ?_
  refine Go.astore_n 2 #[.val (.ref a), .val (.ref o), .val (.ref d), .val (.null), .unset, .unset] d18_1 rfl rfl rfl ?_
  refine Go.aload_n 3 d18_2 rfl rfl rfl ?_
  refine Go.instY 6 d18_3 (tw127 hw) (Ins.self fa5) rfl ?_
  refine Go.if_eq 54 9 d18_6 (by decide) (by decide) rfl (fun c => absurd c (by decide)) (fun _ => ?_)
  refine Go.aload_n 10 d18_9 rfl rfl rfl ?_
  refine Go.cast 13 d18_10 (tw127 hw) (Ins.self fa5) rfl ?_
  refine Go.astore 15 #[.val (.ref a), .val (.ref o), .val (.ref d), .val (.null), .val (.ref o), .unset] d18_13 rfl rfl rfl ?_
  refine Go.aload_n 16 d18_15 rfl rfl rfl ?_
  refine Go.getfield 19 d18_16 (tw13 hw) fa2 rfl ?_
  refine Go.aload 21 d18_19 rfl rfl rfl ?_
  refine Go.callVIp [] [.ref y] 24 d18_21 (tw129 hw) (tw130 hw) (tw132 hw) (tw131 hw) (tw43 hw) (tw133 hw) fa5 pl19 (by decide) (lenOf pd19 rfl) rfl (fun m => ef_k_lv m o) _ (k_lv hw h hz o fa6) 1 rfl (Nat.le_of_eq rfl) (by decide) (by decide) (by decide) (by decide) rfl ?_
  refine Go.zaload (x := (1 : Int32)) (0) 25 d18_24 fa4 (by decide) (by decide) rfl rfl ?_
  refine Go.if_eq 47 28 d18_25 (by decide) (by decide) rfl (fun c => absurd c (by decide)) (fun _ => ?_)
  refine Go.iconst 29 (1) d18_28 (by decide) rfl ?_
  refine Go.newJE (cap := 1) (xs := [0]) "[J" 31 d18_29 (tw9 hw) rfl (by decide) (by decide) (by decide) (by decide) rfl (by decide) (by decide) rfl (fun a6 h7 q8 E9 A10 Ex11 => ?_)
  have ne12 : a ≠ a6 := fun e => absurd fa0.lt (by rw [e, q8]; exact Nat.lt_irrefl _)
  have ne13 : x ≠ a6 := fun e => absurd fa3.lt (by rw [e, q8]; exact Nat.lt_irrefl _)
  have ne14 : y ≠ a6 := fun e => absurd fa4.lt (by rw [e, q8]; exact Nat.lt_irrefl _)
  have ne15 : o ≠ a6 := fun e => absurd fa5.lt (by rw [e, q8]; exact Nat.lt_irrefl _)
  have ne16 : nn ≠ a6 := fun e => absurd fa8.lt (by rw [e, q8]; exact Nat.lt_irrefl _)
  have ge17 : Z.heap.size ≤ a6 := (Eq.symm q8) ▸ hz
  have fr18 : h.size ≤ a6 := by rw [q8]; exact kp0.1
  have f19 : Exa Z h7 a "com/example/interlace/interlace/engine/Floors" := fa0.ext E9
  have f20 : Fld Z h7 a "com/example/interlace/interlace/engine/Floors" "floors" "[J" (.ref x) := fa1.ext E9
  have f21 : Fld Z h7 a "com/example/interlace/interlace/engine/Floors" "hasFloor" "[Z" (.ref y) := fa2.ext E9
  have f22 : Arj Z h7 x [f0, f1] := fa3.ext E9
  have f23 : Ari Z h7 y .boolean [(1 : Int32), p1] := fa4.ext E9
  have f24 : Exa Z h7 o "com/example/interlace/interlace/pattern/Structure$Leaf" := fa5.ext E9
  have f25 : Fld Z h7 o "com/example/interlace/interlace/pattern/Structure$Leaf" "variable" "I" (.int (0 : Int32)) := fa6.ext E9
  have f26 : Sta Z h7 "com/example/interlace/interlace/engine/Floors" "NONE" "[J" (.ref nn) := fa7.ext E9
  have f27 : Arj Z h7 nn [] := fa8.ext E9
  have f28 : Exa Z h7 nn "[J" := fa9.ext E9
  have zs29 : Z.heap.size ≤ h7.size := Nat.le_trans hz E9.1
  have kp30 : Keep h h7 [] := kp0.ext E9
  refine Go.dup 32 d18_31 rfl rfl ?_
  refine Go.iconst 33 (0) d18_32 (by decide) rfl ?_
  refine Go.aload_n 34 d18_33 rfl rfl rfl ?_
  refine Go.getfield 37 d18_34 (tw10 hw) f20 rfl ?_
  refine Go.aload 39 d18_37 rfl rfl rfl ?_
  refine Go.callVIp [] [.ref x, .int (0 : Int32), .ref a6, .ref a6] 42 d18_39 (tw129 hw) (tw130 hw) (tw132 hw) (tw131 hw) (tw43 hw) (tw133 hw) f24 pl19 (by decide) (lenOf pd19 rfl) rfl (fun m => ef_k_lv m o) _ (k_lv hw h7 zs29 o f25) 4 rfl (Nat.le_of_eq rfl) (by decide) (by decide) (by decide) (by decide) rfl ?_
  refine Go.laload (x := f0) (0) 43 d18_42 f22 (by decide) (by decide) rfl rfl ?_
  refine Go.lastore (0) ([f0]) 44 d18_43 A10 (by decide) (by decide) (by decide : (0 : Nat) < 1) rfl ge17 rfl (fun h34 W35 A36 => ?_)
  have f37 : Exa Z h34 a "com/example/interlace/interlace/engine/Floors" := f19.wr W35
  have f38 : Fld Z h34 a "com/example/interlace/interlace/engine/Floors" "floors" "[J" (.ref x) := f20.other W35 (Or.inl ne12)
  have f39 : Fld Z h34 a "com/example/interlace/interlace/engine/Floors" "hasFloor" "[Z" (.ref y) := f21.other W35 (Or.inl ne12)
  have f40 : Arj Z h34 x [f0, f1] := f22.other W35 ne13
  have f41 : Ari Z h34 y .boolean [(1 : Int32), p1] := f23.other W35 ne14
  have f42 : Exa Z h34 o "com/example/interlace/interlace/pattern/Structure$Leaf" := f24.wr W35
  have f43 : Fld Z h34 o "com/example/interlace/interlace/pattern/Structure$Leaf" "variable" "I" (.int (0 : Int32)) := f25.other W35 (Or.inl ne15)
  have f44 : Sta Z h34 "com/example/interlace/interlace/engine/Floors" "NONE" "[J" (.ref nn) := f26.wr W35
  have f45 : Arj Z h34 nn [] := f27.other W35 ne16
  have f46 : Exa Z h34 nn "[J" := f28.wr W35
  have f47 : Exa Z h34 a6 "[J" := Ex11.wr W35
  have zs48 : Z.heap.size ≤ h34.size := W35.size ▸ zs29
  have kp49 : Keep h h34 [] := kp30.wr W35 (Or.inr fr18)
  refine Go.goto 50 d18_44 (by decide) (by decide) ?_
  refine Go.astore_n 51 #[.val (.ref a), .val (.ref o), .val (.ref d), .val (.ref a6), .val (.ref o), .unset] d18_50 rfl rfl rfl ?_
  refine Go.goto 89 d18_51 (by decide) (by decide) ?_
  refine Go.aload_n 90 d18_89 rfl rfl rfl ?_
  refine Go.areturn d18_90 rfl rfl rfl (by decide) (by decide) ?_
  exact ⟨a6, rfl, fr18, kp49, A36, f47⟩

theorem ef_k_ent10 (m : MethodId) (x0 : Addr) (x1 : Addr) (x2 : Addr) : entryFrame m #[(.ref x0), (.ref x1), (.ref x2)] 6 = mkF m 0 #[.val (.ref x0), .val (.ref x1), .val (.ref x2), .unset, .unset, .unset] [] := by first | (simp [entryFrame, mkF, argsToLocals, Value.category]; done) | rfl

set_option maxRecDepth 65536 in
set_option maxHeartbeats 40000000 in
theorem k_ent10 {l : Launch} {Z : State} {a0 : Array Value} (hw : ∀ d ∈ tables_1, d.before a0 Z = true) {x : Addr} {y : Addr} {nn : Addr} {f0 : Int64} {f1 : Int64} {p0 : Int32} (h : Heap) (hz : Z.heap.size ≤ h.size) (a : Addr) (o : Addr) (d : Addr) (fa0 : Exa Z h a "com/example/interlace/interlace/engine/Floors") (fa1 : Fld Z h a "com/example/interlace/interlace/engine/Floors" "floors" "[J" (.ref x)) (fa2 : Fld Z h a "com/example/interlace/interlace/engine/Floors" "hasFloor" "[Z" (.ref y)) (fa3 : Arj Z h x [f0, f1]) (fa4 : Ari Z h y .boolean [p0, (0 : Int32)]) (fa5 : Exa Z h o "com/example/interlace/interlace/pattern/Structure$Leaf") (fa6 : Fld Z h o "com/example/interlace/interlace/pattern/Structure$Leaf" "variable" "I" (.int (1 : Int32))) (fa7 : Sta Z h "com/example/interlace/interlace/engine/Floors" "NONE" "[J" (.ref nn)) (fa8 : Arj Z h nn []) (fa9 : Exa Z h nn "[J")    : Go l Z (⟨"com/example/interlace/interlace/engine/Floors", "enter", "(Lcom/example/interlace/interlace/pattern/Structure;Ljava/util/Deque;)[J"⟩ : MethodName) prog_34_method_6_code 6 (Option.some (Jvm.ClassFile.FieldType.array Jvm.ClassFile.FieldType.long)) ({ frames := 1, cells := 1, slots := 1, locals := 16 } : Room) (QR fun rz h' => rz = .ref nn ∧ Keep h h' []) 0 0 h 0 #[.val (.ref a), .val (.ref o), .val (.ref d), .unset, .unset, .unset] [] := by
  have kp0 : Keep h h [] := Keep.refl _ _
  refine Go.aconst_null 1 d18_0 rfl ?_
  refine Go.astore_n 2 #[.val (.ref a), .val (.ref o), .val (.ref d), .val (.null), .unset, .unset] d18_1 rfl rfl rfl ?_
  refine Go.aload_n 3 d18_2 rfl rfl rfl ?_
  refine Go.instY 6 d18_3 (tw127 hw) (Ins.self fa5) rfl ?_
  refine Go.if_eq 54 9 d18_6 (by decide) (by decide) rfl (fun c => absurd c (by decide)) (fun _ => ?_)
  refine Go.aload_n 10 d18_9 rfl rfl rfl ?_
  refine Go.cast 13 d18_10 (tw127 hw) (Ins.self fa5) rfl ?_
  refine Go.astore 15 #[.val (.ref a), .val (.ref o), .val (.ref d), .val (.null), .val (.ref o), .unset] d18_13 rfl rfl rfl ?_
  refine Go.aload_n 16 d18_15 rfl rfl rfl ?_
  refine Go.getfield 19 d18_16 (tw13 hw) fa2 rfl ?_
  refine Go.aload 21 d18_19 rfl rfl rfl ?_
  refine Go.callVIp [] [.ref y] 24 d18_21 (tw129 hw) (tw130 hw) (tw132 hw) (tw131 hw) (tw43 hw) (tw133 hw) fa5 pl19 (by decide) (lenOf pd19 rfl) rfl (fun m => ef_k_lv m o) _ (k_lv hw h hz o fa6) 1 rfl (Nat.le_of_eq rfl) (by decide) (by decide) (by decide) (by decide) rfl ?_
  refine Go.zaload (x := (0 : Int32)) (1) 25 d18_24 fa4 (by decide) (by decide) rfl rfl ?_
  refine Go.if_eq 47 28 d18_25 (by decide) (by decide) rfl (fun _ => ?_) (fun c => absurd c (by decide))
  refine Go.getstatic 50 d18_47 (tw90 hw) fa7 rfl ?_
  refine Go.astore_n 51 #[.val (.ref a), .val (.ref o), .val (.ref d), .val (.ref nn), .val (.ref o), .unset] d18_50 rfl rfl rfl ?_
  refine Go.goto 89 d18_51 (by decide) (by decide) ?_
  refine Go.aload_n 90 d18_89 rfl rfl rfl ?_
  refine Go.areturn d18_90 rfl rfl rfl (by decide) (by decide) ?_
  exact ⟨rfl, kp0⟩

theorem ef_k_ent11 (m : MethodId) (x0 : Addr) (x1 : Addr) (x2 : Addr) : entryFrame m #[(.ref x0), (.ref x1), (.ref x2)] 6 = mkF m 0 #[.val (.ref x0), .val (.ref x1), .val (.ref x2), .unset, .unset, .unset] [] := by first | (simp [entryFrame, mkF, argsToLocals, Value.category]; done) | rfl

set_option maxRecDepth 65536 in
set_option maxHeartbeats 40000000 in
theorem k_ent11 {l : Launch} {Z : State} {a0 : Array Value} (hw : ∀ d ∈ tables_1, d.before a0 Z = true) {x : Addr} {y : Addr} {nn : Addr} {f0 : Int64} {f1 : Int64} {p0 : Int32} (h : Heap) (hz : Z.heap.size ≤ h.size) (a : Addr) (o : Addr) (d : Addr) (fa0 : Exa Z h a "com/example/interlace/interlace/engine/Floors") (fa1 : Fld Z h a "com/example/interlace/interlace/engine/Floors" "floors" "[J" (.ref x)) (fa2 : Fld Z h a "com/example/interlace/interlace/engine/Floors" "hasFloor" "[Z" (.ref y)) (fa3 : Arj Z h x [f0, f1]) (fa4 : Ari Z h y .boolean [p0, (1 : Int32)]) (fa5 : Exa Z h o "com/example/interlace/interlace/pattern/Structure$Leaf") (fa6 : Fld Z h o "com/example/interlace/interlace/pattern/Structure$Leaf" "variable" "I" (.int (1 : Int32))) (fa7 : Sta Z h "com/example/interlace/interlace/engine/Floors" "NONE" "[J" (.ref nn)) (fa8 : Arj Z h nn []) (fa9 : Exa Z h nn "[J")    : Go l Z (⟨"com/example/interlace/interlace/engine/Floors", "enter", "(Lcom/example/interlace/interlace/pattern/Structure;Ljava/util/Deque;)[J"⟩ : MethodName) prog_34_method_6_code 6 (Option.some (Jvm.ClassFile.FieldType.array Jvm.ClassFile.FieldType.long)) ({ frames := 1, cells := 1, slots := 1, locals := 16 } : Room) (QR fun rz h' => ∃ r : Addr, rz = .ref r ∧ h.size ≤ r ∧ Keep h h' [] ∧ Arj Z h' r [f1] ∧ Exa Z h' r "[J") 0 0 h 0 #[.val (.ref a), .val (.ref o), .val (.ref d), .unset, .unset, .unset] [] := by
  have kp0 : Keep h h [] := Keep.refl _ _
  refine Go.aconst_null 1 d18_0 rfl ?_
  refine Go.astore_n 2 #[.val (.ref a), .val (.ref o), .val (.ref d), .val (.null), .unset, .unset] d18_1 rfl rfl rfl ?_
  refine Go.aload_n 3 d18_2 rfl rfl rfl ?_
  refine Go.instY 6 d18_3 (tw127 hw) (Ins.self fa5) rfl ?_
  refine Go.if_eq 54 9 d18_6 (by decide) (by decide) rfl (fun c => absurd c (by decide)) (fun _ => ?_)
  refine Go.aload_n 10 d18_9 rfl rfl rfl ?_
  refine Go.cast 13 d18_10 (tw127 hw) (Ins.self fa5) rfl ?_
  refine Go.astore 15 #[.val (.ref a), .val (.ref o), .val (.ref d), .val (.null), .val (.ref o), .unset] d18_13 rfl rfl rfl ?_
  refine Go.aload_n 16 d18_15 rfl rfl rfl ?_
  refine Go.getfield 19 d18_16 (tw13 hw) fa2 rfl ?_
  refine Go.aload 21 d18_19 rfl rfl rfl ?_
  refine Go.callVIp [] [.ref y] 24 d18_21 (tw129 hw) (tw130 hw) (tw132 hw) (tw131 hw) (tw43 hw) (tw133 hw) fa5 pl19 (by decide) (lenOf pd19 rfl) rfl (fun m => ef_k_lv m o) _ (k_lv hw h hz o fa6) 1 rfl (Nat.le_of_eq rfl) (by decide) (by decide) (by decide) (by decide) rfl ?_
  refine Go.zaload (x := (1 : Int32)) (1) 25 d18_24 fa4 (by decide) (by decide) rfl rfl ?_
  refine Go.if_eq 47 28 d18_25 (by decide) (by decide) rfl (fun c => absurd c (by decide)) (fun _ => ?_)
  refine Go.iconst 29 (1) d18_28 (by decide) rfl ?_
  refine Go.newJE (cap := 1) (xs := [0]) "[J" 31 d18_29 (tw9 hw) rfl (by decide) (by decide) (by decide) (by decide) rfl (by decide) (by decide) rfl (fun a6 h7 q8 E9 A10 Ex11 => ?_)
  have ne12 : a ≠ a6 := fun e => absurd fa0.lt (by rw [e, q8]; exact Nat.lt_irrefl _)
  have ne13 : x ≠ a6 := fun e => absurd fa3.lt (by rw [e, q8]; exact Nat.lt_irrefl _)
  have ne14 : y ≠ a6 := fun e => absurd fa4.lt (by rw [e, q8]; exact Nat.lt_irrefl _)
  have ne15 : o ≠ a6 := fun e => absurd fa5.lt (by rw [e, q8]; exact Nat.lt_irrefl _)
  have ne16 : nn ≠ a6 := fun e => absurd fa8.lt (by rw [e, q8]; exact Nat.lt_irrefl _)
  have ge17 : Z.heap.size ≤ a6 := (Eq.symm q8) ▸ hz
  have fr18 : h.size ≤ a6 := by rw [q8]; exact kp0.1
  have f19 : Exa Z h7 a "com/example/interlace/interlace/engine/Floors" := fa0.ext E9
  have f20 : Fld Z h7 a "com/example/interlace/interlace/engine/Floors" "floors" "[J" (.ref x) := fa1.ext E9
  have f21 : Fld Z h7 a "com/example/interlace/interlace/engine/Floors" "hasFloor" "[Z" (.ref y) := fa2.ext E9
  have f22 : Arj Z h7 x [f0, f1] := fa3.ext E9
  have f23 : Ari Z h7 y .boolean [p0, (1 : Int32)] := fa4.ext E9
  have f24 : Exa Z h7 o "com/example/interlace/interlace/pattern/Structure$Leaf" := fa5.ext E9
  have f25 : Fld Z h7 o "com/example/interlace/interlace/pattern/Structure$Leaf" "variable" "I" (.int (1 : Int32)) := fa6.ext E9
  have f26 : Sta Z h7 "com/example/interlace/interlace/engine/Floors" "NONE" "[J" (.ref nn) := fa7.ext E9
  have f27 : Arj Z h7 nn [] := fa8.ext E9
  have f28 : Exa Z h7 nn "[J" := fa9.ext E9
  have zs29 : Z.heap.size ≤ h7.size := Nat.le_trans hz E9.1
  have kp30 : Keep h h7 [] := kp0.ext E9
  refine Go.dup 32 d18_31 rfl rfl ?_
  refine Go.iconst 33 (0) d18_32 (by decide) rfl ?_
  refine Go.aload_n 34 d18_33 rfl rfl rfl ?_
  refine Go.getfield 37 d18_34 (tw10 hw) f20 rfl ?_
  refine Go.aload 39 d18_37 rfl rfl rfl ?_
  refine Go.callVIp [] [.ref x, .int (0 : Int32), .ref a6, .ref a6] 42 d18_39 (tw129 hw) (tw130 hw) (tw132 hw) (tw131 hw) (tw43 hw) (tw133 hw) f24 pl19 (by decide) (lenOf pd19 rfl) rfl (fun m => ef_k_lv m o) _ (k_lv hw h7 zs29 o f25) 4 rfl (Nat.le_of_eq rfl) (by decide) (by decide) (by decide) (by decide) rfl ?_
  refine Go.laload (x := f1) (1) 43 d18_42 f22 (by decide) (by decide) rfl rfl ?_
  refine Go.lastore (0) ([f1]) 44 d18_43 A10 (by decide) (by decide) (by decide : (0 : Nat) < 1) rfl ge17 rfl (fun h34 W35 A36 => ?_)
  have f37 : Exa Z h34 a "com/example/interlace/interlace/engine/Floors" := f19.wr W35
  have f38 : Fld Z h34 a "com/example/interlace/interlace/engine/Floors" "floors" "[J" (.ref x) := f20.other W35 (Or.inl ne12)
  have f39 : Fld Z h34 a "com/example/interlace/interlace/engine/Floors" "hasFloor" "[Z" (.ref y) := f21.other W35 (Or.inl ne12)
  have f40 : Arj Z h34 x [f0, f1] := f22.other W35 ne13
  have f41 : Ari Z h34 y .boolean [p0, (1 : Int32)] := f23.other W35 ne14
  have f42 : Exa Z h34 o "com/example/interlace/interlace/pattern/Structure$Leaf" := f24.wr W35
  have f43 : Fld Z h34 o "com/example/interlace/interlace/pattern/Structure$Leaf" "variable" "I" (.int (1 : Int32)) := f25.other W35 (Or.inl ne15)
  have f44 : Sta Z h34 "com/example/interlace/interlace/engine/Floors" "NONE" "[J" (.ref nn) := f26.wr W35
  have f45 : Arj Z h34 nn [] := f27.other W35 ne16
  have f46 : Exa Z h34 nn "[J" := f28.wr W35
  have f47 : Exa Z h34 a6 "[J" := Ex11.wr W35
  have zs48 : Z.heap.size ≤ h34.size := W35.size ▸ zs29
  have kp49 : Keep h h34 [] := kp30.wr W35 (Or.inr fr18)
  refine Go.goto 50 d18_44 (by decide) (by decide) ?_
  refine Go.astore_n 51 #[.val (.ref a), .val (.ref o), .val (.ref d), .val (.ref a6), .val (.ref o), .unset] d18_50 rfl rfl rfl ?_
  refine Go.goto 89 d18_51 (by decide) (by decide) ?_
  refine Go.aload_n 90 d18_89 rfl rfl rfl ?_
  refine Go.areturn d18_90 rfl rfl rfl (by decide) (by decide) ?_
  exact ⟨a6, rfl, fr18, kp49, A36, f47⟩

theorem d15_0 : decode prog_34_method_5_code 0 = .ok (.new 65, 3) := by decide +kernel
theorem d15_3 : decode prog_34_method_5_code 3 = .ok (.dup, 1) := by decide +kernel
theorem d15_4 : decode prog_34_method_5_code 4 = .ok (.invokespecial 67, 3) := by decide +kernel
theorem d15_7 : decode prog_34_method_5_code 7 = .ok (.astore_n 2, 1) := by decide +kernel
theorem d15_8 : decode prog_34_method_5_code 8 = .ok (.aload_n 0, 1) := by decide +kernel
theorem d15_9 : decode prog_34_method_5_code 9 = .ok (.aload_n 1, 1) := by decide +kernel
theorem d15_10 : decode prog_34_method_5_code 10 = .ok (.aload_n 2, 1) := by decide +kernel
theorem d15_11 : decode prog_34_method_5_code 11 = .ok (.invokevirtual 68, 3) := by decide +kernel
theorem d15_14 : decode prog_34_method_5_code 14 = .ok (.astore_n 3, 1) := by decide +kernel
theorem d15_15 : decode prog_34_method_5_code 15 = .ok (.aload_n 2, 1) := by decide +kernel
theorem d15_16 : decode prog_34_method_5_code 16 = .ok (.invokeinterface 72 1, 5) := by decide +kernel
theorem d15_21 : decode prog_34_method_5_code 21 = .ok (.ifCond .ne 63, 3) := by decide +kernel
theorem d15_24 : decode prog_34_method_5_code 24 = .ok (.aload_n 2, 1) := by decide +kernel
theorem d15_25 : decode prog_34_method_5_code 25 = .ok (.invokeinterface 78 1, 5) := by decide +kernel
theorem d15_30 : decode prog_34_method_5_code 30 = .ok (.checkcast 82, 3) := by decide +kernel
theorem d15_33 : decode prog_34_method_5_code 33 = .ok (.astore 4, 2) := by decide +kernel
theorem d15_35 : decode prog_34_method_5_code 35 = .ok (.aload_n 3, 1) := by decide +kernel
theorem d15_36 : decode prog_34_method_5_code 36 = .ok (.ifnull 9, 3) := by decide +kernel
theorem d15_39 : decode prog_34_method_5_code 39 = .ok (.aload 4, 2) := by decide +kernel
theorem d15_41 : decode prog_34_method_5_code 41 = .ok (.aload_n 3, 1) := by decide +kernel
theorem d15_42 : decode prog_34_method_5_code 42 = .ok (.invokevirtual 84, 3) := by decide +kernel
theorem d15_45 : decode prog_34_method_5_code 45 = .ok (.aload 4, 2) := by decide +kernel
theorem d15_47 : decode prog_34_method_5_code 47 = .ok (.invokevirtual 88, 3) := by decide +kernel
theorem d15_50 : decode prog_34_method_5_code 50 = .ok (.astore 5, 2) := by decide +kernel
theorem d15_52 : decode prog_34_method_5_code 52 = .ok (.aload 5, 2) := by decide +kernel
theorem d15_54 : decode prog_34_method_5_code 54 = .ok (.ifnonnull 19, 3) := by decide +kernel
theorem d15_57 : decode prog_34_method_5_code 57 = .ok (.aload_n 2, 1) := by decide +kernel
theorem d15_58 : decode prog_34_method_5_code 58 = .ok (.invokeinterface 91 1, 5) := by decide +kernel
theorem d15_63 : decode prog_34_method_5_code 63 = .ok (.pop, 1) := by decide +kernel
theorem d15_64 : decode prog_34_method_5_code 64 = .ok (.aload 4, 2) := by decide +kernel
theorem d15_66 : decode prog_34_method_5_code 66 = .ok (.invokevirtual 94, 3) := by decide +kernel
theorem d15_69 : decode prog_34_method_5_code 69 = .ok (.astore_n 3, 1) := by decide +kernel
theorem d15_70 : decode prog_34_method_5_code 70 = .ok (.goto 11, 3) := by decide +kernel
theorem d15_73 : decode prog_34_method_5_code 73 = .ok (.aload_n 0, 1) := by decide +kernel
theorem d15_74 : decode prog_34_method_5_code 74 = .ok (.aload 5, 2) := by decide +kernel
theorem d15_76 : decode prog_34_method_5_code 76 = .ok (.aload_n 2, 1) := by decide +kernel
theorem d15_77 : decode prog_34_method_5_code 77 = .ok (.invokevirtual 68, 3) := by decide +kernel
theorem d15_80 : decode prog_34_method_5_code 80 = .ok (.astore_n 3, 1) := by decide +kernel
theorem d15_81 : decode prog_34_method_5_code 81 = .ok (.goto (-66), 3) := by decide +kernel
theorem d15_84 : decode prog_34_method_5_code 84 = .ok (.aload_n 3, 1) := by decide +kernel
theorem d15_85 : decode prog_34_method_5_code 85 = .ok (.areturn, 1) := by decide +kernel

theorem pd15 : parseMethodDescriptor "(Lcom/example/interlace/interlace/pattern/Structure;)[J" = some ⟨[(.object "com/example/interlace/interlace/pattern/Structure")], some (.array .long)⟩ := by decide +kernel
theorem pl15 : plainFor (⟨"com/example/interlace/interlace/engine/Floors", "least", "(Lcom/example/interlace/interlace/pattern/Structure;)[J"⟩ : MethodName) = true := by first | exact plainFor_of_name (by first | (simp [plainName, overriddenIn]; done) | decide +kernel) | decide +kernel

theorem ef_k_lea00 (m : MethodId) (x0 : Addr) (x1 : Addr) : entryFrame m #[(.ref x0), (.ref x1)] 6 = mkF m 0 #[.val (.ref x0), .val (.ref x1), .unset, .unset, .unset, .unset] [] := by first | (simp [entryFrame, mkF, argsToLocals, Value.category]; done) | rfl

set_option maxRecDepth 65536 in
set_option maxHeartbeats 40000000 in
theorem k_lea00 {l : Launch} {Z : State} {a0 : Array Value} (hw : ∀ d ∈ tables_1, d.before a0 Z = true) {x : Addr} {y : Addr} {nn : Addr} {f0 : Int64} {f1 : Int64} {p1 : Int32} (h : Heap) (hz : Z.heap.size ≤ h.size) (a : Addr) (o : Addr) (fa0 : Exa Z h a "com/example/interlace/interlace/engine/Floors") (fa1 : Fld Z h a "com/example/interlace/interlace/engine/Floors" "floors" "[J" (.ref x)) (fa2 : Fld Z h a "com/example/interlace/interlace/engine/Floors" "hasFloor" "[Z" (.ref y)) (fa3 : Arj Z h x [f0, f1]) (fa4 : Ari Z h y .boolean [(0 : Int32), p1]) (fa5 : Exa Z h o "com/example/interlace/interlace/pattern/Structure$Leaf") (fa6 : Fld Z h o "com/example/interlace/interlace/pattern/Structure$Leaf" "variable" "I" (.int (0 : Int32))) (fa7 : Sta Z h "com/example/interlace/interlace/engine/Floors" "NONE" "[J" (.ref nn)) (fa8 : Arj Z h nn []) (fa9 : Exa Z h nn "[J")    : Go l Z (⟨"com/example/interlace/interlace/engine/Floors", "least", "(Lcom/example/interlace/interlace/pattern/Structure;)[J"⟩ : MethodName) prog_34_method_5_code 6 (Option.some (Jvm.ClassFile.FieldType.array Jvm.ClassFile.FieldType.long)) ({ frames := 3, cells := 3, slots := 21, locals := 60 } : Room) (QR fun rz h' => rz = .ref nn ∧ Keep h h' []) 0 0 h 0 #[.val (.ref a), .val (.ref o), .unset, .unset, .unset, .unset] [] := by
  have kp0 : Keep h h [] := Keep.refl _ _
  refine Go.new 3 d15_0 (tw106 hw) (tw107 hw) (tw108 hw) (by decide) (by decide) rfl (fun a1 h2 q3 E4 A5 D6 => ?_)
  have ne7 : a ≠ a1 := fun e => absurd fa0.lt (by rw [e, q3]; exact Nat.lt_irrefl _)
  have ne8 : x ≠ a1 := fun e => absurd fa3.lt (by rw [e, q3]; exact Nat.lt_irrefl _)
  have ne9 : y ≠ a1 := fun e => absurd fa4.lt (by rw [e, q3]; exact Nat.lt_irrefl _)
  have ne10 : o ≠ a1 := fun e => absurd fa5.lt (by rw [e, q3]; exact Nat.lt_irrefl _)
  have ne11 : nn ≠ a1 := fun e => absurd fa8.lt (by rw [e, q3]; exact Nat.lt_irrefl _)
  have ge12 : Z.heap.size ≤ a1 := (Eq.symm q3) ▸ hz
  have fr13 : h.size ≤ a1 := by rw [q3]; exact kp0.1
  have f14 : Exa Z h2 a "com/example/interlace/interlace/engine/Floors" := fa0.ext E4
  have f15 : Fld Z h2 a "com/example/interlace/interlace/engine/Floors" "floors" "[J" (.ref x) := fa1.ext E4
  have f16 : Fld Z h2 a "com/example/interlace/interlace/engine/Floors" "hasFloor" "[Z" (.ref y) := fa2.ext E4
  have f17 : Arj Z h2 x [f0, f1] := fa3.ext E4
  have f18 : Ari Z h2 y .boolean [(0 : Int32), p1] := fa4.ext E4
  have f19 : Exa Z h2 o "com/example/interlace/interlace/pattern/Structure$Leaf" := fa5.ext E4
  have f20 : Fld Z h2 o "com/example/interlace/interlace/pattern/Structure$Leaf" "variable" "I" (.int (0 : Int32)) := fa6.ext E4
  have f21 : Sta Z h2 "com/example/interlace/interlace/engine/Floors" "NONE" "[J" (.ref nn) := fa7.ext E4
  have f22 : Arj Z h2 nn [] := fa8.ext E4
  have f23 : Exa Z h2 nn "[J" := fa9.ext E4
  have zs24 : Z.heap.size ≤ h2.size := Nat.le_trans hz E4.1
  have kp25 : Keep h h2 [] := kp0.ext E4
  have f26 : Fld Z h2 a1 "java/util/ArrayDeque" "elements" "[Ljava/lang/Object;" (.null) := D6 (Or.inl (tw122 hw)) (ty := (.array (.object "java/lang/Object"))) (by decide)
  have f27 : Fld Z h2 a1 "java/util/ArrayDeque" "head" "I" (.int (0 : Int32)) := D6 (Or.inl (tw144 hw)) (ty := .int) (by decide)
  have f28 : Fld Z h2 a1 "java/util/ArrayDeque" "tail" "I" (.int (0 : Int32)) := D6 (Or.inl (tw146 hw)) (ty := .int) (by decide)
  refine Go.dup 4 d15_3 rfl rfl ?_
  refine Go.callC [] [.ref a1] 7 d15_4 rfl (tw109 hw) (tw110 hw) (tw108 hw) (tw111 hw) pl16 (by decide) (lenOf pd16 rfl) rfl (fun m => ef_k_ad m a1) _ (k_ad hw h2 zs24 a1 A5 f26 f27 f28 ge12) 1 rfl (Nat.le_of_eq rfl) (by decide) (by decide) (by decide) (by decide) rfl ?_
  rintro h30 ⟨K31, f32, f33, f34⟩
  have f35 : Exa Z h30 a "com/example/interlace/interlace/engine/Floors" := f14.keep K31
  have f36 : Fld Z h30 a "com/example/interlace/interlace/engine/Floors" "floors" "[J" (.ref x) := f15.keep K31 (ninS ne7 nin0)
  have f37 : Fld Z h30 a "com/example/interlace/interlace/engine/Floors" "hasFloor" "[Z" (.ref y) := f16.keep K31 (ninS ne7 nin0)
  have f38 : Arj Z h30 x [f0, f1] := f17.keep K31 (ninS ne8 nin0)
  have f39 : Ari Z h30 y .boolean [(0 : Int32), p1] := f18.keep K31 (ninS ne9 nin0)
  have f40 : Exa Z h30 o "com/example/interlace/interlace/pattern/Structure$Leaf" := f19.keep K31
  have f41 : Fld Z h30 o "com/example/interlace/interlace/pattern/Structure$Leaf" "variable" "I" (.int (0 : Int32)) := f20.keep K31 (ninS ne10 nin0)
  have f42 : Sta Z h30 "com/example/interlace/interlace/engine/Floors" "NONE" "[J" (.ref nn) := own_staK f21 K31 (allS (own_nost A5) all0)
  have f43 : Arj Z h30 nn [] := f22.keep K31 (ninS ne11 nin0)
  have f44 : Exa Z h30 nn "[J" := f23.keep K31
  have zs45 : Z.heap.size ≤ h30.size := Nat.le_trans zs24 K31.1
  have kp46 : Keep h h30 [] := kp25.trans K31 (allS (Or.inr fr13) all0)
  refine Go.astore_n 8 #[.val (.ref a), .val (.ref o), .val (.ref a1), .unset, .unset, .unset] d15_7 rfl rfl rfl ?_
  refine Go.aload_n 9 d15_8 rfl rfl rfl ?_
  refine Go.aload_n 10 d15_9 rfl rfl rfl ?_
  refine Go.aload_n 11 d15_10 rfl rfl rfl ?_
  refine Go.callQRe [.ref o, .ref a1] [] 14 d15_11 (tw123 hw) (tw125 hw) (own_selp (tw22 hw) rfl (tw124 hw) (tw125 hw) (by decide)) (tw124 hw) (tw2 hw) (tw126 hw) f35 pl18 (by decide) (lenOf pd18 rfl) rfl (fun m => ef_k_ent00 m a o a1) _ _ (k_ent00 hw h30 zs45 a o a1 f35 f36 f37 f38 f39 f40 f41 f42 f43 f44) 0 rfl (Nat.le_of_eq rfl) (by decide) (by decide) (by decide) (by decide) rfl ?_
  rintro h48 K49
  have f50 : Exa Z h48 a "com/example/interlace/interlace/engine/Floors" := f35.keep K49
  have f51 : Fld Z h48 a "com/example/interlace/interlace/engine/Floors" "floors" "[J" (.ref x) := f36.keep K49 nin0
  have f52 : Fld Z h48 a "com/example/interlace/interlace/engine/Floors" "hasFloor" "[Z" (.ref y) := f37.keep K49 nin0
  have f53 : Arj Z h48 x [f0, f1] := f38.keep K49 nin0
  have f54 : Ari Z h48 y .boolean [(0 : Int32), p1] := f39.keep K49 nin0
  have f55 : Exa Z h48 o "com/example/interlace/interlace/pattern/Structure$Leaf" := f40.keep K49
  have f56 : Fld Z h48 o "com/example/interlace/interlace/pattern/Structure$Leaf" "variable" "I" (.int (0 : Int32)) := f41.keep K49 nin0
  have f57 : Sta Z h48 "com/example/interlace/interlace/engine/Floors" "NONE" "[J" (.ref nn) := own_staK f42 K49 all0
  have f58 : Arj Z h48 nn [] := f43.keep K49 nin0
  have f59 : Exa Z h48 nn "[J" := f44.keep K49
  have f60 : Exa Z h48 a1 "java/util/ArrayDeque" := f32.keep K49
  have f61 : Fld Z h48 a1 "java/util/ArrayDeque" "head" "I" (.int (0 : Int32)) := f33.keep K49 nin0
  have f62 : Fld Z h48 a1 "java/util/ArrayDeque" "tail" "I" (.int (0 : Int32)) := f34.keep K49 nin0
  have zs63 : Z.heap.size ≤ h48.size := Nat.le_trans zs45 K49.1
  have kp64 : Keep h h48 [] := kp46.trans K49 all0
  refine Go.astore_n 15 #[.val (.ref a), .val (.ref o), .val (.ref a1), .val (.ref nn), .unset, .unset] d15_14 rfl rfl rfl ?_
  refine Go.aload_n 16 d15_15 rfl rfl rfl ?_
  refine Go.callFIp [] [] 21 d15_16 (tw134 hw) (tw135 hw) (tw136 hw) (by decide) (by decide) (tw137 hw) (tw138 hw) (tw139 hw) (tw140 hw) (tw141 hw) (tw108 hw) (tw142 hw) f60 pl20 (by decide) (lenOf pd20 rfl) rfl (fun m => ef_k_emp m a1) _ (k_emp hw h48 zs63 a1 f61 f62) 0 rfl (Nat.le_of_eq rfl) (by decide) (by decide) (by decide) (by decide) rfl ?_
  refine Go.if_ne 84 24 d15_21 (by decide) (by decide) rfl (fun _ => ?_) (fun c => absurd c (by decide))
  refine Go.aload_n 85 d15_84 rfl rfl rfl ?_
  refine Go.areturn d15_85 rfl rfl rfl (by decide) (by decide) ?_
  exact ⟨rfl, kp64⟩

theorem ef_k_lea01 (m : MethodId) (x0 : Addr) (x1 : Addr) : entryFrame m #[(.ref x0), (.ref x1)] 6 = mkF m 0 #[.val (.ref x0), .val (.ref x1), .unset, .unset, .unset, .unset] [] := by first | (simp [entryFrame, mkF, argsToLocals, Value.category]; done) | rfl

set_option maxRecDepth 65536 in
set_option maxHeartbeats 40000000 in
theorem k_lea01 {l : Launch} {Z : State} {a0 : Array Value} (hw : ∀ d ∈ tables_1, d.before a0 Z = true) {x : Addr} {y : Addr} {nn : Addr} {f0 : Int64} {f1 : Int64} {p1 : Int32} (h : Heap) (hz : Z.heap.size ≤ h.size) (a : Addr) (o : Addr) (fa0 : Exa Z h a "com/example/interlace/interlace/engine/Floors") (fa1 : Fld Z h a "com/example/interlace/interlace/engine/Floors" "floors" "[J" (.ref x)) (fa2 : Fld Z h a "com/example/interlace/interlace/engine/Floors" "hasFloor" "[Z" (.ref y)) (fa3 : Arj Z h x [f0, f1]) (fa4 : Ari Z h y .boolean [(1 : Int32), p1]) (fa5 : Exa Z h o "com/example/interlace/interlace/pattern/Structure$Leaf") (fa6 : Fld Z h o "com/example/interlace/interlace/pattern/Structure$Leaf" "variable" "I" (.int (0 : Int32))) (fa7 : Sta Z h "com/example/interlace/interlace/engine/Floors" "NONE" "[J" (.ref nn)) (fa8 : Arj Z h nn []) (fa9 : Exa Z h nn "[J")    : Go l Z (⟨"com/example/interlace/interlace/engine/Floors", "least", "(Lcom/example/interlace/interlace/pattern/Structure;)[J"⟩ : MethodName) prog_34_method_5_code 6 (Option.some (Jvm.ClassFile.FieldType.array Jvm.ClassFile.FieldType.long)) ({ frames := 3, cells := 3, slots := 21, locals := 60 } : Room) (QR fun rz h' => ∃ r : Addr, rz = .ref r ∧ h.size ≤ r ∧ Keep h h' [] ∧ Arj Z h' r [f0] ∧ Exa Z h' r "[J") 0 0 h 0 #[.val (.ref a), .val (.ref o), .unset, .unset, .unset, .unset] [] := by
  have kp0 : Keep h h [] := Keep.refl _ _
  refine Go.new 3 d15_0 (tw106 hw) (tw107 hw) (tw108 hw) (by decide) (by decide) rfl (fun a1 h2 q3 E4 A5 D6 => ?_)
  have ne7 : a ≠ a1 := fun e => absurd fa0.lt (by rw [e, q3]; exact Nat.lt_irrefl _)
  have ne8 : x ≠ a1 := fun e => absurd fa3.lt (by rw [e, q3]; exact Nat.lt_irrefl _)
  have ne9 : y ≠ a1 := fun e => absurd fa4.lt (by rw [e, q3]; exact Nat.lt_irrefl _)
  have ne10 : o ≠ a1 := fun e => absurd fa5.lt (by rw [e, q3]; exact Nat.lt_irrefl _)
  have ne11 : nn ≠ a1 := fun e => absurd fa8.lt (by rw [e, q3]; exact Nat.lt_irrefl _)
  have ge12 : Z.heap.size ≤ a1 := (Eq.symm q3) ▸ hz
  have fr13 : h.size ≤ a1 := by rw [q3]; exact kp0.1
  have f14 : Exa Z h2 a "com/example/interlace/interlace/engine/Floors" := fa0.ext E4
  have f15 : Fld Z h2 a "com/example/interlace/interlace/engine/Floors" "floors" "[J" (.ref x) := fa1.ext E4
  have f16 : Fld Z h2 a "com/example/interlace/interlace/engine/Floors" "hasFloor" "[Z" (.ref y) := fa2.ext E4
  have f17 : Arj Z h2 x [f0, f1] := fa3.ext E4
  have f18 : Ari Z h2 y .boolean [(1 : Int32), p1] := fa4.ext E4
  have f19 : Exa Z h2 o "com/example/interlace/interlace/pattern/Structure$Leaf" := fa5.ext E4
  have f20 : Fld Z h2 o "com/example/interlace/interlace/pattern/Structure$Leaf" "variable" "I" (.int (0 : Int32)) := fa6.ext E4
  have f21 : Sta Z h2 "com/example/interlace/interlace/engine/Floors" "NONE" "[J" (.ref nn) := fa7.ext E4
  have f22 : Arj Z h2 nn [] := fa8.ext E4
  have f23 : Exa Z h2 nn "[J" := fa9.ext E4
  have zs24 : Z.heap.size ≤ h2.size := Nat.le_trans hz E4.1
  have kp25 : Keep h h2 [] := kp0.ext E4
  have f26 : Fld Z h2 a1 "java/util/ArrayDeque" "elements" "[Ljava/lang/Object;" (.null) := D6 (Or.inl (tw122 hw)) (ty := (.array (.object "java/lang/Object"))) (by decide)
  have f27 : Fld Z h2 a1 "java/util/ArrayDeque" "head" "I" (.int (0 : Int32)) := D6 (Or.inl (tw144 hw)) (ty := .int) (by decide)
  have f28 : Fld Z h2 a1 "java/util/ArrayDeque" "tail" "I" (.int (0 : Int32)) := D6 (Or.inl (tw146 hw)) (ty := .int) (by decide)
  refine Go.dup 4 d15_3 rfl rfl ?_
  refine Go.callC [] [.ref a1] 7 d15_4 rfl (tw109 hw) (tw110 hw) (tw108 hw) (tw111 hw) pl16 (by decide) (lenOf pd16 rfl) rfl (fun m => ef_k_ad m a1) _ (k_ad hw h2 zs24 a1 A5 f26 f27 f28 ge12) 1 rfl (Nat.le_of_eq rfl) (by decide) (by decide) (by decide) (by decide) rfl ?_
  rintro h30 ⟨K31, f32, f33, f34⟩
  have f35 : Exa Z h30 a "com/example/interlace/interlace/engine/Floors" := f14.keep K31
  have f36 : Fld Z h30 a "com/example/interlace/interlace/engine/Floors" "floors" "[J" (.ref x) := f15.keep K31 (ninS ne7 nin0)
  have f37 : Fld Z h30 a "com/example/interlace/interlace/engine/Floors" "hasFloor" "[Z" (.ref y) := f16.keep K31 (ninS ne7 nin0)
  have f38 : Arj Z h30 x [f0, f1] := f17.keep K31 (ninS ne8 nin0)
  have f39 : Ari Z h30 y .boolean [(1 : Int32), p1] := f18.keep K31 (ninS ne9 nin0)
  have f40 : Exa Z h30 o "com/example/interlace/interlace/pattern/Structure$Leaf" := f19.keep K31
  have f41 : Fld Z h30 o "com/example/interlace/interlace/pattern/Structure$Leaf" "variable" "I" (.int (0 : Int32)) := f20.keep K31 (ninS ne10 nin0)
  have f42 : Sta Z h30 "com/example/interlace/interlace/engine/Floors" "NONE" "[J" (.ref nn) := own_staK f21 K31 (allS (own_nost A5) all0)
  have f43 : Arj Z h30 nn [] := f22.keep K31 (ninS ne11 nin0)
  have f44 : Exa Z h30 nn "[J" := f23.keep K31
  have zs45 : Z.heap.size ≤ h30.size := Nat.le_trans zs24 K31.1
  have kp46 : Keep h h30 [] := kp25.trans K31 (allS (Or.inr fr13) all0)
  refine Go.astore_n 8 #[.val (.ref a), .val (.ref o), .val (.ref a1), .unset, .unset, .unset] d15_7 rfl rfl rfl ?_
  refine Go.aload_n 9 d15_8 rfl rfl rfl ?_
  refine Go.aload_n 10 d15_9 rfl rfl rfl ?_
  refine Go.aload_n 11 d15_10 rfl rfl rfl ?_
  refine Go.callQR [.ref o, .ref a1] [] 14 d15_11 (tw123 hw) (tw125 hw) (own_selp (tw22 hw) rfl (tw124 hw) (tw125 hw) (by decide)) (tw124 hw) (tw2 hw) (tw126 hw) f35 pl18 (by decide) (lenOf pd18 rfl) rfl (fun m => ef_k_ent01 m a o a1) _ (k_ent01 hw h30 zs45 a o a1 f35 f36 f37 f38 f39 f40 f41 f42 f43 f44) 0 rfl (Nat.le_of_eq rfl) (by decide) (by decide) (by decide) (by decide) rfl ?_
  rintro z47 h48 ⟨a50, rfl, g51, K49, f52, f53⟩
  have ne54 : a ≠ a50 := Nat.ne_of_lt (Nat.lt_of_lt_of_le f35.lt g51)
  have ne55 : x ≠ a50 := Nat.ne_of_lt (Nat.lt_of_lt_of_le f38.lt g51)
  have ne56 : y ≠ a50 := Nat.ne_of_lt (Nat.lt_of_lt_of_le f39.lt g51)
  have ne57 : o ≠ a50 := Nat.ne_of_lt (Nat.lt_of_lt_of_le f40.lt g51)
  have ne58 : nn ≠ a50 := Nat.ne_of_lt (Nat.lt_of_lt_of_le f43.lt g51)
  have ne59 : a1 ≠ a50 := Nat.ne_of_lt (Nat.lt_of_lt_of_le f32.lt g51)
  have ge60 : Z.heap.size ≤ a50 := Nat.le_trans zs45 g51
  have fr61 : h.size ≤ a50 := Nat.le_trans kp46.1 g51
  have f62 : Exa Z h48 a "com/example/interlace/interlace/engine/Floors" := f35.keep K49
  have f63 : Fld Z h48 a "com/example/interlace/interlace/engine/Floors" "floors" "[J" (.ref x) := f36.keep K49 nin0
  have f64 : Fld Z h48 a "com/example/interlace/interlace/engine/Floors" "hasFloor" "[Z" (.ref y) := f37.keep K49 nin0
  have f65 : Arj Z h48 x [f0, f1] := f38.keep K49 nin0
  have f66 : Ari Z h48 y .boolean [(1 : Int32), p1] := f39.keep K49 nin0
  have f67 : Exa Z h48 o "com/example/interlace/interlace/pattern/Structure$Leaf" := f40.keep K49
  have f68 : Fld Z h48 o "com/example/interlace/interlace/pattern/Structure$Leaf" "variable" "I" (.int (0 : Int32)) := f41.keep K49 nin0
  have f69 : Sta Z h48 "com/example/interlace/interlace/engine/Floors" "NONE" "[J" (.ref nn) := own_staK f42 K49 all0
  have f70 : Arj Z h48 nn [] := f43.keep K49 nin0
  have f71 : Exa Z h48 nn "[J" := f44.keep K49
  have f72 : Exa Z h48 a1 "java/util/ArrayDeque" := f32.keep K49
  have f73 : Fld Z h48 a1 "java/util/ArrayDeque" "head" "I" (.int (0 : Int32)) := f33.keep K49 nin0
  have f74 : Fld Z h48 a1 "java/util/ArrayDeque" "tail" "I" (.int (0 : Int32)) := f34.keep K49 nin0
  have zs75 : Z.heap.size ≤ h48.size := Nat.le_trans zs45 K49.1
  have kp76 : Keep h h48 [] := kp46.trans K49 all0
  refine Go.astore_n 15 #[.val (.ref a), .val (.ref o), .val (.ref a1), .val (.ref a50), .unset, .unset] d15_14 rfl rfl rfl ?_
  refine Go.aload_n 16 d15_15 rfl rfl rfl ?_
  refine Go.callFIp [] [] 21 d15_16 (tw134 hw) (tw135 hw) (tw136 hw) (by decide) (by decide) (tw137 hw) (tw138 hw) (tw139 hw) (tw140 hw) (tw141 hw) (tw108 hw) (tw142 hw) f72 pl20 (by decide) (lenOf pd20 rfl) rfl (fun m => ef_k_emp m a1) _ (k_emp hw h48 zs75 a1 f73 f74) 0 rfl (Nat.le_of_eq rfl) (by decide) (by decide) (by decide) (by decide) rfl ?_
  refine Go.if_ne 84 24 d15_21 (by decide) (by decide) rfl (fun _ => ?_) (fun c => absurd c (by decide))
  refine Go.aload_n 85 d15_84 rfl rfl rfl ?_
  refine Go.areturn d15_85 rfl rfl rfl (by decide) (by decide) ?_
  exact ⟨a50, rfl, fr61, kp76, f52, f53⟩

theorem ef_k_lea10 (m : MethodId) (x0 : Addr) (x1 : Addr) : entryFrame m #[(.ref x0), (.ref x1)] 6 = mkF m 0 #[.val (.ref x0), .val (.ref x1), .unset, .unset, .unset, .unset] [] := by first | (simp [entryFrame, mkF, argsToLocals, Value.category]; done) | rfl

set_option maxRecDepth 65536 in
set_option maxHeartbeats 40000000 in
theorem k_lea10 {l : Launch} {Z : State} {a0 : Array Value} (hw : ∀ d ∈ tables_1, d.before a0 Z = true) {x : Addr} {y : Addr} {nn : Addr} {f0 : Int64} {f1 : Int64} {p0 : Int32} (h : Heap) (hz : Z.heap.size ≤ h.size) (a : Addr) (o : Addr) (fa0 : Exa Z h a "com/example/interlace/interlace/engine/Floors") (fa1 : Fld Z h a "com/example/interlace/interlace/engine/Floors" "floors" "[J" (.ref x)) (fa2 : Fld Z h a "com/example/interlace/interlace/engine/Floors" "hasFloor" "[Z" (.ref y)) (fa3 : Arj Z h x [f0, f1]) (fa4 : Ari Z h y .boolean [p0, (0 : Int32)]) (fa5 : Exa Z h o "com/example/interlace/interlace/pattern/Structure$Leaf") (fa6 : Fld Z h o "com/example/interlace/interlace/pattern/Structure$Leaf" "variable" "I" (.int (1 : Int32))) (fa7 : Sta Z h "com/example/interlace/interlace/engine/Floors" "NONE" "[J" (.ref nn)) (fa8 : Arj Z h nn []) (fa9 : Exa Z h nn "[J")    : Go l Z (⟨"com/example/interlace/interlace/engine/Floors", "least", "(Lcom/example/interlace/interlace/pattern/Structure;)[J"⟩ : MethodName) prog_34_method_5_code 6 (Option.some (Jvm.ClassFile.FieldType.array Jvm.ClassFile.FieldType.long)) ({ frames := 3, cells := 3, slots := 21, locals := 60 } : Room) (QR fun rz h' => rz = .ref nn ∧ Keep h h' []) 0 0 h 0 #[.val (.ref a), .val (.ref o), .unset, .unset, .unset, .unset] [] := by
  have kp0 : Keep h h [] := Keep.refl _ _
  refine Go.new 3 d15_0 (tw106 hw) (tw107 hw) (tw108 hw) (by decide) (by decide) rfl (fun a1 h2 q3 E4 A5 D6 => ?_)
  have ne7 : a ≠ a1 := fun e => absurd fa0.lt (by rw [e, q3]; exact Nat.lt_irrefl _)
  have ne8 : x ≠ a1 := fun e => absurd fa3.lt (by rw [e, q3]; exact Nat.lt_irrefl _)
  have ne9 : y ≠ a1 := fun e => absurd fa4.lt (by rw [e, q3]; exact Nat.lt_irrefl _)
  have ne10 : o ≠ a1 := fun e => absurd fa5.lt (by rw [e, q3]; exact Nat.lt_irrefl _)
  have ne11 : nn ≠ a1 := fun e => absurd fa8.lt (by rw [e, q3]; exact Nat.lt_irrefl _)
  have ge12 : Z.heap.size ≤ a1 := (Eq.symm q3) ▸ hz
  have fr13 : h.size ≤ a1 := by rw [q3]; exact kp0.1
  have f14 : Exa Z h2 a "com/example/interlace/interlace/engine/Floors" := fa0.ext E4
  have f15 : Fld Z h2 a "com/example/interlace/interlace/engine/Floors" "floors" "[J" (.ref x) := fa1.ext E4
  have f16 : Fld Z h2 a "com/example/interlace/interlace/engine/Floors" "hasFloor" "[Z" (.ref y) := fa2.ext E4
  have f17 : Arj Z h2 x [f0, f1] := fa3.ext E4
  have f18 : Ari Z h2 y .boolean [p0, (0 : Int32)] := fa4.ext E4
  have f19 : Exa Z h2 o "com/example/interlace/interlace/pattern/Structure$Leaf" := fa5.ext E4
  have f20 : Fld Z h2 o "com/example/interlace/interlace/pattern/Structure$Leaf" "variable" "I" (.int (1 : Int32)) := fa6.ext E4
  have f21 : Sta Z h2 "com/example/interlace/interlace/engine/Floors" "NONE" "[J" (.ref nn) := fa7.ext E4
  have f22 : Arj Z h2 nn [] := fa8.ext E4
  have f23 : Exa Z h2 nn "[J" := fa9.ext E4
  have zs24 : Z.heap.size ≤ h2.size := Nat.le_trans hz E4.1
  have kp25 : Keep h h2 [] := kp0.ext E4
  have f26 : Fld Z h2 a1 "java/util/ArrayDeque" "elements" "[Ljava/lang/Object;" (.null) := D6 (Or.inl (tw122 hw)) (ty := (.array (.object "java/lang/Object"))) (by decide)
  have f27 : Fld Z h2 a1 "java/util/ArrayDeque" "head" "I" (.int (0 : Int32)) := D6 (Or.inl (tw144 hw)) (ty := .int) (by decide)
  have f28 : Fld Z h2 a1 "java/util/ArrayDeque" "tail" "I" (.int (0 : Int32)) := D6 (Or.inl (tw146 hw)) (ty := .int) (by decide)
  refine Go.dup 4 d15_3 rfl rfl ?_
  refine Go.callC [] [.ref a1] 7 d15_4 rfl (tw109 hw) (tw110 hw) (tw108 hw) (tw111 hw) pl16 (by decide) (lenOf pd16 rfl) rfl (fun m => ef_k_ad m a1) _ (k_ad hw h2 zs24 a1 A5 f26 f27 f28 ge12) 1 rfl (Nat.le_of_eq rfl) (by decide) (by decide) (by decide) (by decide) rfl ?_
  rintro h30 ⟨K31, f32, f33, f34⟩
  have f35 : Exa Z h30 a "com/example/interlace/interlace/engine/Floors" := f14.keep K31
  have f36 : Fld Z h30 a "com/example/interlace/interlace/engine/Floors" "floors" "[J" (.ref x) := f15.keep K31 (ninS ne7 nin0)
  have f37 : Fld Z h30 a "com/example/interlace/interlace/engine/Floors" "hasFloor" "[Z" (.ref y) := f16.keep K31 (ninS ne7 nin0)
  have f38 : Arj Z h30 x [f0, f1] := f17.keep K31 (ninS ne8 nin0)
  have f39 : Ari Z h30 y .boolean [p0, (0 : Int32)] := f18.keep K31 (ninS ne9 nin0)
  have f40 : Exa Z h30 o "com/example/interlace/interlace/pattern/Structure$Leaf" := f19.keep K31
  have f41 : Fld Z h30 o "com/example/interlace/interlace/pattern/Structure$Leaf" "variable" "I" (.int (1 : Int32)) := f20.keep K31 (ninS ne10 nin0)
  have f42 : Sta Z h30 "com/example/interlace/interlace/engine/Floors" "NONE" "[J" (.ref nn) := own_staK f21 K31 (allS (own_nost A5) all0)
  have f43 : Arj Z h30 nn [] := f22.keep K31 (ninS ne11 nin0)
  have f44 : Exa Z h30 nn "[J" := f23.keep K31
  have zs45 : Z.heap.size ≤ h30.size := Nat.le_trans zs24 K31.1
  have kp46 : Keep h h30 [] := kp25.trans K31 (allS (Or.inr fr13) all0)
  refine Go.astore_n 8 #[.val (.ref a), .val (.ref o), .val (.ref a1), .unset, .unset, .unset] d15_7 rfl rfl rfl ?_
  refine Go.aload_n 9 d15_8 rfl rfl rfl ?_
  refine Go.aload_n 10 d15_9 rfl rfl rfl ?_
  refine Go.aload_n 11 d15_10 rfl rfl rfl ?_
  refine Go.callQRe [.ref o, .ref a1] [] 14 d15_11 (tw123 hw) (tw125 hw) (own_selp (tw22 hw) rfl (tw124 hw) (tw125 hw) (by decide)) (tw124 hw) (tw2 hw) (tw126 hw) f35 pl18 (by decide) (lenOf pd18 rfl) rfl (fun m => ef_k_ent10 m a o a1) _ _ (k_ent10 hw h30 zs45 a o a1 f35 f36 f37 f38 f39 f40 f41 f42 f43 f44) 0 rfl (Nat.le_of_eq rfl) (by decide) (by decide) (by decide) (by decide) rfl ?_
  rintro h48 K49
  have f50 : Exa Z h48 a "com/example/interlace/interlace/engine/Floors" := f35.keep K49
  have f51 : Fld Z h48 a "com/example/interlace/interlace/engine/Floors" "floors" "[J" (.ref x) := f36.keep K49 nin0
  have f52 : Fld Z h48 a "com/example/interlace/interlace/engine/Floors" "hasFloor" "[Z" (.ref y) := f37.keep K49 nin0
  have f53 : Arj Z h48 x [f0, f1] := f38.keep K49 nin0
  have f54 : Ari Z h48 y .boolean [p0, (0 : Int32)] := f39.keep K49 nin0
  have f55 : Exa Z h48 o "com/example/interlace/interlace/pattern/Structure$Leaf" := f40.keep K49
  have f56 : Fld Z h48 o "com/example/interlace/interlace/pattern/Structure$Leaf" "variable" "I" (.int (1 : Int32)) := f41.keep K49 nin0
  have f57 : Sta Z h48 "com/example/interlace/interlace/engine/Floors" "NONE" "[J" (.ref nn) := own_staK f42 K49 all0
  have f58 : Arj Z h48 nn [] := f43.keep K49 nin0
  have f59 : Exa Z h48 nn "[J" := f44.keep K49
  have f60 : Exa Z h48 a1 "java/util/ArrayDeque" := f32.keep K49
  have f61 : Fld Z h48 a1 "java/util/ArrayDeque" "head" "I" (.int (0 : Int32)) := f33.keep K49 nin0
  have f62 : Fld Z h48 a1 "java/util/ArrayDeque" "tail" "I" (.int (0 : Int32)) := f34.keep K49 nin0
  have zs63 : Z.heap.size ≤ h48.size := Nat.le_trans zs45 K49.1
  have kp64 : Keep h h48 [] := kp46.trans K49 all0
  refine Go.astore_n 15 #[.val (.ref a), .val (.ref o), .val (.ref a1), .val (.ref nn), .unset, .unset] d15_14 rfl rfl rfl ?_
  refine Go.aload_n 16 d15_15 rfl rfl rfl ?_
  refine Go.callFIp [] [] 21 d15_16 (tw134 hw) (tw135 hw) (tw136 hw) (by decide) (by decide) (tw137 hw) (tw138 hw) (tw139 hw) (tw140 hw) (tw141 hw) (tw108 hw) (tw142 hw) f60 pl20 (by decide) (lenOf pd20 rfl) rfl (fun m => ef_k_emp m a1) _ (k_emp hw h48 zs63 a1 f61 f62) 0 rfl (Nat.le_of_eq rfl) (by decide) (by decide) (by decide) (by decide) rfl ?_
  refine Go.if_ne 84 24 d15_21 (by decide) (by decide) rfl (fun _ => ?_) (fun c => absurd c (by decide))
  refine Go.aload_n 85 d15_84 rfl rfl rfl ?_
  refine Go.areturn d15_85 rfl rfl rfl (by decide) (by decide) ?_
  exact ⟨rfl, kp64⟩

theorem ef_k_lea11 (m : MethodId) (x0 : Addr) (x1 : Addr) : entryFrame m #[(.ref x0), (.ref x1)] 6 = mkF m 0 #[.val (.ref x0), .val (.ref x1), .unset, .unset, .unset, .unset] [] := by first | (simp [entryFrame, mkF, argsToLocals, Value.category]; done) | rfl

set_option maxRecDepth 65536 in
set_option maxHeartbeats 40000000 in
theorem k_lea11 {l : Launch} {Z : State} {a0 : Array Value} (hw : ∀ d ∈ tables_1, d.before a0 Z = true) {x : Addr} {y : Addr} {nn : Addr} {f0 : Int64} {f1 : Int64} {p0 : Int32} (h : Heap) (hz : Z.heap.size ≤ h.size) (a : Addr) (o : Addr) (fa0 : Exa Z h a "com/example/interlace/interlace/engine/Floors") (fa1 : Fld Z h a "com/example/interlace/interlace/engine/Floors" "floors" "[J" (.ref x)) (fa2 : Fld Z h a "com/example/interlace/interlace/engine/Floors" "hasFloor" "[Z" (.ref y)) (fa3 : Arj Z h x [f0, f1]) (fa4 : Ari Z h y .boolean [p0, (1 : Int32)]) (fa5 : Exa Z h o "com/example/interlace/interlace/pattern/Structure$Leaf") (fa6 : Fld Z h o "com/example/interlace/interlace/pattern/Structure$Leaf" "variable" "I" (.int (1 : Int32))) (fa7 : Sta Z h "com/example/interlace/interlace/engine/Floors" "NONE" "[J" (.ref nn)) (fa8 : Arj Z h nn []) (fa9 : Exa Z h nn "[J")    : Go l Z (⟨"com/example/interlace/interlace/engine/Floors", "least", "(Lcom/example/interlace/interlace/pattern/Structure;)[J"⟩ : MethodName) prog_34_method_5_code 6 (Option.some (Jvm.ClassFile.FieldType.array Jvm.ClassFile.FieldType.long)) ({ frames := 3, cells := 3, slots := 21, locals := 60 } : Room) (QR fun rz h' => ∃ r : Addr, rz = .ref r ∧ h.size ≤ r ∧ Keep h h' [] ∧ Arj Z h' r [f1] ∧ Exa Z h' r "[J") 0 0 h 0 #[.val (.ref a), .val (.ref o), .unset, .unset, .unset, .unset] [] := by
  have kp0 : Keep h h [] := Keep.refl _ _
  refine Go.new 3 d15_0 (tw106 hw) (tw107 hw) (tw108 hw) (by decide) (by decide) rfl (fun a1 h2 q3 E4 A5 D6 => ?_)
  have ne7 : a ≠ a1 := fun e => absurd fa0.lt (by rw [e, q3]; exact Nat.lt_irrefl _)
  have ne8 : x ≠ a1 := fun e => absurd fa3.lt (by rw [e, q3]; exact Nat.lt_irrefl _)
  have ne9 : y ≠ a1 := fun e => absurd fa4.lt (by rw [e, q3]; exact Nat.lt_irrefl _)
  have ne10 : o ≠ a1 := fun e => absurd fa5.lt (by rw [e, q3]; exact Nat.lt_irrefl _)
  have ne11 : nn ≠ a1 := fun e => absurd fa8.lt (by rw [e, q3]; exact Nat.lt_irrefl _)
  have ge12 : Z.heap.size ≤ a1 := (Eq.symm q3) ▸ hz
  have fr13 : h.size ≤ a1 := by rw [q3]; exact kp0.1
  have f14 : Exa Z h2 a "com/example/interlace/interlace/engine/Floors" := fa0.ext E4
  have f15 : Fld Z h2 a "com/example/interlace/interlace/engine/Floors" "floors" "[J" (.ref x) := fa1.ext E4
  have f16 : Fld Z h2 a "com/example/interlace/interlace/engine/Floors" "hasFloor" "[Z" (.ref y) := fa2.ext E4
  have f17 : Arj Z h2 x [f0, f1] := fa3.ext E4
  have f18 : Ari Z h2 y .boolean [p0, (1 : Int32)] := fa4.ext E4
  have f19 : Exa Z h2 o "com/example/interlace/interlace/pattern/Structure$Leaf" := fa5.ext E4
  have f20 : Fld Z h2 o "com/example/interlace/interlace/pattern/Structure$Leaf" "variable" "I" (.int (1 : Int32)) := fa6.ext E4
  have f21 : Sta Z h2 "com/example/interlace/interlace/engine/Floors" "NONE" "[J" (.ref nn) := fa7.ext E4
  have f22 : Arj Z h2 nn [] := fa8.ext E4
  have f23 : Exa Z h2 nn "[J" := fa9.ext E4
  have zs24 : Z.heap.size ≤ h2.size := Nat.le_trans hz E4.1
  have kp25 : Keep h h2 [] := kp0.ext E4
  have f26 : Fld Z h2 a1 "java/util/ArrayDeque" "elements" "[Ljava/lang/Object;" (.null) := D6 (Or.inl (tw122 hw)) (ty := (.array (.object "java/lang/Object"))) (by decide)
  have f27 : Fld Z h2 a1 "java/util/ArrayDeque" "head" "I" (.int (0 : Int32)) := D6 (Or.inl (tw144 hw)) (ty := .int) (by decide)
  have f28 : Fld Z h2 a1 "java/util/ArrayDeque" "tail" "I" (.int (0 : Int32)) := D6 (Or.inl (tw146 hw)) (ty := .int) (by decide)
  refine Go.dup 4 d15_3 rfl rfl ?_
  refine Go.callC [] [.ref a1] 7 d15_4 rfl (tw109 hw) (tw110 hw) (tw108 hw) (tw111 hw) pl16 (by decide) (lenOf pd16 rfl) rfl (fun m => ef_k_ad m a1) _ (k_ad hw h2 zs24 a1 A5 f26 f27 f28 ge12) 1 rfl (Nat.le_of_eq rfl) (by decide) (by decide) (by decide) (by decide) rfl ?_
  rintro h30 ⟨K31, f32, f33, f34⟩
  have f35 : Exa Z h30 a "com/example/interlace/interlace/engine/Floors" := f14.keep K31
  have f36 : Fld Z h30 a "com/example/interlace/interlace/engine/Floors" "floors" "[J" (.ref x) := f15.keep K31 (ninS ne7 nin0)
  have f37 : Fld Z h30 a "com/example/interlace/interlace/engine/Floors" "hasFloor" "[Z" (.ref y) := f16.keep K31 (ninS ne7 nin0)
  have f38 : Arj Z h30 x [f0, f1] := f17.keep K31 (ninS ne8 nin0)
  have f39 : Ari Z h30 y .boolean [p0, (1 : Int32)] := f18.keep K31 (ninS ne9 nin0)
  have f40 : Exa Z h30 o "com/example/interlace/interlace/pattern/Structure$Leaf" := f19.keep K31
  have f41 : Fld Z h30 o "com/example/interlace/interlace/pattern/Structure$Leaf" "variable" "I" (.int (1 : Int32)) := f20.keep K31 (ninS ne10 nin0)
  have f42 : Sta Z h30 "com/example/interlace/interlace/engine/Floors" "NONE" "[J" (.ref nn) := own_staK f21 K31 (allS (own_nost A5) all0)
  have f43 : Arj Z h30 nn [] := f22.keep K31 (ninS ne11 nin0)
  have f44 : Exa Z h30 nn "[J" := f23.keep K31
  have zs45 : Z.heap.size ≤ h30.size := Nat.le_trans zs24 K31.1
  have kp46 : Keep h h30 [] := kp25.trans K31 (allS (Or.inr fr13) all0)
  refine Go.astore_n 8 #[.val (.ref a), .val (.ref o), .val (.ref a1), .unset, .unset, .unset] d15_7 rfl rfl rfl ?_
  refine Go.aload_n 9 d15_8 rfl rfl rfl ?_
  refine Go.aload_n 10 d15_9 rfl rfl rfl ?_
  refine Go.aload_n 11 d15_10 rfl rfl rfl ?_
  refine Go.callQR [.ref o, .ref a1] [] 14 d15_11 (tw123 hw) (tw125 hw) (own_selp (tw22 hw) rfl (tw124 hw) (tw125 hw) (by decide)) (tw124 hw) (tw2 hw) (tw126 hw) f35 pl18 (by decide) (lenOf pd18 rfl) rfl (fun m => ef_k_ent11 m a o a1) _ (k_ent11 hw h30 zs45 a o a1 f35 f36 f37 f38 f39 f40 f41 f42 f43 f44) 0 rfl (Nat.le_of_eq rfl) (by decide) (by decide) (by decide) (by decide) rfl ?_
  rintro z47 h48 ⟨a50, rfl, g51, K49, f52, f53⟩
  have ne54 : a ≠ a50 := Nat.ne_of_lt (Nat.lt_of_lt_of_le f35.lt g51)
  have ne55 : x ≠ a50 := Nat.ne_of_lt (Nat.lt_of_lt_of_le f38.lt g51)
  have ne56 : y ≠ a50 := Nat.ne_of_lt (Nat.lt_of_lt_of_le f39.lt g51)
  have ne57 : o ≠ a50 := Nat.ne_of_lt (Nat.lt_of_lt_of_le f40.lt g51)
  have ne58 : nn ≠ a50 := Nat.ne_of_lt (Nat.lt_of_lt_of_le f43.lt g51)
  have ne59 : a1 ≠ a50 := Nat.ne_of_lt (Nat.lt_of_lt_of_le f32.lt g51)
  have ge60 : Z.heap.size ≤ a50 := Nat.le_trans zs45 g51
  have fr61 : h.size ≤ a50 := Nat.le_trans kp46.1 g51
  have f62 : Exa Z h48 a "com/example/interlace/interlace/engine/Floors" := f35.keep K49
  have f63 : Fld Z h48 a "com/example/interlace/interlace/engine/Floors" "floors" "[J" (.ref x) := f36.keep K49 nin0
  have f64 : Fld Z h48 a "com/example/interlace/interlace/engine/Floors" "hasFloor" "[Z" (.ref y) := f37.keep K49 nin0
  have f65 : Arj Z h48 x [f0, f1] := f38.keep K49 nin0
  have f66 : Ari Z h48 y .boolean [p0, (1 : Int32)] := f39.keep K49 nin0
  have f67 : Exa Z h48 o "com/example/interlace/interlace/pattern/Structure$Leaf" := f40.keep K49
  have f68 : Fld Z h48 o "com/example/interlace/interlace/pattern/Structure$Leaf" "variable" "I" (.int (1 : Int32)) := f41.keep K49 nin0
  have f69 : Sta Z h48 "com/example/interlace/interlace/engine/Floors" "NONE" "[J" (.ref nn) := own_staK f42 K49 all0
  have f70 : Arj Z h48 nn [] := f43.keep K49 nin0
  have f71 : Exa Z h48 nn "[J" := f44.keep K49
  have f72 : Exa Z h48 a1 "java/util/ArrayDeque" := f32.keep K49
  have f73 : Fld Z h48 a1 "java/util/ArrayDeque" "head" "I" (.int (0 : Int32)) := f33.keep K49 nin0
  have f74 : Fld Z h48 a1 "java/util/ArrayDeque" "tail" "I" (.int (0 : Int32)) := f34.keep K49 nin0
  have zs75 : Z.heap.size ≤ h48.size := Nat.le_trans zs45 K49.1
  have kp76 : Keep h h48 [] := kp46.trans K49 all0
  refine Go.astore_n 15 #[.val (.ref a), .val (.ref o), .val (.ref a1), .val (.ref a50), .unset, .unset] d15_14 rfl rfl rfl ?_
  refine Go.aload_n 16 d15_15 rfl rfl rfl ?_
  refine Go.callFIp [] [] 21 d15_16 (tw134 hw) (tw135 hw) (tw136 hw) (by decide) (by decide) (tw137 hw) (tw138 hw) (tw139 hw) (tw140 hw) (tw141 hw) (tw108 hw) (tw142 hw) f72 pl20 (by decide) (lenOf pd20 rfl) rfl (fun m => ef_k_emp m a1) _ (k_emp hw h48 zs75 a1 f73 f74) 0 rfl (Nat.le_of_eq rfl) (by decide) (by decide) (by decide) (by decide) rfl ?_
  refine Go.if_ne 84 24 d15_21 (by decide) (by decide) rfl (fun _ => ?_) (fun c => absurd c (by decide))
  refine Go.aload_n 85 d15_84 rfl rfl rfl ?_
  refine Go.areturn d15_85 rfl rfl rfl (by decide) (by decide) ?_
  exact ⟨a50, rfl, fr61, kp76, f52, f53⟩

theorem d22_0 : decode jdk_65_method_124_code 0 = .ok (.iload_n 1, 1) := by decide +kernel
theorem d22_1 : decode jdk_65_method_124_code 1 = .ok (.aload_n 0, 1) := by decide +kernel
theorem d22_2 : decode jdk_65_method_124_code 2 = .ok (.arraylength, 1) := by decide +kernel
theorem d22_3 : decode jdk_65_method_124_code 3 = .ok (.if_icmp .ne 11, 3) := by decide +kernel
theorem d22_6 : decode jdk_65_method_124_code 6 = .ok (.aload_n 0, 1) := by decide +kernel
theorem d22_7 : decode jdk_65_method_124_code 7 = .ok (.invokevirtual 319, 3) := by decide +kernel
theorem d22_10 : decode jdk_65_method_124_code 10 = .ok (.checkcast 320, 3) := by decide +kernel
theorem d22_13 : decode jdk_65_method_124_code 13 = .ok (.areturn, 1) := by decide +kernel
theorem d22_14 : decode jdk_65_method_124_code 14 = .ok (.iload_n 1, 1) := by decide +kernel
theorem d22_15 : decode jdk_65_method_124_code 15 = .ok (.newarray .long, 2) := by decide +kernel
theorem d22_17 : decode jdk_65_method_124_code 17 = .ok (.astore_n 2, 1) := by decide +kernel
theorem d22_18 : decode jdk_65_method_124_code 18 = .ok (.aload_n 0, 1) := by decide +kernel
theorem d22_19 : decode jdk_65_method_124_code 19 = .ok (.iconst 0, 1) := by decide +kernel
theorem d22_20 : decode jdk_65_method_124_code 20 = .ok (.aload_n 2, 1) := by decide +kernel
theorem d22_21 : decode jdk_65_method_124_code 21 = .ok (.iconst 0, 1) := by decide +kernel
theorem d22_22 : decode jdk_65_method_124_code 22 = .ok (.aload_n 0, 1) := by decide +kernel
theorem d22_23 : decode jdk_65_method_124_code 23 = .ok (.arraylength, 1) := by decide +kernel
theorem d22_24 : decode jdk_65_method_124_code 24 = .ok (.iload_n 1, 1) := by decide +kernel
theorem d22_25 : decode jdk_65_method_124_code 25 = .ok (.invokestatic 304, 3) := by decide +kernel
theorem d22_28 : decode jdk_65_method_124_code 28 = .ok (.invokestatic 150, 3) := by decide +kernel
theorem d22_31 : decode jdk_65_method_124_code 31 = .ok (.aload_n 2, 1) := by decide +kernel
theorem d22_32 : decode jdk_65_method_124_code 32 = .ok (.areturn, 1) := by decide +kernel

theorem pd22 : parseMethodDescriptor "([JI)[J" = some ⟨[(.array .long), .int], some (.array .long)⟩ := by decide +kernel
theorem pl22 : plainFor (⟨"java/util/Arrays", "copyOf", "([JI)[J"⟩ : MethodName) = true := by first | exact plainFor_of_name (by first | (simp [plainName, overriddenIn]; done) | decide +kernel) | decide +kernel

theorem ef_k_cp00 (m : MethodId) (x0 : Addr) (x1 : Int32) : entryFrame m #[(.ref x0), (.int x1)] 3 = mkF m 0 #[.val (.ref x0), .val (.int x1), .unset] [] := by first | (simp [entryFrame, mkF, argsToLocals, Value.category]; done) | rfl

set_option maxRecDepth 65536 in
set_option maxHeartbeats 40000000 in
theorem k_cp00 {l : Launch} {Z : State} {a0 : Array Value} (hw : ∀ d ∈ tables_1, d.before a0 Z = true)  (h : Heap) (hz : Z.heap.size ≤ h.size) (a : Addr) (fa0 : Arj Z h a []) (fa1 : Exa Z h a "[J")    : Go l Z (⟨"java/util/Arrays", "copyOf", "([JI)[J"⟩ : MethodName) jdk_65_method_124_code 3 (Option.some (Jvm.ClassFile.FieldType.array Jvm.ClassFile.FieldType.long)) ({ frames := 1, cells := 1, slots := 2, locals := 48 } : Room) (QR fun rz h' => ∃ r : Addr, rz = .ref r ∧ h.size ≤ r ∧ Keep h h' [] ∧ Arj Z h' r [] ∧ Exa Z h' r "[J") 0 0 h 0 #[.val (.ref a), .val (.int (0 : Int32)), .unset] [] := by
  have kp0 : Keep h h [] := Keep.refl _ _
  refine Go.iload_n 1 d22_0 rfl rfl ?_
  refine Go.aload_n 2 d22_1 rfl rfl rfl ?_
  refine Go.arraylengthJ (z := (0 : Int32)) 3 d22_2 fa0 (by decide : Nat.toInt32 0 = (0 : Int32)) rfl ?_
  refine Go.icmp_ne 14 6 d22_3 (by decide) (by decide) rfl (fun c => absurd c (by decide)) (fun _ => ?_)
  refine Go.aload_n 7 d22_6 rfl rfl rfl ?_
  refine Go.cloneJ (W := 0) 0 10 d22_7 (tw180 hw) (tw181 hw) (tw185 hw) (tw183 hw) (tw184 hw) (tw186 hw) fa0 fa1  rfl (by decide) (Nat.le_of_eq rfl) (by decide) (by decide : 0 ≤ 0) (by decide) (by decide) rfl (fun a2 h3 q4 E5 A6 Ex7 => ?_)
  have ne8 : a ≠ a2 := fun e => absurd fa0.lt (by rw [e, q4]; exact Nat.lt_irrefl _)
  have ge9 : Z.heap.size ≤ a2 := (Eq.symm q4) ▸ hz
  have fr10 : h.size ≤ a2 := by rw [q4]; exact kp0.1
  have f11 : Arj Z h3 a [] := fa0.ext E5
  have f12 : Exa Z h3 a "[J" := fa1.ext E5
  have zs13 : Z.heap.size ≤ h3.size := Nat.le_trans hz E5.1
  have kp14 : Keep h h3 [] := kp0.ext E5
  refine Go.cast 13 d22_10 (tw187 hw) (Ins.self Ex7) rfl ?_
  refine Go.areturn d22_13 rfl rfl rfl (by decide) (by decide) ?_
  exact ⟨a2, rfl, fr10, kp14, A6, Ex7⟩

theorem ef_k_cp01 (m : MethodId) (x0 : Addr) (x1 : Int32) : entryFrame m #[(.ref x0), (.int x1)] 3 = mkF m 0 #[.val (.ref x0), .val (.int x1), .unset] [] := by first | (simp [entryFrame, mkF, argsToLocals, Value.category]; done) | rfl

set_option maxRecDepth 65536 in
set_option maxHeartbeats 40000000 in
theorem k_cp01 {l : Launch} {Z : State} {a0 : Array Value} (hw : ∀ d ∈ tables_1, d.before a0 Z = true)  (h : Heap) (hz : Z.heap.size ≤ h.size) (a : Addr) (fa0 : Arj Z h a []) (fa1 : Exa Z h a "[J")    : Go l Z (⟨"java/util/Arrays", "copyOf", "([JI)[J"⟩ : MethodName) jdk_65_method_124_code 3 (Option.some (Jvm.ClassFile.FieldType.array Jvm.ClassFile.FieldType.long)) ({ frames := 1, cells := 1, slots := 2, locals := 48 } : Room) (QR fun rz h' => ∃ r : Addr, rz = .ref r ∧ h.size ≤ r ∧ Keep h h' [] ∧ Arj Z h' r [0] ∧ Exa Z h' r "[J") 0 0 h 0 #[.val (.ref a), .val (.int (1 : Int32)), .unset] [] := by
  have kp0 : Keep h h [] := Keep.refl _ _
  refine Go.iload_n 1 d22_0 rfl rfl ?_
  refine Go.aload_n 2 d22_1 rfl rfl rfl ?_
  refine Go.arraylengthJ (z := (0 : Int32)) 3 d22_2 fa0 (by decide : Nat.toInt32 0 = (0 : Int32)) rfl ?_
  refine Go.icmp_ne 14 6 d22_3 (by decide) (by decide) rfl (fun _ => ?_) (fun c => absurd c (by decide))
  refine Go.iload_n 15 d22_14 rfl rfl ?_
  refine Go.newJE (cap := 1) (xs := [0]) "[J" 17 d22_15 (tw9 hw) rfl (by decide) (by decide) (by decide) (by decide) rfl (by decide) (by decide) rfl (fun a2 h3 q4 E5 A6 Ex7 => ?_)
  have ne8 : a ≠ a2 := fun e => absurd fa0.lt (by rw [e, q4]; exact Nat.lt_irrefl _)
  have ge9 : Z.heap.size ≤ a2 := (Eq.symm q4) ▸ hz
  have fr10 : h.size ≤ a2 := by rw [q4]; exact kp0.1
  have f11 : Arj Z h3 a [] := fa0.ext E5
  have f12 : Exa Z h3 a "[J" := fa1.ext E5
  have zs13 : Z.heap.size ≤ h3.size := Nat.le_trans hz E5.1
  have kp14 : Keep h h3 [] := kp0.ext E5
  refine Go.astore_n 18 #[.val (.ref a), .val (.int (1 : Int32)), .val (.ref a2)] d22_17 rfl rfl rfl ?_
  refine Go.aload_n 19 d22_18 rfl rfl rfl ?_
  refine Go.iconst 20 (0) d22_19 (by decide) rfl ?_
  refine Go.aload_n 21 d22_20 rfl rfl rfl ?_
  refine Go.iconst 22 (0) d22_21 (by decide) rfl ?_
  refine Go.aload_n 23 d22_22 rfl rfl rfl ?_
  refine Go.arraylengthJ (z := (0 : Int32)) 24 d22_23 f11 (by decide : Nat.toInt32 0 = (0 : Int32)) rfl ?_
  refine Go.iload_n 25 d22_24 rfl rfl ?_
  refine Go.callSIp [.int (0 : Int32), .int (1 : Int32)] [.int (0 : Int32), .ref a2, .int (0 : Int32), .ref a] 28 d22_25 (tw153 hw) (tw154 hw) (tw155 hw) (tw156 hw) pl23 (by decide) (lenOf pd23 rfl) rfl (fun m => ef_k_minI m (0 : Int32) (1 : Int32)) _ (k_minI hw h3 zs13 (0 : Int32) (1 : Int32)) 4 rfl (Nat.le_of_eq rfl) (by decide) (by decide) (by decide) (by decide) rfl ?_
  refine Go.arraycopyJ (W := 0) 0 0 0 31 d22_28 (tw157 hw) (tw160 hw) (tw158 hw) (tw159 hw) f11 A6 (by decide) (by decide) (by decide) (by decide) (by decide) (by decide) (by decide : 0 + 0 ≤ 0) (by decide : 0 + 0 ≤ 1) (ys' := [0]) rfl ge9 rfl (by decide) (Nat.le_of_eq rfl) (by decide) rfl (fun h18 K19 A20 => ?_)
  have f21 : Arj Z h18 a [] := f11.keep K19 (ninS ne8 nin0)
  have f22 : Exa Z h18 a "[J" := f12.keep K19
  have f23 : Exa Z h18 a2 "[J" := Ex7.keep K19
  have zs24 : Z.heap.size ≤ h18.size := Nat.le_trans zs13 K19.1
  have kp25 : Keep h h18 [] := kp14.trans K19 (allS (Or.inr fr10) all0)
  refine Go.aload_n 32 d22_31 rfl rfl rfl ?_
  refine Go.areturn d22_32 rfl rfl rfl (by decide) (by decide) ?_
  exact ⟨a2, rfl, fr10, kp25, A20, f23⟩

theorem ef_k_cp11 (m : MethodId) (x0 : Addr) (x1 : Int32) : entryFrame m #[(.ref x0), (.int x1)] 3 = mkF m 0 #[.val (.ref x0), .val (.int x1), .unset] [] := by first | (simp [entryFrame, mkF, argsToLocals, Value.category]; done) | rfl

set_option maxRecDepth 65536 in
set_option maxHeartbeats 40000000 in
theorem k_cp11 {l : Launch} {Z : State} {a0 : Array Value} (hw : ∀ d ∈ tables_1, d.before a0 Z = true) {ct0 : Int64} (h : Heap) (hz : Z.heap.size ≤ h.size) (a : Addr) (fa0 : Arj Z h a [ct0]) (fa1 : Exa Z h a "[J")    : Go l Z (⟨"java/util/Arrays", "copyOf", "([JI)[J"⟩ : MethodName) jdk_65_method_124_code 3 (Option.some (Jvm.ClassFile.FieldType.array Jvm.ClassFile.FieldType.long)) ({ frames := 1, cells := 1, slots := 2, locals := 48 } : Room) (QR fun rz h' => ∃ r : Addr, rz = .ref r ∧ h.size ≤ r ∧ Keep h h' [] ∧ Arj Z h' r [ct0] ∧ Exa Z h' r "[J") 0 0 h 0 #[.val (.ref a), .val (.int (1 : Int32)), .unset] [] := by
  have kp0 : Keep h h [] := Keep.refl _ _
  refine Go.iload_n 1 d22_0 rfl rfl ?_
  refine Go.aload_n 2 d22_1 rfl rfl rfl ?_
  refine Go.arraylengthJ (z := (1 : Int32)) 3 d22_2 fa0 (by decide : Nat.toInt32 1 = (1 : Int32)) rfl ?_
  refine Go.icmp_ne 14 6 d22_3 (by decide) (by decide) rfl (fun c => absurd c (by decide)) (fun _ => ?_)
  refine Go.aload_n 7 d22_6 rfl rfl rfl ?_
  refine Go.cloneJ (W := 0) 1 10 d22_7 (tw180 hw) (tw181 hw) (tw185 hw) (tw183 hw) (tw184 hw) (tw186 hw) fa0 fa1  rfl (by decide) (Nat.le_of_eq rfl) (by decide) (by decide : 1 ≤ 1) (by decide) (by decide) rfl (fun a2 h3 q4 E5 A6 Ex7 => ?_)
  have ne8 : a ≠ a2 := fun e => absurd fa0.lt (by rw [e, q4]; exact Nat.lt_irrefl _)
  have ge9 : Z.heap.size ≤ a2 := (Eq.symm q4) ▸ hz
  have fr10 : h.size ≤ a2 := by rw [q4]; exact kp0.1
  have f11 : Arj Z h3 a [ct0] := fa0.ext E5
  have f12 : Exa Z h3 a "[J" := fa1.ext E5
  have zs13 : Z.heap.size ≤ h3.size := Nat.le_trans hz E5.1
  have kp14 : Keep h h3 [] := kp0.ext E5
  refine Go.cast 13 d22_10 (tw187 hw) (Ins.self Ex7) rfl ?_
  refine Go.areturn d22_13 rfl rfl rfl (by decide) (by decide) ?_
  exact ⟨a2, rfl, fr10, kp14, A6, Ex7⟩

theorem ef_k_cp12 (m : MethodId) (x0 : Addr) (x1 : Int32) : entryFrame m #[(.ref x0), (.int x1)] 3 = mkF m 0 #[.val (.ref x0), .val (.int x1), .unset] [] := by first | (simp [entryFrame, mkF, argsToLocals, Value.category]; done) | rfl

set_option maxRecDepth 65536 in
set_option maxHeartbeats 40000000 in
theorem k_cp12 {l : Launch} {Z : State} {a0 : Array Value} (hw : ∀ d ∈ tables_1, d.before a0 Z = true) {ct0 : Int64} (h : Heap) (hz : Z.heap.size ≤ h.size) (a : Addr) (fa0 : Arj Z h a [ct0]) (fa1 : Exa Z h a "[J")    : Go l Z (⟨"java/util/Arrays", "copyOf", "([JI)[J"⟩ : MethodName) jdk_65_method_124_code 3 (Option.some (Jvm.ClassFile.FieldType.array Jvm.ClassFile.FieldType.long)) ({ frames := 1, cells := 1, slots := 2, locals := 48 } : Room) (QR fun rz h' => ∃ r : Addr, rz = .ref r ∧ h.size ≤ r ∧ Keep h h' [] ∧ Arj Z h' r [ct0, 0] ∧ Exa Z h' r "[J") 0 0 h 0 #[.val (.ref a), .val (.int (2 : Int32)), .unset] [] := by
  have kp0 : Keep h h [] := Keep.refl _ _
  refine Go.iload_n 1 d22_0 rfl rfl ?_
  refine Go.aload_n 2 d22_1 rfl rfl rfl ?_
  refine Go.arraylengthJ (z := (1 : Int32)) 3 d22_2 fa0 (by decide : Nat.toInt32 1 = (1 : Int32)) rfl ?_
  refine Go.icmp_ne 14 6 d22_3 (by decide) (by decide) rfl (fun _ => ?_) (fun c => absurd c (by decide))
  refine Go.iload_n 15 d22_14 rfl rfl ?_
  refine Go.newJE (cap := 2) (xs := [0, 0]) "[J" 17 d22_15 (tw9 hw) rfl (by decide) (by decide) (by decide) (by decide) rfl (by decide) (by decide) rfl (fun a2 h3 q4 E5 A6 Ex7 => ?_)
  have ne8 : a ≠ a2 := fun e => absurd fa0.lt (by rw [e, q4]; exact Nat.lt_irrefl _)
  have ge9 : Z.heap.size ≤ a2 := (Eq.symm q4) ▸ hz
  have fr10 : h.size ≤ a2 := by rw [q4]; exact kp0.1
  have f11 : Arj Z h3 a [ct0] := fa0.ext E5
  have f12 : Exa Z h3 a "[J" := fa1.ext E5
  have zs13 : Z.heap.size ≤ h3.size := Nat.le_trans hz E5.1
  have kp14 : Keep h h3 [] := kp0.ext E5
  refine Go.astore_n 18 #[.val (.ref a), .val (.int (2 : Int32)), .val (.ref a2)] d22_17 rfl rfl rfl ?_
  refine Go.aload_n 19 d22_18 rfl rfl rfl ?_
  refine Go.iconst 20 (0) d22_19 (by decide) rfl ?_
  refine Go.aload_n 21 d22_20 rfl rfl rfl ?_
  refine Go.iconst 22 (0) d22_21 (by decide) rfl ?_
  refine Go.aload_n 23 d22_22 rfl rfl rfl ?_
  refine Go.arraylengthJ (z := (1 : Int32)) 24 d22_23 f11 (by decide : Nat.toInt32 1 = (1 : Int32)) rfl ?_
  refine Go.iload_n 25 d22_24 rfl rfl ?_
  refine Go.callSIp [.int (1 : Int32), .int (2 : Int32)] [.int (0 : Int32), .ref a2, .int (0 : Int32), .ref a] 28 d22_25 (tw153 hw) (tw154 hw) (tw155 hw) (tw156 hw) pl23 (by decide) (lenOf pd23 rfl) rfl (fun m => ef_k_minI m (1 : Int32) (2 : Int32)) _ (k_minI hw h3 zs13 (1 : Int32) (2 : Int32)) 4 rfl (Nat.le_of_eq rfl) (by decide) (by decide) (by decide) (by decide) rfl ?_
  refine Go.arraycopyJ (W := 0) 0 0 1 31 d22_28 (tw157 hw) (tw160 hw) (tw158 hw) (tw159 hw) f11 A6 (by decide) (by decide) (by decide) (by decide) (by decide) (by decide) (by decide : 0 + 1 ≤ 1) (by decide : 0 + 1 ≤ 2) (ys' := [ct0, 0]) rfl ge9 rfl (by decide) (Nat.le_of_eq rfl) (by decide) rfl (fun h18 K19 A20 => ?_)
  have f21 : Arj Z h18 a [ct0] := f11.keep K19 (ninS ne8 nin0)
  have f22 : Exa Z h18 a "[J" := f12.keep K19
  have f23 : Exa Z h18 a2 "[J" := Ex7.keep K19
  have zs24 : Z.heap.size ≤ h18.size := Nat.le_trans zs13 K19.1
  have kp25 : Keep h h18 [] := kp14.trans K19 (allS (Or.inr fr10) all0)
  refine Go.aload_n 32 d22_31 rfl rfl rfl ?_
  refine Go.areturn d22_32 rfl rfl rfl (by decide) (by decide) ?_
  exact ⟨a2, rfl, fr10, kp25, A20, f23⟩

theorem d27_0 : decode jdk_2529_method_15_code 0 = .ok (.iload_n 1, 1) := by decide +kernel
theorem d27_1 : decode jdk_2529_method_15_code 1 = .ok (.istore 4, 2) := by decide +kernel
theorem d27_3 : decode jdk_2529_method_15_code 3 = .ok (.iinc 4 1, 3) := by decide +kernel
theorem d27_6 : decode jdk_2529_method_15_code 6 = .ok (.iload 4, 2) := by decide +kernel
theorem d27_8 : decode jdk_2529_method_15_code 8 = .ok (.iload_n 2, 1) := by decide +kernel
theorem d27_9 : decode jdk_2529_method_15_code 9 = .ok (.if_icmp .ge 60, 3) := by decide +kernel
theorem d27_12 : decode jdk_2529_method_15_code 12 = .ok (.aload_n 0, 1) := by decide +kernel
theorem d27_13 : decode jdk_2529_method_15_code 13 = .ok (.iload 4, 2) := by decide +kernel
theorem d27_15 : decode jdk_2529_method_15_code 15 = .ok (.dup, 1) := by decide +kernel
theorem d27_16 : decode jdk_2529_method_15_code 16 = .ok (.istore_n 3, 1) := by decide +kernel
theorem d27_17 : decode jdk_2529_method_15_code 17 = .ok (.laload, 1) := by decide +kernel
theorem d27_18 : decode jdk_2529_method_15_code 18 = .ok (.lstore 5, 2) := by decide +kernel
theorem d27_20 : decode jdk_2529_method_15_code 20 = .ok (.lload 5, 2) := by decide +kernel
theorem d27_22 : decode jdk_2529_method_15_code 22 = .ok (.aload_n 0, 1) := by decide +kernel
theorem d27_23 : decode jdk_2529_method_15_code 23 = .ok (.iload_n 3, 1) := by decide +kernel
theorem d27_24 : decode jdk_2529_method_15_code 24 = .ok (.iconst 1, 1) := by decide +kernel
theorem d27_25 : decode jdk_2529_method_15_code 25 = .ok (.isub, 1) := by decide +kernel
theorem d27_26 : decode jdk_2529_method_15_code 26 = .ok (.laload, 1) := by decide +kernel
theorem d27_27 : decode jdk_2529_method_15_code 27 = .ok (.lcmp, 1) := by decide +kernel
theorem d27_28 : decode jdk_2529_method_15_code 28 = .ok (.ifCond .ge 38, 3) := by decide +kernel
theorem d27_31 : decode jdk_2529_method_15_code 31 = .ok (.iinc 3 (-1), 3) := by decide +kernel
theorem d27_34 : decode jdk_2529_method_15_code 34 = .ok (.iload_n 3, 1) := by decide +kernel
theorem d27_35 : decode jdk_2529_method_15_code 35 = .ok (.iload_n 1, 1) := by decide +kernel
theorem d27_36 : decode jdk_2529_method_15_code 36 = .ok (.if_icmp .lt 23, 3) := by decide +kernel
theorem d27_39 : decode jdk_2529_method_15_code 39 = .ok (.lload 5, 2) := by decide +kernel
theorem d27_41 : decode jdk_2529_method_15_code 41 = .ok (.aload_n 0, 1) := by decide +kernel
theorem d27_42 : decode jdk_2529_method_15_code 42 = .ok (.iload_n 3, 1) := by decide +kernel
theorem d27_43 : decode jdk_2529_method_15_code 43 = .ok (.laload, 1) := by decide +kernel
theorem d27_44 : decode jdk_2529_method_15_code 44 = .ok (.lcmp, 1) := by decide +kernel
theorem d27_45 : decode jdk_2529_method_15_code 45 = .ok (.ifCond .ge 14, 3) := by decide +kernel
theorem d27_48 : decode jdk_2529_method_15_code 48 = .ok (.aload_n 0, 1) := by decide +kernel
theorem d27_49 : decode jdk_2529_method_15_code 49 = .ok (.iload_n 3, 1) := by decide +kernel
theorem d27_50 : decode jdk_2529_method_15_code 50 = .ok (.iconst 1, 1) := by decide +kernel
theorem d27_51 : decode jdk_2529_method_15_code 51 = .ok (.iadd, 1) := by decide +kernel
theorem d27_52 : decode jdk_2529_method_15_code 52 = .ok (.aload_n 0, 1) := by decide +kernel
theorem d27_53 : decode jdk_2529_method_15_code 53 = .ok (.iload_n 3, 1) := by decide +kernel
theorem d27_54 : decode jdk_2529_method_15_code 54 = .ok (.laload, 1) := by decide +kernel
theorem d27_55 : decode jdk_2529_method_15_code 55 = .ok (.lastore, 1) := by decide +kernel
theorem d27_56 : decode jdk_2529_method_15_code 56 = .ok (.goto (-25), 3) := by decide +kernel
theorem d27_59 : decode jdk_2529_method_15_code 59 = .ok (.aload_n 0, 1) := by decide +kernel
theorem d27_60 : decode jdk_2529_method_15_code 60 = .ok (.iload_n 3, 1) := by decide +kernel
theorem d27_61 : decode jdk_2529_method_15_code 61 = .ok (.iconst 1, 1) := by decide +kernel
theorem d27_62 : decode jdk_2529_method_15_code 62 = .ok (.iadd, 1) := by decide +kernel
theorem d27_63 : decode jdk_2529_method_15_code 63 = .ok (.lload 5, 2) := by decide +kernel
theorem d27_65 : decode jdk_2529_method_15_code 65 = .ok (.lastore, 1) := by decide +kernel
theorem d27_66 : decode jdk_2529_method_15_code 66 = .ok (.goto (-63), 3) := by decide +kernel
theorem d27_69 : decode jdk_2529_method_15_code 69 = .ok (.return_, 1) := by decide +kernel

theorem pd27 : parseMethodDescriptor "([JII)V" = some ⟨[(.array .long), .int, .int], none⟩ := by decide +kernel
theorem pl27 : plainFor (⟨"java/util/DualPivotQuicksort", "insertionSort", "([JII)V"⟩ : MethodName) = true := by first | exact plainFor_of_name (by first | (simp [plainName, overriddenIn]; done) | decide +kernel) | decide +kernel

theorem ef_k_s0_167 (m : MethodId) (x0 : Addr) (x1 : Int32) (x2 : Int32) : entryFrame m #[(.ref x0), (.int x1), (.int x2)] 7 = mkF m 0 #[.val (.ref x0), .val (.int x1), .val (.int x2), .unset, .unset, .unset, .unset] [] := by first | (simp [entryFrame, mkF, argsToLocals, Value.category]; done) | rfl

set_option maxRecDepth 65536 in
set_option maxHeartbeats 40000000 in
theorem k_s0_167 {l : Launch} {Z : State} {a0 : Array Value} (hw : ∀ d ∈ tables_1, d.before a0 Z = true)  (h : Heap) (hz : Z.heap.size ≤ h.size) (r : Addr) (fa0 : Arj Z h r [])  (ge_r : Z.heap.size ≤ r)  : Go l Z (⟨"java/util/DualPivotQuicksort", "insertionSort", "([JII)V"⟩ : MethodName) jdk_2529_method_15_code 7 (Option.none : Option Jvm.ClassFile.FieldType) ({ frames := 0, cells := 0, slots := 0, locals := 0 } : Room) (QV fun h' => Keep h h' [r] ∧ Arj Z h' r []) 0 0 h 0 #[.val (.ref r), .val (.int (0 : Int32)), .val (.int (0 : Int32)), .unset, .unset, .unset, .unset] [] := by
  have kp0 : Keep h h [r] := Keep.refl _ _
  refine Go.iload_n 1 d27_0 rfl rfl ?_
  refine Go.istore 3 #[.val (.ref r), .val (.int (0 : Int32)), .val (.int (0 : Int32)), .unset, .val (.int (0 : Int32)), .unset, .unset] d27_1 rfl rfl ?_
  refine Go.iinc 6 (1) #[.val (.ref r), .val (.int (0 : Int32)), .val (.int (0 : Int32)), .unset, .val (.int ((0 : Int32) + (1 : Int32))), .unset, .unset] d27_3 (by decide) rfl rfl rfl ?_
  refine Go.iload 8 d27_6 rfl rfl ?_
  refine Go.iload_n 9 d27_8 rfl rfl ?_
  refine Go.icmp_ge 69 12 d27_9 (by decide) (by decide) rfl (fun _ => ?_) (fun c => absurd c (by decide))
  refine Go.vreturn d27_69 rfl (by decide) (by decide) ?_
  exact ⟨kp0, fa0⟩

theorem ef_k_s1_172 (m : MethodId) (x0 : Addr) (x1 : Int32) (x2 : Int32) : entryFrame m #[(.ref x0), (.int x1), (.int x2)] 7 = mkF m 0 #[.val (.ref x0), .val (.int x1), .val (.int x2), .unset, .unset, .unset, .unset] [] := by first | (simp [entryFrame, mkF, argsToLocals, Value.category]; done) | rfl

set_option maxRecDepth 65536 in
set_option maxHeartbeats 40000000 in
theorem k_s1_172 {l : Launch} {Z : State} {a0 : Array Value} (hw : ∀ d ∈ tables_1, d.before a0 Z = true) {ct0 : Int64} (h : Heap) (hz : Z.heap.size ≤ h.size) (r : Addr) (fa0 : Arj Z h r [ct0])  (ge_r : Z.heap.size ≤ r)  : Go l Z (⟨"java/util/DualPivotQuicksort", "insertionSort", "([JII)V"⟩ : MethodName) jdk_2529_method_15_code 7 (Option.none : Option Jvm.ClassFile.FieldType) ({ frames := 0, cells := 0, slots := 0, locals := 0 } : Room) (QV fun h' => Keep h h' [r] ∧ Arj Z h' r [ct0]) 0 0 h 0 #[.val (.ref r), .val (.int (0 : Int32)), .val (.int (1 : Int32)), .unset, .unset, .unset, .unset] [] := by
  have kp0 : Keep h h [r] := Keep.refl _ _
  refine Go.iload_n 1 d27_0 rfl rfl ?_
  refine Go.istore 3 #[.val (.ref r), .val (.int (0 : Int32)), .val (.int (1 : Int32)), .unset, .val (.int (0 : Int32)), .unset, .unset] d27_1 rfl rfl ?_
  refine Go.iinc 6 (1) #[.val (.ref r), .val (.int (0 : Int32)), .val (.int (1 : Int32)), .unset, .val (.int ((0 : Int32) + (1 : Int32))), .unset, .unset] d27_3 (by decide) rfl rfl rfl ?_
  refine Go.iload 8 d27_6 rfl rfl ?_
  refine Go.iload_n 9 d27_8 rfl rfl ?_
  refine Go.icmp_ge 69 12 d27_9 (by decide) (by decide) rfl (fun _ => ?_) (fun c => absurd c (by decide))
  refine Go.vreturn d27_69 rfl (by decide) (by decide) ?_
  exact ⟨kp0, fa0⟩

theorem ef_k_s2_177 (m : MethodId) (x0 : Addr) (x1 : Int32) (x2 : Int32) : entryFrame m #[(.ref x0), (.int x1), (.int x2)] 7 = mkF m 0 #[.val (.ref x0), .val (.int x1), .val (.int x2), .unset, .unset, .unset, .unset] [] := by first | (simp [entryFrame, mkF, argsToLocals, Value.category]; done) | rfl

set_option maxRecDepth 65536 in
set_option maxHeartbeats 40000000 in
theorem k_s2_177 {l : Launch} {Z : State} {a0 : Array Value} (hw : ∀ d ∈ tables_1, d.before a0 Z = true) {ct0 : Int64} {ct1 : Int64} (h : Heap) (hz : Z.heap.size ≤ h.size) (r : Addr) (fa0 : Arj Z h r [ct0, ct1])  (ge_r : Z.heap.size ≤ r)  : Go l Z (⟨"java/util/DualPivotQuicksort", "insertionSort", "([JII)V"⟩ : MethodName) jdk_2529_method_15_code 7 (Option.none : Option Jvm.ClassFile.FieldType) ({ frames := 0, cells := 0, slots := 0, locals := 0 } : Room) (QV fun h' => Keep h h' [r] ∧ Arj Z h' r [(if ct1 < ct0 then ct1 else ct0), (if ct1 < ct0 then ct0 else ct1)]) 0 0 h 0 #[.val (.ref r), .val (.int (0 : Int32)), .val (.int (2 : Int32)), .unset, .unset, .unset, .unset] [] := by
  have kp0 : Keep h h [r] := Keep.refl _ _
  refine Go.iload_n 1 d27_0 rfl rfl ?_
  refine Go.istore 3 #[.val (.ref r), .val (.int (0 : Int32)), .val (.int (2 : Int32)), .unset, .val (.int (0 : Int32)), .unset, .unset] d27_1 rfl rfl ?_
  refine Go.iinc 6 (1) #[.val (.ref r), .val (.int (0 : Int32)), .val (.int (2 : Int32)), .unset, .val (.int ((0 : Int32) + (1 : Int32))), .unset, .unset] d27_3 (by decide) rfl rfl rfl ?_
  refine Go.iload 8 d27_6 rfl rfl ?_
  refine Go.iload_n 9 d27_8 rfl rfl ?_
  refine Go.icmp_ge 69 12 d27_9 (by decide) (by decide) rfl (fun c => absurd c (by decide)) (fun _ => ?_)
  refine Go.aload_n 13 d27_12 rfl rfl rfl ?_
  refine Go.iload 15 d27_13 rfl rfl ?_
  refine Go.dup 16 d27_15 rfl rfl ?_
  refine Go.istore_n 17 #[.val (.ref r), .val (.int (0 : Int32)), .val (.int (2 : Int32)), .val (.int ((0 : Int32) + (1 : Int32))), .val (.int ((0 : Int32) + (1 : Int32))), .unset, .unset] d27_16 rfl rfl ?_
  refine Go.laload (x := ct1) (1) 18 d27_17 fa0 (by decide) (by decide) rfl rfl ?_
  refine Go.lstore 20 #[.val (.ref r), .val (.int (0 : Int32)), .val (.int (2 : Int32)), .val (.int ((0 : Int32) + (1 : Int32))), .val (.int ((0 : Int32) + (1 : Int32))), .val (.long ct1), .second] d27_18 rfl rfl ?_
  refine Go.lload 22 d27_20 rfl rfl ?_
  refine Go.aload_n 23 d27_22 rfl rfl rfl ?_
  refine Go.iload_n 24 d27_23 rfl rfl ?_
  refine Go.iconst 25 (1) d27_24 (by decide) rfl ?_
  refine Go.isub 26 d27_25 rfl ?_
  refine Go.laload (x := ct0) (0) 27 d27_26 fa0 (by decide) (by decide) rfl rfl ?_
  refine Go.lcmp 28 d27_27 rfl ?_
  refine Go.lcmp_ge 66 31 d27_28 (by decide) (by decide) rfl (fun c2 => ?_) (fun c2 => ?_)
  ·
    refine Go.goto 3 d27_66 (by decide) (by decide) ?_
    refine Go.iinc 6 (1) #[.val (.ref r), .val (.int (0 : Int32)), .val (.int (2 : Int32)), .val (.int ((0 : Int32) + (1 : Int32))), .val (.int (((0 : Int32) + (1 : Int32)) + (1 : Int32))), .val (.long ct1), .second] d27_3 (by decide) rfl rfl rfl ?_
    refine Go.iload 8 d27_6 rfl rfl ?_
    refine Go.iload_n 9 d27_8 rfl rfl ?_
    refine Go.icmp_ge 69 12 d27_9 (by decide) (by decide) rfl (fun _ => ?_) (fun c => absurd c (by decide))
    refine Go.vreturn d27_69 rfl (by decide) (by decide) ?_
    exact ⟨kp0, (by rw [if_neg c2, if_neg c2]; exact fa0)⟩
  ·
    refine Go.iinc 34 (-1) #[.val (.ref r), .val (.int (0 : Int32)), .val (.int (2 : Int32)), .val (.int (((0 : Int32) + (1 : Int32)) + (-1 : Int32))), .val (.int ((0 : Int32) + (1 : Int32))), .val (.long ct1), .second] d27_31 (by decide) rfl rfl rfl ?_
    refine Go.iload_n 35 d27_34 rfl rfl ?_
    refine Go.iload_n 36 d27_35 rfl rfl ?_
    refine Go.icmp_lt 59 39 d27_36 (by decide) (by decide) rfl (fun c => absurd c (by decide)) (fun _ => ?_)
    refine Go.lload 41 d27_39 rfl rfl ?_
    refine Go.aload_n 42 d27_41 rfl rfl rfl ?_
    refine Go.iload_n 43 d27_42 rfl rfl ?_
    refine Go.laload (x := ct0) (0) 44 d27_43 fa0 (by decide) (by decide) rfl rfl ?_
    refine Go.lcmp 45 d27_44 rfl ?_
    refine Go.lcmp_ge 59 48 d27_45 (by decide) (by decide) rfl (fun c => absurd c2 c) (fun _ => ?_)
    refine Go.aload_n 49 d27_48 rfl rfl rfl ?_
    refine Go.iload_n 50 d27_49 rfl rfl ?_
    refine Go.iconst 51 (1) d27_50 (by decide) rfl ?_
    refine Go.iadd 52 d27_51 rfl ?_
    refine Go.aload_n 53 d27_52 rfl rfl rfl ?_
    refine Go.iload_n 54 d27_53 rfl rfl ?_
    refine Go.laload (x := ct0) (0) 55 d27_54 fa0 (by decide) (by decide) rfl rfl ?_
    refine Go.lastore (1) ([ct0, ct0]) 56 d27_55 fa0 (by decide) (by decide) (by decide : (1 : Nat) < 2) rfl ge_r rfl (fun h6 W7 A8 => ?_)
    have zs9 : Z.heap.size ≤ h6.size := W7.size ▸ hz
    have kp10 : Keep h h6 [r] := kp0.wr W7 (Or.inl (by simp))
    refine Go.goto 31 d27_56 (by decide) (by decide) ?_
    refine Go.iinc 34 (-1) #[.val (.ref r), .val (.int (0 : Int32)), .val (.int (2 : Int32)), .val (.int ((((0 : Int32) + (1 : Int32)) + (-1 : Int32)) + (-1 : Int32))), .val (.int ((0 : Int32) + (1 : Int32))), .val (.long ct1), .second] d27_31 (by decide) rfl rfl rfl ?_
    refine Go.iload_n 35 d27_34 rfl rfl ?_
    refine Go.iload_n 36 d27_35 rfl rfl ?_
    refine Go.icmp_lt 59 39 d27_36 (by decide) (by decide) rfl (fun _ => ?_) (fun c => absurd c (by decide))
    refine Go.aload_n 60 d27_59 rfl rfl rfl ?_
    refine Go.iload_n 61 d27_60 rfl rfl ?_
    refine Go.iconst 62 (1) d27_61 (by decide) rfl ?_
    refine Go.iadd 63 d27_62 rfl ?_
    refine Go.lload 65 d27_63 rfl rfl ?_
    refine Go.lastore (0) ([ct1, ct0]) 66 d27_65 A8 (by decide) (by decide) (by decide : (0 : Nat) < 2) rfl ge_r rfl (fun h12 W13 A14 => ?_)
    have zs15 : Z.heap.size ≤ h12.size := W13.size ▸ zs9
    have kp16 : Keep h h12 [r] := kp10.wr W13 (Or.inl (by simp))
    refine Go.goto 3 d27_66 (by decide) (by decide) ?_
    refine Go.iinc 6 (1) #[.val (.ref r), .val (.int (0 : Int32)), .val (.int (2 : Int32)), .val (.int ((((0 : Int32) + (1 : Int32)) + (-1 : Int32)) + (-1 : Int32))), .val (.int (((0 : Int32) + (1 : Int32)) + (1 : Int32))), .val (.long ct1), .second] d27_3 (by decide) rfl rfl rfl ?_
    refine Go.iload 8 d27_6 rfl rfl ?_
    refine Go.iload_n 9 d27_8 rfl rfl ?_
    refine Go.icmp_ge 69 12 d27_9 (by decide) (by decide) rfl (fun _ => ?_) (fun c => absurd c (by decide))
    refine Go.vreturn d27_69 rfl (by decide) (by decide) ?_
    exact ⟨kp16, (by rw [if_pos c2, if_pos c2]; exact A14)⟩

theorem d26_0 : decode jdk_2529_method_13_code 0 = .ok (.iload 4, 2) := by decide +kernel
theorem d26_2 : decode jdk_2529_method_13_code 2 = .ok (.iconst 1, 1) := by decide +kernel
theorem d26_3 : decode jdk_2529_method_13_code 3 = .ok (.isub, 1) := by decide +kernel
theorem d26_4 : decode jdk_2529_method_13_code 4 = .ok (.istore 5, 2) := by decide +kernel
theorem d26_6 : decode jdk_2529_method_13_code 6 = .ok (.iload 4, 2) := by decide +kernel
theorem d26_8 : decode jdk_2529_method_13_code 8 = .ok (.iload_n 3, 1) := by decide +kernel
theorem d26_9 : decode jdk_2529_method_13_code 9 = .ok (.isub, 1) := by decide +kernel
theorem d26_10 : decode jdk_2529_method_13_code 10 = .ok (.istore 6, 2) := by decide +kernel
theorem d26_12 : decode jdk_2529_method_13_code 12 = .ok (.iload 6, 2) := by decide +kernel
theorem d26_14 : decode jdk_2529_method_13_code 14 = .ok (.bipush 65, 2) := by decide +kernel
theorem d26_16 : decode jdk_2529_method_13_code 16 = .ok (.iload_n 2, 1) := by decide +kernel
theorem d26_17 : decode jdk_2529_method_13_code 17 = .ok (.iadd, 1) := by decide +kernel
theorem d26_18 : decode jdk_2529_method_13_code 18 = .ok (.if_icmp .ge 28, 3) := by decide +kernel
theorem d26_21 : decode jdk_2529_method_13_code 21 = .ok (.iload_n 2, 1) := by decide +kernel
theorem d26_22 : decode jdk_2529_method_13_code 22 = .ok (.iconst 1, 1) := by decide +kernel
theorem d26_23 : decode jdk_2529_method_13_code 23 = .ok (.iand, 1) := by decide +kernel
theorem d26_24 : decode jdk_2529_method_13_code 24 = .ok (.ifCond .le 22, 3) := by decide +kernel
theorem d26_27 : decode jdk_2529_method_13_code 27 = .ok (.aload_n 1, 1) := by decide +kernel
theorem d26_28 : decode jdk_2529_method_13_code 28 = .ok (.iload_n 3, 1) := by decide +kernel
theorem d26_29 : decode jdk_2529_method_13_code 29 = .ok (.iload 4, 2) := by decide +kernel
theorem d26_31 : decode jdk_2529_method_13_code 31 = .ok (.iconst 3, 1) := by decide +kernel
theorem d26_32 : decode jdk_2529_method_13_code 32 = .ok (.iload 6, 2) := by decide +kernel
theorem d26_34 : decode jdk_2529_method_13_code 34 = .ok (.iconst 5, 1) := by decide +kernel
theorem d26_35 : decode jdk_2529_method_13_code 35 = .ok (.ishr, 1) := by decide +kernel
theorem d26_36 : decode jdk_2529_method_13_code 36 = .ok (.iconst 3, 1) := by decide +kernel
theorem d26_37 : decode jdk_2529_method_13_code 37 = .ok (.ishl, 1) := by decide +kernel
theorem d26_38 : decode jdk_2529_method_13_code 38 = .ok (.imul, 1) := by decide +kernel
theorem d26_39 : decode jdk_2529_method_13_code 39 = .ok (.isub, 1) := by decide +kernel
theorem d26_40 : decode jdk_2529_method_13_code 40 = .ok (.iload 4, 2) := by decide +kernel
theorem d26_42 : decode jdk_2529_method_13_code 42 = .ok (.invokestatic 102, 3) := by decide +kernel
theorem d26_45 : decode jdk_2529_method_13_code 45 = .ok (.return_, 1) := by decide +kernel
theorem d26_46 : decode jdk_2529_method_13_code 46 = .ok (.iload 6, 2) := by decide +kernel
theorem d26_48 : decode jdk_2529_method_13_code 48 = .ok (.bipush 44, 2) := by decide +kernel
theorem d26_50 : decode jdk_2529_method_13_code 50 = .ok (.if_icmp .ge 11, 3) := by decide +kernel
theorem d26_53 : decode jdk_2529_method_13_code 53 = .ok (.aload_n 1, 1) := by decide +kernel
theorem d26_54 : decode jdk_2529_method_13_code 54 = .ok (.iload_n 3, 1) := by decide +kernel
theorem d26_55 : decode jdk_2529_method_13_code 55 = .ok (.iload 4, 2) := by decide +kernel
theorem d26_57 : decode jdk_2529_method_13_code 57 = .ok (.invokestatic 105, 3) := by decide +kernel
theorem d26_60 : decode jdk_2529_method_13_code 60 = .ok (.return_, 1) := by decide +kernel

theorem pd26 : parseMethodDescriptor "(Ljava/util/DualPivotQuicksort$Sorter;[JIII)V" = some ⟨[(.object "java/util/DualPivotQuicksort$Sorter"), (.array .long), .int, .int, .int], none⟩ := by decide +kernel
theorem pl26 : plainFor (⟨"java/util/DualPivotQuicksort", "sort", "(Ljava/util/DualPivotQuicksort$Sorter;[JIII)V"⟩ : MethodName) = true := by first | exact plainFor_of_name (by first | (simp [plainName, overriddenIn]; done) | decide +kernel) | decide +kernel

theorem ef_k_s0_182 (m : MethodId) (x0 : Unit) (x1 : Addr) (x2 : Int32) (x3 : Int32) (x4 : Int32) : entryFrame m #[.null, (.ref x1), (.int x2), (.int x3), (.int x4)] 25 = mkF m 0 #[.val .null, .val (.ref x1), .val (.int x2), .val (.int x3), .val (.int x4), .unset, .unset, .unset, .unset, .unset, .unset, .unset, .unset, .unset, .unset, .unset, .unset, .unset, .unset, .unset, .unset, .unset, .unset, .unset, .unset] [] := by first | (simp [entryFrame, mkF, argsToLocals, Value.category]; done) | rfl

set_option maxRecDepth 65536 in
set_option maxHeartbeats 40000000 in
theorem k_s0_182 {l : Launch} {Z : State} {a0 : Array Value} (hw : ∀ d ∈ tables_1, d.before a0 Z = true)  (h : Heap) (hz : Z.heap.size ≤ h.size) (nul : Unit) (r : Addr) (fa0 : Arj Z h r [])  (ge_r : Z.heap.size ≤ r)  : Go l Z (⟨"java/util/DualPivotQuicksort", "sort", "(Ljava/util/DualPivotQuicksort$Sorter;[JIII)V"⟩ : MethodName) jdk_2529_method_13_code 25 (Option.none : Option Jvm.ClassFile.FieldType) ({ frames := 1, cells := 0, slots := 0, locals := 20 } : Room) (QV fun h' => Keep h h' [r] ∧ Arj Z h' r []) 0 0 h 0 #[.val (.null), .val (.ref r), .val (.int (0 : Int32)), .val (.int (0 : Int32)), .val (.int (0 : Int32)), .unset, .unset, .unset, .unset, .unset, .unset, .unset, .unset, .unset, .unset, .unset, .unset, .unset, .unset, .unset, .unset, .unset, .unset, .unset, .unset] [] := by
  have kp0 : Keep h h [r] := Keep.refl _ _
  refine Go.iload 2 d26_0 rfl rfl ?_
  refine Go.iconst 3 (1) d26_2 (by decide) rfl ?_
  refine Go.isub 4 d26_3 rfl ?_
  refine Go.istore 6 #[.val (.null), .val (.ref r), .val (.int (0 : Int32)), .val (.int (0 : Int32)), .val (.int (0 : Int32)), .val (.int ((0 : Int32) - (1 : Int32))), .unset, .unset, .unset, .unset, .unset, .unset, .unset, .unset, .unset, .unset, .unset, .unset, .unset, .unset, .unset, .unset, .unset, .unset, .unset] d26_4 rfl rfl ?_
  refine Go.iload 8 d26_6 rfl rfl ?_
  refine Go.iload_n 9 d26_8 rfl rfl ?_
  refine Go.isub 10 d26_9 rfl ?_
  refine Go.istore 12 #[.val (.null), .val (.ref r), .val (.int (0 : Int32)), .val (.int (0 : Int32)), .val (.int (0 : Int32)), .val (.int ((0 : Int32) - (1 : Int32))), .val (.int ((0 : Int32) - (0 : Int32))), .unset, .unset, .unset, .unset, .unset, .unset, .unset, .unset, .unset, .unset, .unset, .unset, .unset, .unset, .unset, .unset, .unset, .unset] d26_10 rfl rfl ?_
  refine Go.iload 14 d26_12 rfl rfl ?_
  refine Go.bipush 16 (65) d26_14 (by decide) rfl ?_
  refine Go.iload_n 17 d26_16 rfl rfl ?_
  refine Go.iadd 18 d26_17 rfl ?_
  refine Go.icmp_ge 46 21 d26_18 (by decide) (by decide) rfl (fun c => absurd c (by decide)) (fun _ => ?_)
  refine Go.iload_n 22 d26_21 rfl rfl ?_
  refine Go.iconst 23 (1) d26_22 (by decide) rfl ?_
  refine Go.iand 24 d26_23 rfl ?_
  refine Go.if_le 46 27 d26_24 (by decide) (by decide) rfl (fun _ => ?_) (fun c => absurd c (by decide))
  refine Go.iload 48 d26_46 rfl rfl ?_
  refine Go.bipush 50 (44) d26_48 (by decide) rfl ?_
  refine Go.icmp_ge 61 53 d26_50 (by decide) (by decide) rfl (fun c => absurd c (by decide)) (fun _ => ?_)
  refine Go.aload_n 54 d26_53 rfl rfl rfl ?_
  refine Go.iload_n 55 d26_54 rfl rfl ?_
  refine Go.iload 57 d26_55 rfl rfl ?_
  refine Go.callSV [.ref r, .int (0 : Int32), .int (0 : Int32)] [] 60 d26_57 (tw172 hw) (tw173 hw) (tw167 hw) (tw174 hw) pl27 (by decide) (lenOf pd27 rfl) rfl (fun m => ef_k_s0_167 m r (0 : Int32) (0 : Int32)) _ (k_s0_167 hw h hz r fa0 ge_r) 0 rfl (Nat.le_of_eq rfl) (by decide) (by decide) (by decide) (by decide) rfl ?_
  rintro h5 ⟨K6, f7⟩
  have zs8 : Z.heap.size ≤ h5.size := Nat.le_trans hz K6.1
  have kp9 : Keep h h5 [r] := kp0.trans K6 (allS (Or.inl (by simp)) all0)
  refine Go.vreturn d26_60 rfl (by decide) (by decide) ?_
  exact ⟨kp9, f7⟩

theorem ef_k_s1_187 (m : MethodId) (x0 : Unit) (x1 : Addr) (x2 : Int32) (x3 : Int32) (x4 : Int32) : entryFrame m #[.null, (.ref x1), (.int x2), (.int x3), (.int x4)] 25 = mkF m 0 #[.val .null, .val (.ref x1), .val (.int x2), .val (.int x3), .val (.int x4), .unset, .unset, .unset, .unset, .unset, .unset, .unset, .unset, .unset, .unset, .unset, .unset, .unset, .unset, .unset, .unset, .unset, .unset, .unset, .unset] [] := by first | (simp [entryFrame, mkF, argsToLocals, Value.category]; done) | rfl

set_option maxRecDepth 65536 in
set_option maxHeartbeats 40000000 in
theorem k_s1_187 {l : Launch} {Z : State} {a0 : Array Value} (hw : ∀ d ∈ tables_1, d.before a0 Z = true) {ct0 : Int64} (h : Heap) (hz : Z.heap.size ≤ h.size) (nul : Unit) (r : Addr) (fa0 : Arj Z h r [ct0])  (ge_r : Z.heap.size ≤ r)  : Go l Z (⟨"java/util/DualPivotQuicksort", "sort", "(Ljava/util/DualPivotQuicksort$Sorter;[JIII)V"⟩ : MethodName) jdk_2529_method_13_code 25 (Option.none : Option Jvm.ClassFile.FieldType) ({ frames := 1, cells := 0, slots := 0, locals := 20 } : Room) (QV fun h' => Keep h h' [r] ∧ Arj Z h' r [ct0]) 0 0 h 0 #[.val (.null), .val (.ref r), .val (.int (0 : Int32)), .val (.int (0 : Int32)), .val (.int (1 : Int32)), .unset, .unset, .unset, .unset, .unset, .unset, .unset, .unset, .unset, .unset, .unset, .unset, .unset, .unset, .unset, .unset, .unset, .unset, .unset, .unset] [] := by
  have kp0 : Keep h h [r] := Keep.refl _ _
  refine Go.iload 2 d26_0 rfl rfl ?_
  refine Go.iconst 3 (1) d26_2 (by decide) rfl ?_
  refine Go.isub 4 d26_3 rfl ?_
  refine Go.istore 6 #[.val (.null), .val (.ref r), .val (.int (0 : Int32)), .val (.int (0 : Int32)), .val (.int (1 : Int32)), .val (.int ((1 : Int32) - (1 : Int32))), .unset, .unset, .unset, .unset, .unset, .unset, .unset, .unset, .unset, .unset, .unset, .unset, .unset, .unset, .unset, .unset, .unset, .unset, .unset] d26_4 rfl rfl ?_
  refine Go.iload 8 d26_6 rfl rfl ?_
  refine Go.iload_n 9 d26_8 rfl rfl ?_
  refine Go.isub 10 d26_9 rfl ?_
  refine Go.istore 12 #[.val (.null), .val (.ref r), .val (.int (0 : Int32)), .val (.int (0 : Int32)), .val (.int (1 : Int32)), .val (.int ((1 : Int32) - (1 : Int32))), .val (.int ((1 : Int32) - (0 : Int32))), .unset, .unset, .unset, .unset, .unset, .unset, .unset, .unset, .unset, .unset, .unset, .unset, .unset, .unset, .unset, .unset, .unset, .unset] d26_10 rfl rfl ?_
  refine Go.iload 14 d26_12 rfl rfl ?_
  refine Go.bipush 16 (65) d26_14 (by decide) rfl ?_
  refine Go.iload_n 17 d26_16 rfl rfl ?_
  refine Go.iadd 18 d26_17 rfl ?_
  refine Go.icmp_ge 46 21 d26_18 (by decide) (by decide) rfl (fun c => absurd c (by decide)) (fun _ => ?_)
  refine Go.iload_n 22 d26_21 rfl rfl ?_
  refine Go.iconst 23 (1) d26_22 (by decide) rfl ?_
  refine Go.iand 24 d26_23 rfl ?_
  refine Go.if_le 46 27 d26_24 (by decide) (by decide) rfl (fun _ => ?_) (fun c => absurd c (by decide))
  refine Go.iload 48 d26_46 rfl rfl ?_
  refine Go.bipush 50 (44) d26_48 (by decide) rfl ?_
  refine Go.icmp_ge 61 53 d26_50 (by decide) (by decide) rfl (fun c => absurd c (by decide)) (fun _ => ?_)
  refine Go.aload_n 54 d26_53 rfl rfl rfl ?_
  refine Go.iload_n 55 d26_54 rfl rfl ?_
  refine Go.iload 57 d26_55 rfl rfl ?_
  refine Go.callSV [.ref r, .int (0 : Int32), .int (1 : Int32)] [] 60 d26_57 (tw172 hw) (tw173 hw) (tw167 hw) (tw174 hw) pl27 (by decide) (lenOf pd27 rfl) rfl (fun m => ef_k_s1_172 m r (0 : Int32) (1 : Int32)) _ (k_s1_172 hw h hz r fa0 ge_r) 0 rfl (Nat.le_of_eq rfl) (by decide) (by decide) (by decide) (by decide) rfl ?_
  rintro h5 ⟨K6, f7⟩
  have zs8 : Z.heap.size ≤ h5.size := Nat.le_trans hz K6.1
  have kp9 : Keep h h5 [r] := kp0.trans K6 (allS (Or.inl (by simp)) all0)
  refine Go.vreturn d26_60 rfl (by decide) (by decide) ?_
  exact ⟨kp9, f7⟩

theorem ef_k_s2_192 (m : MethodId) (x0 : Unit) (x1 : Addr) (x2 : Int32) (x3 : Int32) (x4 : Int32) : entryFrame m #[.null, (.ref x1), (.int x2), (.int x3), (.int x4)] 25 = mkF m 0 #[.val .null, .val (.ref x1), .val (.int x2), .val (.int x3), .val (.int x4), .unset, .unset, .unset, .unset, .unset, .unset, .unset, .unset, .unset, .unset, .unset, .unset, .unset, .unset, .unset, .unset, .unset, .unset, .unset, .unset] [] := by first | (simp [entryFrame, mkF, argsToLocals, Value.category]; done) | rfl

set_option maxRecDepth 65536 in
set_option maxHeartbeats 40000000 in
theorem k_s2_192 {l : Launch} {Z : State} {a0 : Array Value} (hw : ∀ d ∈ tables_1, d.before a0 Z = true) {ct0 : Int64} {ct1 : Int64} (h : Heap) (hz : Z.heap.size ≤ h.size) (nul : Unit) (r : Addr) (fa0 : Arj Z h r [ct0, ct1])  (ge_r : Z.heap.size ≤ r)  : Go l Z (⟨"java/util/DualPivotQuicksort", "sort", "(Ljava/util/DualPivotQuicksort$Sorter;[JIII)V"⟩ : MethodName) jdk_2529_method_13_code 25 (Option.none : Option Jvm.ClassFile.FieldType) ({ frames := 1, cells := 0, slots := 0, locals := 20 } : Room) (QV fun h' => Keep h h' [r] ∧ Arj Z h' r [(if ct1 < ct0 then ct1 else ct0), (if ct1 < ct0 then ct0 else ct1)]) 0 0 h 0 #[.val (.null), .val (.ref r), .val (.int (0 : Int32)), .val (.int (0 : Int32)), .val (.int (2 : Int32)), .unset, .unset, .unset, .unset, .unset, .unset, .unset, .unset, .unset, .unset, .unset, .unset, .unset, .unset, .unset, .unset, .unset, .unset, .unset, .unset] [] := by
  have kp0 : Keep h h [r] := Keep.refl _ _
  refine Go.iload 2 d26_0 rfl rfl ?_
  refine Go.iconst 3 (1) d26_2 (by decide) rfl ?_
  refine Go.isub 4 d26_3 rfl ?_
  refine Go.istore 6 #[.val (.null), .val (.ref r), .val (.int (0 : Int32)), .val (.int (0 : Int32)), .val (.int (2 : Int32)), .val (.int ((2 : Int32) - (1 : Int32))), .unset, .unset, .unset, .unset, .unset, .unset, .unset, .unset, .unset, .unset, .unset, .unset, .unset, .unset, .unset, .unset, .unset, .unset, .unset] d26_4 rfl rfl ?_
  refine Go.iload 8 d26_6 rfl rfl ?_
  refine Go.iload_n 9 d26_8 rfl rfl ?_
  refine Go.isub 10 d26_9 rfl ?_
  refine Go.istore 12 #[.val (.null), .val (.ref r), .val (.int (0 : Int32)), .val (.int (0 : Int32)), .val (.int (2 : Int32)), .val (.int ((2 : Int32) - (1 : Int32))), .val (.int ((2 : Int32) - (0 : Int32))), .unset, .unset, .unset, .unset, .unset, .unset, .unset, .unset, .unset, .unset, .unset, .unset, .unset, .unset, .unset, .unset, .unset, .unset] d26_10 rfl rfl ?_
  refine Go.iload 14 d26_12 rfl rfl ?_
  refine Go.bipush 16 (65) d26_14 (by decide) rfl ?_
  refine Go.iload_n 17 d26_16 rfl rfl ?_
  refine Go.iadd 18 d26_17 rfl ?_
  refine Go.icmp_ge 46 21 d26_18 (by decide) (by decide) rfl (fun c => absurd c (by decide)) (fun _ => ?_)
  refine Go.iload_n 22 d26_21 rfl rfl ?_
  refine Go.iconst 23 (1) d26_22 (by decide) rfl ?_
  refine Go.iand 24 d26_23 rfl ?_
  refine Go.if_le 46 27 d26_24 (by decide) (by decide) rfl (fun _ => ?_) (fun c => absurd c (by decide))
  refine Go.iload 48 d26_46 rfl rfl ?_
  refine Go.bipush 50 (44) d26_48 (by decide) rfl ?_
  refine Go.icmp_ge 61 53 d26_50 (by decide) (by decide) rfl (fun c => absurd c (by decide)) (fun _ => ?_)
  refine Go.aload_n 54 d26_53 rfl rfl rfl ?_
  refine Go.iload_n 55 d26_54 rfl rfl ?_
  refine Go.iload 57 d26_55 rfl rfl ?_
  refine Go.callSV [.ref r, .int (0 : Int32), .int (2 : Int32)] [] 60 d26_57 (tw172 hw) (tw173 hw) (tw167 hw) (tw174 hw) pl27 (by decide) (lenOf pd27 rfl) rfl (fun m => ef_k_s2_177 m r (0 : Int32) (2 : Int32)) _ (k_s2_177 hw h hz r fa0 ge_r) 0 rfl (Nat.le_of_eq rfl) (by decide) (by decide) (by decide) (by decide) rfl ?_
  rintro h5 ⟨K6, f7⟩
  have zs8 : Z.heap.size ≤ h5.size := Nat.le_trans hz K6.1
  have kp9 : Keep h h5 [r] := kp0.trans K6 (allS (Or.inl (by simp)) all0)
  refine Go.vreturn d26_60 rfl (by decide) (by decide) ?_
  exact ⟨kp9, f7⟩

theorem d25_0 : decode jdk_2529_method_12_code 0 = .ok (.iload_n 3, 1) := by decide +kernel
theorem d25_1 : decode jdk_2529_method_12_code 1 = .ok (.iload_n 2, 1) := by decide +kernel
theorem d25_2 : decode jdk_2529_method_12_code 2 = .ok (.isub, 1) := by decide +kernel
theorem d25_3 : decode jdk_2529_method_12_code 3 = .ok (.istore 4, 2) := by decide +kernel
theorem d25_5 : decode jdk_2529_method_12_code 5 = .ok (.iload_n 1, 1) := by decide +kernel
theorem d25_6 : decode jdk_2529_method_12_code 6 = .ok (.iconst 1, 1) := by decide +kernel
theorem d25_7 : decode jdk_2529_method_12_code 7 = .ok (.if_icmp .le 61, 3) := by decide +kernel
theorem d25_10 : decode jdk_2529_method_12_code 10 = .ok (.iload 4, 2) := by decide +kernel
theorem d25_12 : decode jdk_2529_method_12_code 12 = .ok (.sipush 4096, 3) := by decide +kernel
theorem d25_15 : decode jdk_2529_method_12_code 15 = .ok (.if_icmp .le 53, 3) := by decide +kernel
theorem d25_18 : decode jdk_2529_method_12_code 18 = .ok (.iload_n 1, 1) := by decide +kernel
theorem d25_19 : decode jdk_2529_method_12_code 19 = .ok (.iload 4, 2) := by decide +kernel
theorem d25_21 : decode jdk_2529_method_12_code 21 = .ok (.bipush 12, 2) := by decide +kernel
theorem d25_23 : decode jdk_2529_method_12_code 23 = .ok (.ishr, 1) := by decide +kernel
theorem d25_24 : decode jdk_2529_method_12_code 24 = .ok (.invokestatic 13, 3) := by decide +kernel
theorem d25_27 : decode jdk_2529_method_12_code 27 = .ok (.istore 5, 2) := by decide +kernel
theorem d25_29 : decode jdk_2529_method_12_code 29 = .ok (.iload 5, 2) := by decide +kernel
theorem d25_31 : decode jdk_2529_method_12_code 31 = .ok (.ifCond .ne 7, 3) := by decide +kernel
theorem d25_34 : decode jdk_2529_method_12_code 34 = .ok (.aconst_null, 1) := by decide +kernel
theorem d25_35 : decode jdk_2529_method_12_code 35 = .ok (.goto 7, 3) := by decide +kernel
theorem d25_38 : decode jdk_2529_method_12_code 38 = .ok (.iload 4, 2) := by decide +kernel
theorem d25_40 : decode jdk_2529_method_12_code 40 = .ok (.newarray .long, 2) := by decide +kernel
theorem d25_42 : decode jdk_2529_method_12_code 42 = .ok (.astore 6, 2) := by decide +kernel
theorem d25_44 : decode jdk_2529_method_12_code 44 = .ok (.new 17, 3) := by decide +kernel
theorem d25_47 : decode jdk_2529_method_12_code 47 = .ok (.dup, 1) := by decide +kernel
theorem d25_48 : decode jdk_2529_method_12_code 48 = .ok (.aconst_null, 1) := by decide +kernel
theorem d25_49 : decode jdk_2529_method_12_code 49 = .ok (.aload_n 0, 1) := by decide +kernel
theorem d25_50 : decode jdk_2529_method_12_code 50 = .ok (.aload 6, 2) := by decide +kernel
theorem d25_52 : decode jdk_2529_method_12_code 52 = .ok (.iload_n 2, 1) := by decide +kernel
theorem d25_53 : decode jdk_2529_method_12_code 53 = .ok (.iload 4, 2) := by decide +kernel
theorem d25_55 : decode jdk_2529_method_12_code 55 = .ok (.iload_n 2, 1) := by decide +kernel
theorem d25_56 : decode jdk_2529_method_12_code 56 = .ok (.iload 5, 2) := by decide +kernel
theorem d25_58 : decode jdk_2529_method_12_code 58 = .ok (.invokespecial 19, 3) := by decide +kernel
theorem d25_61 : decode jdk_2529_method_12_code 61 = .ok (.invokevirtual 22, 3) := by decide +kernel
theorem d25_64 : decode jdk_2529_method_12_code 64 = .ok (.pop, 1) := by decide +kernel
theorem d25_65 : decode jdk_2529_method_12_code 65 = .ok (.goto 11, 3) := by decide +kernel
theorem d25_68 : decode jdk_2529_method_12_code 68 = .ok (.aconst_null, 1) := by decide +kernel
theorem d25_69 : decode jdk_2529_method_12_code 69 = .ok (.aload_n 0, 1) := by decide +kernel
theorem d25_70 : decode jdk_2529_method_12_code 70 = .ok (.iconst 0, 1) := by decide +kernel
theorem d25_71 : decode jdk_2529_method_12_code 71 = .ok (.iload_n 2, 1) := by decide +kernel
theorem d25_72 : decode jdk_2529_method_12_code 72 = .ok (.iload_n 3, 1) := by decide +kernel
theorem d25_73 : decode jdk_2529_method_12_code 73 = .ok (.invokestatic 99, 3) := by decide +kernel
theorem d25_76 : decode jdk_2529_method_12_code 76 = .ok (.return_, 1) := by decide +kernel

theorem pd25 : parseMethodDescriptor "([JIII)V" = some ⟨[(.array .long), .int, .int, .int], none⟩ := by decide +kernel
theorem pl25 : plainFor (⟨"java/util/DualPivotQuicksort", "sort", "([JIII)V"⟩ : MethodName) = true := by first | exact plainFor_of_name (by first | (simp [plainName, overriddenIn]; done) | decide +kernel) | decide +kernel

theorem ef_k_s0_197 (m : MethodId) (x0 : Addr) (x1 : Int32) (x2 : Int32) (x3 : Int32) : entryFrame m #[(.ref x0), (.int x1), (.int x2), (.int x3)] 7 = mkF m 0 #[.val (.ref x0), .val (.int x1), .val (.int x2), .val (.int x3), .unset, .unset, .unset] [] := by first | (simp [entryFrame, mkF, argsToLocals, Value.category]; done) | rfl

set_option maxRecDepth 65536 in
set_option maxHeartbeats 40000000 in
theorem k_s0_197 {l : Launch} {Z : State} {a0 : Array Value} (hw : ∀ d ∈ tables_1, d.before a0 Z = true)  (h : Heap) (hz : Z.heap.size ≤ h.size) (r : Addr) (fa0 : Arj Z h r [])  (ge_r : Z.heap.size ≤ r)  : Go l Z (⟨"java/util/DualPivotQuicksort", "sort", "([JIII)V"⟩ : MethodName) jdk_2529_method_12_code 7 (Option.none : Option Jvm.ClassFile.FieldType) ({ frames := 2, cells := 0, slots := 0, locals := 60 } : Room) (QV fun h' => Keep h h' [r] ∧ Arj Z h' r []) 0 0 h 0 #[.val (.ref r), .val (.int (0 : Int32)), .val (.int (0 : Int32)), .val (.int (0 : Int32)), .unset, .unset, .unset] [] := by
  have kp0 : Keep h h [r] := Keep.refl _ _
  refine Go.iload_n 1 d25_0 rfl rfl ?_
  refine Go.iload_n 2 d25_1 rfl rfl ?_
  refine Go.isub 3 d25_2 rfl ?_
  refine Go.istore 5 #[.val (.ref r), .val (.int (0 : Int32)), .val (.int (0 : Int32)), .val (.int (0 : Int32)), .val (.int ((0 : Int32) - (0 : Int32))), .unset, .unset] d25_3 rfl rfl ?_
  refine Go.iload_n 6 d25_5 rfl rfl ?_
  refine Go.iconst 7 (1) d25_6 (by decide) rfl ?_
  refine Go.icmp_le 68 10 d25_7 (by decide) (by decide) rfl (fun _ => ?_) (fun c => absurd c (by decide))
  refine Go.aconst_null 69 d25_68 rfl ?_
  refine Go.aload_n 70 d25_69 rfl rfl rfl ?_
  refine Go.iconst 71 (0) d25_70 (by decide) rfl ?_
  refine Go.iload_n 72 d25_71 rfl rfl ?_
  refine Go.iload_n 73 d25_72 rfl rfl ?_
  refine Go.callSV [.null, .ref r, .int (0 : Int32), .int (0 : Int32), .int (0 : Int32)] [] 76 d25_73 (tw169 hw) (tw170 hw) (tw167 hw) (tw171 hw) pl26 (by decide) (lenOf pd26 rfl) rfl (fun m => ef_k_s0_182 m () r (0 : Int32) (0 : Int32) (0 : Int32)) _ (k_s0_182 hw h hz () r fa0 ge_r) 0 rfl (Nat.le_of_eq rfl) (by decide) (by decide) (by decide) (by decide) rfl ?_
  rintro h3 ⟨K4, f5⟩
  have zs6 : Z.heap.size ≤ h3.size := Nat.le_trans hz K4.1
  have kp7 : Keep h h3 [r] := kp0.trans K4 (allS (Or.inl (by simp)) all0)
  refine Go.vreturn d25_76 rfl (by decide) (by decide) ?_
  exact ⟨kp7, f5⟩

theorem ef_k_s1_202 (m : MethodId) (x0 : Addr) (x1 : Int32) (x2 : Int32) (x3 : Int32) : entryFrame m #[(.ref x0), (.int x1), (.int x2), (.int x3)] 7 = mkF m 0 #[.val (.ref x0), .val (.int x1), .val (.int x2), .val (.int x3), .unset, .unset, .unset] [] := by first | (simp [entryFrame, mkF, argsToLocals, Value.category]; done) | rfl

set_option maxRecDepth 65536 in
set_option maxHeartbeats 40000000 in
theorem k_s1_202 {l : Launch} {Z : State} {a0 : Array Value} (hw : ∀ d ∈ tables_1, d.before a0 Z = true) {ct0 : Int64} (h : Heap) (hz : Z.heap.size ≤ h.size) (r : Addr) (fa0 : Arj Z h r [ct0])  (ge_r : Z.heap.size ≤ r)  : Go l Z (⟨"java/util/DualPivotQuicksort", "sort", "([JIII)V"⟩ : MethodName) jdk_2529_method_12_code 7 (Option.none : Option Jvm.ClassFile.FieldType) ({ frames := 2, cells := 0, slots := 0, locals := 60 } : Room) (QV fun h' => Keep h h' [r] ∧ Arj Z h' r [ct0]) 0 0 h 0 #[.val (.ref r), .val (.int (0 : Int32)), .val (.int (0 : Int32)), .val (.int (1 : Int32)), .unset, .unset, .unset] [] := by
  have kp0 : Keep h h [r] := Keep.refl _ _
  refine Go.iload_n 1 d25_0 rfl rfl ?_
  refine Go.iload_n 2 d25_1 rfl rfl ?_
  refine Go.isub 3 d25_2 rfl ?_
  refine Go.istore 5 #[.val (.ref r), .val (.int (0 : Int32)), .val (.int (0 : Int32)), .val (.int (1 : Int32)), .val (.int ((1 : Int32) - (0 : Int32))), .unset, .unset] d25_3 rfl rfl ?_
  refine Go.iload_n 6 d25_5 rfl rfl ?_
  refine Go.iconst 7 (1) d25_6 (by decide) rfl ?_
  refine Go.icmp_le 68 10 d25_7 (by decide) (by decide) rfl (fun _ => ?_) (fun c => absurd c (by decide))
  refine Go.aconst_null 69 d25_68 rfl ?_
  refine Go.aload_n 70 d25_69 rfl rfl rfl ?_
  refine Go.iconst 71 (0) d25_70 (by decide) rfl ?_
  refine Go.iload_n 72 d25_71 rfl rfl ?_
  refine Go.iload_n 73 d25_72 rfl rfl ?_
  refine Go.callSV [.null, .ref r, .int (0 : Int32), .int (0 : Int32), .int (1 : Int32)] [] 76 d25_73 (tw169 hw) (tw170 hw) (tw167 hw) (tw171 hw) pl26 (by decide) (lenOf pd26 rfl) rfl (fun m => ef_k_s1_187 m () r (0 : Int32) (0 : Int32) (1 : Int32)) _ (k_s1_187 hw h hz () r fa0 ge_r) 0 rfl (Nat.le_of_eq rfl) (by decide) (by decide) (by decide) (by decide) rfl ?_
  rintro h3 ⟨K4, f5⟩
  have zs6 : Z.heap.size ≤ h3.size := Nat.le_trans hz K4.1
  have kp7 : Keep h h3 [r] := kp0.trans K4 (allS (Or.inl (by simp)) all0)
  refine Go.vreturn d25_76 rfl (by decide) (by decide) ?_
  exact ⟨kp7, f5⟩

theorem ef_k_s2_207 (m : MethodId) (x0 : Addr) (x1 : Int32) (x2 : Int32) (x3 : Int32) : entryFrame m #[(.ref x0), (.int x1), (.int x2), (.int x3)] 7 = mkF m 0 #[.val (.ref x0), .val (.int x1), .val (.int x2), .val (.int x3), .unset, .unset, .unset] [] := by first | (simp [entryFrame, mkF, argsToLocals, Value.category]; done) | rfl

set_option maxRecDepth 65536 in
set_option maxHeartbeats 40000000 in
theorem k_s2_207 {l : Launch} {Z : State} {a0 : Array Value} (hw : ∀ d ∈ tables_1, d.before a0 Z = true) {ct0 : Int64} {ct1 : Int64} (h : Heap) (hz : Z.heap.size ≤ h.size) (r : Addr) (fa0 : Arj Z h r [ct0, ct1])  (ge_r : Z.heap.size ≤ r)  : Go l Z (⟨"java/util/DualPivotQuicksort", "sort", "([JIII)V"⟩ : MethodName) jdk_2529_method_12_code 7 (Option.none : Option Jvm.ClassFile.FieldType) ({ frames := 2, cells := 0, slots := 0, locals := 60 } : Room) (QV fun h' => Keep h h' [r] ∧ Arj Z h' r [(if ct1 < ct0 then ct1 else ct0), (if ct1 < ct0 then ct0 else ct1)]) 0 0 h 0 #[.val (.ref r), .val (.int (0 : Int32)), .val (.int (0 : Int32)), .val (.int (2 : Int32)), .unset, .unset, .unset] [] := by
  have kp0 : Keep h h [r] := Keep.refl _ _
  refine Go.iload_n 1 d25_0 rfl rfl ?_
  refine Go.iload_n 2 d25_1 rfl rfl ?_
  refine Go.isub 3 d25_2 rfl ?_
  refine Go.istore 5 #[.val (.ref r), .val (.int (0 : Int32)), .val (.int (0 : Int32)), .val (.int (2 : Int32)), .val (.int ((2 : Int32) - (0 : Int32))), .unset, .unset] d25_3 rfl rfl ?_
  refine Go.iload_n 6 d25_5 rfl rfl ?_
  refine Go.iconst 7 (1) d25_6 (by decide) rfl ?_
  refine Go.icmp_le 68 10 d25_7 (by decide) (by decide) rfl (fun _ => ?_) (fun c => absurd c (by decide))
  refine Go.aconst_null 69 d25_68 rfl ?_
  refine Go.aload_n 70 d25_69 rfl rfl rfl ?_
  refine Go.iconst 71 (0) d25_70 (by decide) rfl ?_
  refine Go.iload_n 72 d25_71 rfl rfl ?_
  refine Go.iload_n 73 d25_72 rfl rfl ?_
  refine Go.callSV [.null, .ref r, .int (0 : Int32), .int (0 : Int32), .int (2 : Int32)] [] 76 d25_73 (tw169 hw) (tw170 hw) (tw167 hw) (tw171 hw) pl26 (by decide) (lenOf pd26 rfl) rfl (fun m => ef_k_s2_192 m () r (0 : Int32) (0 : Int32) (2 : Int32)) _ (k_s2_192 hw h hz () r fa0 ge_r) 0 rfl (Nat.le_of_eq rfl) (by decide) (by decide) (by decide) (by decide) rfl ?_
  rintro h3 ⟨K4, f5⟩
  have zs6 : Z.heap.size ≤ h3.size := Nat.le_trans hz K4.1
  have kp7 : Keep h h3 [r] := kp0.trans K4 (allS (Or.inl (by simp)) all0)
  refine Go.vreturn d25_76 rfl (by decide) (by decide) ?_
  exact ⟨kp7, f5⟩

theorem d24_0 : decode jdk_65_method_4_code 0 = .ok (.aload_n 0, 1) := by decide +kernel
theorem d24_1 : decode jdk_65_method_4_code 1 = .ok (.iconst 0, 1) := by decide +kernel
theorem d24_2 : decode jdk_65_method_4_code 2 = .ok (.iconst 0, 1) := by decide +kernel
theorem d24_3 : decode jdk_65_method_4_code 3 = .ok (.aload_n 0, 1) := by decide +kernel
theorem d24_4 : decode jdk_65_method_4_code 4 = .ok (.arraylength, 1) := by decide +kernel
theorem d24_5 : decode jdk_65_method_4_code 5 = .ok (.invokestatic 19, 3) := by decide +kernel
theorem d24_8 : decode jdk_65_method_4_code 8 = .ok (.return_, 1) := by decide +kernel

theorem pd24 : parseMethodDescriptor "([J)V" = some ⟨[(.array .long)], none⟩ := by decide +kernel
theorem pl24 : plainFor (⟨"java/util/Arrays", "sort", "([J)V"⟩ : MethodName) = true := by first | exact plainFor_of_name (by first | (simp [plainName, overriddenIn]; done) | decide +kernel) | decide +kernel

theorem ef_k_s0_212 (m : MethodId) (x0 : Addr) : entryFrame m #[(.ref x0)] 1 = mkF m 0 #[.val (.ref x0)] [] := by first | (simp [entryFrame, mkF, argsToLocals, Value.category]; done) | rfl

set_option maxRecDepth 65536 in
set_option maxHeartbeats 40000000 in
theorem k_s0_212 {l : Launch} {Z : State} {a0 : Array Value} (hw : ∀ d ∈ tables_1, d.before a0 Z = true)  (h : Heap) (hz : Z.heap.size ≤ h.size) (r : Addr) (fa0 : Arj Z h r [])  (ge_r : Z.heap.size ≤ r)  : Go l Z (⟨"java/util/Arrays", "sort", "([J)V"⟩ : MethodName) jdk_65_method_4_code 1 (Option.none : Option Jvm.ClassFile.FieldType) ({ frames := 3, cells := 0, slots := 0, locals := 80 } : Room) (QV fun h' => Keep h h' [r] ∧ Arj Z h' r []) 0 0 h 0 #[.val (.ref r)] [] := by
  have kp0 : Keep h h [r] := Keep.refl _ _
  refine Go.aload_n 1 d24_0 rfl rfl rfl ?_
  refine Go.iconst 2 (0) d24_1 (by decide) rfl ?_
  refine Go.iconst 3 (0) d24_2 (by decide) rfl ?_
  refine Go.aload_n 4 d24_3 rfl rfl rfl ?_
  refine Go.arraylengthJ (z := (0 : Int32)) 5 d24_4 fa0 (by decide : Nat.toInt32 0 = (0 : Int32)) rfl ?_
  refine Go.callSV [.ref r, .int (0 : Int32), .int (0 : Int32), .int (0 : Int32)] [] 8 d24_5 (tw165 hw) (tw166 hw) (tw167 hw) (tw168 hw) pl25 (by decide) (lenOf pd25 rfl) rfl (fun m => ef_k_s0_197 m r (0 : Int32) (0 : Int32) (0 : Int32)) _ (k_s0_197 hw h hz r fa0 ge_r) 0 rfl (Nat.le_of_eq rfl) (by decide) (by decide) (by decide) (by decide) rfl ?_
  rintro h2 ⟨K3, f4⟩
  have zs5 : Z.heap.size ≤ h2.size := Nat.le_trans hz K3.1
  have kp6 : Keep h h2 [r] := kp0.trans K3 (allS (Or.inl (by simp)) all0)
  refine Go.vreturn d24_8 rfl (by decide) (by decide) ?_
  exact ⟨kp6, f4⟩

theorem ef_k_s1_217 (m : MethodId) (x0 : Addr) : entryFrame m #[(.ref x0)] 1 = mkF m 0 #[.val (.ref x0)] [] := by first | (simp [entryFrame, mkF, argsToLocals, Value.category]; done) | rfl

set_option maxRecDepth 65536 in
set_option maxHeartbeats 40000000 in
theorem k_s1_217 {l : Launch} {Z : State} {a0 : Array Value} (hw : ∀ d ∈ tables_1, d.before a0 Z = true) {ct0 : Int64} (h : Heap) (hz : Z.heap.size ≤ h.size) (r : Addr) (fa0 : Arj Z h r [ct0])  (ge_r : Z.heap.size ≤ r)  : Go l Z (⟨"java/util/Arrays", "sort", "([J)V"⟩ : MethodName) jdk_65_method_4_code 1 (Option.none : Option Jvm.ClassFile.FieldType) ({ frames := 3, cells := 0, slots := 0, locals := 80 } : Room) (QV fun h' => Keep h h' [r] ∧ Arj Z h' r [ct0]) 0 0 h 0 #[.val (.ref r)] [] := by
  have kp0 : Keep h h [r] := Keep.refl _ _
  refine Go.aload_n 1 d24_0 rfl rfl rfl ?_
  refine Go.iconst 2 (0) d24_1 (by decide) rfl ?_
  refine Go.iconst 3 (0) d24_2 (by decide) rfl ?_
  refine Go.aload_n 4 d24_3 rfl rfl rfl ?_
  refine Go.arraylengthJ (z := (1 : Int32)) 5 d24_4 fa0 (by decide : Nat.toInt32 1 = (1 : Int32)) rfl ?_
  refine Go.callSV [.ref r, .int (0 : Int32), .int (0 : Int32), .int (1 : Int32)] [] 8 d24_5 (tw165 hw) (tw166 hw) (tw167 hw) (tw168 hw) pl25 (by decide) (lenOf pd25 rfl) rfl (fun m => ef_k_s1_202 m r (0 : Int32) (0 : Int32) (1 : Int32)) _ (k_s1_202 hw h hz r fa0 ge_r) 0 rfl (Nat.le_of_eq rfl) (by decide) (by decide) (by decide) (by decide) rfl ?_
  rintro h2 ⟨K3, f4⟩
  have zs5 : Z.heap.size ≤ h2.size := Nat.le_trans hz K3.1
  have kp6 : Keep h h2 [r] := kp0.trans K3 (allS (Or.inl (by simp)) all0)
  refine Go.vreturn d24_8 rfl (by decide) (by decide) ?_
  exact ⟨kp6, f4⟩

theorem ef_k_s2_222 (m : MethodId) (x0 : Addr) : entryFrame m #[(.ref x0)] 1 = mkF m 0 #[.val (.ref x0)] [] := by first | (simp [entryFrame, mkF, argsToLocals, Value.category]; done) | rfl

set_option maxRecDepth 65536 in
set_option maxHeartbeats 40000000 in
theorem k_s2_222 {l : Launch} {Z : State} {a0 : Array Value} (hw : ∀ d ∈ tables_1, d.before a0 Z = true) {ct0 : Int64} {ct1 : Int64} (h : Heap) (hz : Z.heap.size ≤ h.size) (r : Addr) (fa0 : Arj Z h r [ct0, ct1])  (ge_r : Z.heap.size ≤ r)  : Go l Z (⟨"java/util/Arrays", "sort", "([J)V"⟩ : MethodName) jdk_65_method_4_code 1 (Option.none : Option Jvm.ClassFile.FieldType) ({ frames := 3, cells := 0, slots := 0, locals := 80 } : Room) (QV fun h' => Keep h h' [r] ∧ Arj Z h' r [(if ct1 < ct0 then ct1 else ct0), (if ct1 < ct0 then ct0 else ct1)]) 0 0 h 0 #[.val (.ref r)] [] := by
  have kp0 : Keep h h [r] := Keep.refl _ _
  refine Go.aload_n 1 d24_0 rfl rfl rfl ?_
  refine Go.iconst 2 (0) d24_1 (by decide) rfl ?_
  refine Go.iconst 3 (0) d24_2 (by decide) rfl ?_
  refine Go.aload_n 4 d24_3 rfl rfl rfl ?_
  refine Go.arraylengthJ (z := (2 : Int32)) 5 d24_4 fa0 (by decide : Nat.toInt32 2 = (2 : Int32)) rfl ?_
  refine Go.callSV [.ref r, .int (0 : Int32), .int (0 : Int32), .int (2 : Int32)] [] 8 d24_5 (tw165 hw) (tw166 hw) (tw167 hw) (tw168 hw) pl25 (by decide) (lenOf pd25 rfl) rfl (fun m => ef_k_s2_207 m r (0 : Int32) (0 : Int32) (2 : Int32)) _ (k_s2_207 hw h hz r fa0 ge_r) 0 rfl (Nat.le_of_eq rfl) (by decide) (by decide) (by decide) (by decide) rfl ?_
  rintro h2 ⟨K3, f4⟩
  have zs5 : Z.heap.size ≤ h2.size := Nat.le_trans hz K3.1
  have kp6 : Keep h h2 [r] := kp0.trans K3 (allS (Or.inl (by simp)) all0)
  refine Go.vreturn d24_8 rfl (by decide) (by decide) ?_
  exact ⟨kp6, f4⟩

theorem d21_0 : decode prog_34_method_7_code 0 = .ok (.aload_n 0, 1) := by decide +kernel
theorem d21_1 : decode prog_34_method_7_code 1 = .ok (.aload_n 0, 1) := by decide +kernel
theorem d21_2 : decode prog_34_method_7_code 2 = .ok (.arraylength, 1) := by decide +kernel
theorem d21_3 : decode prog_34_method_7_code 3 = .ok (.aload_n 1, 1) := by decide +kernel
theorem d21_4 : decode prog_34_method_7_code 4 = .ok (.arraylength, 1) := by decide +kernel
theorem d21_5 : decode prog_34_method_7_code 5 = .ok (.iadd, 1) := by decide +kernel
theorem d21_6 : decode prog_34_method_7_code 6 = .ok (.invokestatic 110, 3) := by decide +kernel
theorem d21_9 : decode prog_34_method_7_code 9 = .ok (.astore_n 2, 1) := by decide +kernel
theorem d21_10 : decode prog_34_method_7_code 10 = .ok (.aload_n 1, 1) := by decide +kernel
theorem d21_11 : decode prog_34_method_7_code 11 = .ok (.iconst 0, 1) := by decide +kernel
theorem d21_12 : decode prog_34_method_7_code 12 = .ok (.aload_n 2, 1) := by decide +kernel
theorem d21_13 : decode prog_34_method_7_code 13 = .ok (.aload_n 0, 1) := by decide +kernel
theorem d21_14 : decode prog_34_method_7_code 14 = .ok (.arraylength, 1) := by decide +kernel
theorem d21_15 : decode prog_34_method_7_code 15 = .ok (.aload_n 1, 1) := by decide +kernel
theorem d21_16 : decode prog_34_method_7_code 16 = .ok (.arraylength, 1) := by decide +kernel
theorem d21_17 : decode prog_34_method_7_code 17 = .ok (.invokestatic 114, 3) := by decide +kernel
theorem d21_20 : decode prog_34_method_7_code 20 = .ok (.aload_n 2, 1) := by decide +kernel
theorem d21_21 : decode prog_34_method_7_code 21 = .ok (.invokestatic 120, 3) := by decide +kernel
theorem d21_24 : decode prog_34_method_7_code 24 = .ok (.aload_n 2, 1) := by decide +kernel
theorem d21_25 : decode prog_34_method_7_code 25 = .ok (.areturn, 1) := by decide +kernel

theorem pd21 : parseMethodDescriptor "([J[J)[J" = some ⟨[(.array .long), (.array .long)], some (.array .long)⟩ := by decide +kernel
theorem pl21 : plainFor (⟨"com/example/interlace/interlace/engine/Floors", "merged", "([J[J)[J"⟩ : MethodName) = true := by first | exact plainFor_of_name (by first | (simp [plainName, overriddenIn]; done) | decide +kernel) | decide +kernel

theorem ef_k_mg00 (m : MethodId) (x0 : Addr) (x1 : Addr) : entryFrame m #[(.ref x0), (.ref x1)] 3 = mkF m 0 #[.val (.ref x0), .val (.ref x1), .unset] [] := by first | (simp [entryFrame, mkF, argsToLocals, Value.category]; done) | rfl

set_option maxRecDepth 65536 in
set_option maxHeartbeats 40000000 in
theorem k_mg00 {l : Launch} {Z : State} {a0 : Array Value} (hw : ∀ d ∈ tables_1, d.before a0 Z = true)  (h : Heap) (hz : Z.heap.size ≤ h.size) (p : Addr) (q : Addr) (fa0 : Arj Z h p []) (fa1 : Exa Z h p "[J") (fa2 : Arj Z h q [])    : Go l Z (⟨"com/example/interlace/interlace/engine/Floors", "merged", "([J[J)[J"⟩ : MethodName) prog_34_method_7_code 3 (Option.some (Jvm.ClassFile.FieldType.array Jvm.ClassFile.FieldType.long)) ({ frames := 4, cells := 1, slots := 2, locals := 100 } : Room) (QR fun rz h' => ∃ r : Addr, rz = .ref r ∧ h.size ≤ r ∧ Keep h h' [] ∧ Arj Z h' r [] ∧ Exa Z h' r "[J") 0 0 h 0 #[.val (.ref p), .val (.ref q), .unset] [] := by
  have kp0 : Keep h h [] := Keep.refl _ _
  refine Go.aload_n 1 d21_0 rfl rfl rfl ?_
  refine Go.aload_n 2 d21_1 rfl rfl rfl ?_
  refine Go.arraylengthJ (z := (0 : Int32)) 3 d21_2 fa0 (by decide : Nat.toInt32 0 = (0 : Int32)) rfl ?_
  refine Go.aload_n 4 d21_3 rfl rfl rfl ?_
  refine Go.arraylengthJ (z := (0 : Int32)) 5 d21_4 fa2 (by decide : Nat.toInt32 0 = (0 : Int32)) rfl ?_
  refine Go.iadd 6 d21_5 rfl ?_
  refine Go.callSR [.ref p, .int ((0 : Int32) + (0 : Int32))] [] 9 d21_6 (tw150 hw) (tw151 hw) (tw28 hw) (tw152 hw) pl22 (by decide) (lenOf pd22 rfl) rfl (fun m => ef_k_cp00 m p ((0 : Int32) + (0 : Int32))) _ (k_cp00 hw h hz p fa0 fa1) 0 rfl (Nat.le_of_eq rfl) (by decide) (by decide) (by decide) (by decide) rfl ?_
  rintro z1 h2 ⟨a4, rfl, g5, K3, f6, f7⟩
  have ne8 : p ≠ a4 := Nat.ne_of_lt (Nat.lt_of_lt_of_le fa0.lt g5)
  have ne9 : q ≠ a4 := Nat.ne_of_lt (Nat.lt_of_lt_of_le fa2.lt g5)
  have ge10 : Z.heap.size ≤ a4 := Nat.le_trans hz g5
  have fr11 : h.size ≤ a4 := Nat.le_trans kp0.1 g5
  have f12 : Arj Z h2 p [] := fa0.keep K3 nin0
  have f13 : Exa Z h2 p "[J" := fa1.keep K3
  have f14 : Arj Z h2 q [] := fa2.keep K3 nin0
  have zs15 : Z.heap.size ≤ h2.size := Nat.le_trans hz K3.1
  have kp16 : Keep h h2 [] := kp0.trans K3 all0
  refine Go.astore_n 10 #[.val (.ref p), .val (.ref q), .val (.ref a4)] d21_9 rfl rfl rfl ?_
  refine Go.aload_n 11 d21_10 rfl rfl rfl ?_
  refine Go.iconst 12 (0) d21_11 (by decide) rfl ?_
  refine Go.aload_n 13 d21_12 rfl rfl rfl ?_
  refine Go.aload_n 14 d21_13 rfl rfl rfl ?_
  refine Go.arraylengthJ (z := (0 : Int32)) 15 d21_14 f12 (by decide : Nat.toInt32 0 = (0 : Int32)) rfl ?_
  refine Go.aload_n 16 d21_15 rfl rfl rfl ?_
  refine Go.arraylengthJ (z := (0 : Int32)) 17 d21_16 f14 (by decide : Nat.toInt32 0 = (0 : Int32)) rfl ?_
  refine Go.arraycopyJ (W := 0) 0 0 0 20 d21_17 (tw161 hw) (tw160 hw) (tw158 hw) (tw159 hw) f14 f6 (by decide) (by decide) (by decide) (by decide) (by decide) (by decide) (by decide : 0 + 0 ≤ 0) (by decide : 0 + 0 ≤ 0) (ys' := []) rfl ge10 rfl (by decide) (Nat.le_of_eq rfl) (by decide) rfl (fun h17 K18 A19 => ?_)
  have f20 : Arj Z h17 p [] := f12.keep K18 (ninS ne8 nin0)
  have f21 : Exa Z h17 p "[J" := f13.keep K18
  have f22 : Arj Z h17 q [] := f14.keep K18 (ninS ne9 nin0)
  have f23 : Exa Z h17 a4 "[J" := f7.keep K18
  have zs24 : Z.heap.size ≤ h17.size := Nat.le_trans zs15 K18.1
  have kp25 : Keep h h17 [] := kp16.trans K18 (allS (Or.inr fr11) all0)
  refine Go.aload_n 21 d21_20 rfl rfl rfl ?_
  refine Go.callSV [.ref a4] [] 24 d21_21 (tw162 hw) (tw163 hw) (tw28 hw) (tw164 hw) pl24 (by decide) (lenOf pd24 rfl) rfl (fun m => ef_k_s0_212 m a4) _ (k_s0_212 hw h17 zs24 a4 A19 ge10) 0 rfl (Nat.le_of_eq rfl) (by decide) (by decide) (by decide) (by decide) rfl ?_
  rintro h27 ⟨K28, f29⟩
  have f30 : Arj Z h27 p [] := f20.keep K28 (ninS ne8 nin0)
  have f31 : Exa Z h27 p "[J" := f21.keep K28
  have f32 : Arj Z h27 q [] := f22.keep K28 (ninS ne9 nin0)
  have f33 : Exa Z h27 a4 "[J" := f23.keep K28
  have zs34 : Z.heap.size ≤ h27.size := Nat.le_trans zs24 K28.1
  have kp35 : Keep h h27 [] := kp25.trans K28 (allS (Or.inr fr11) all0)
  refine Go.aload_n 25 d21_24 rfl rfl rfl ?_
  refine Go.areturn d21_25 rfl rfl rfl (by decide) (by decide) ?_
  exact ⟨a4, rfl, fr11, kp35, f29, f33⟩

theorem ef_k_mg01 (m : MethodId) (x0 : Addr) (x1 : Addr) : entryFrame m #[(.ref x0), (.ref x1)] 3 = mkF m 0 #[.val (.ref x0), .val (.ref x1), .unset] [] := by first | (simp [entryFrame, mkF, argsToLocals, Value.category]; done) | rfl

set_option maxRecDepth 65536 in
set_option maxHeartbeats 40000000 in
theorem k_mg01 {l : Launch} {Z : State} {a0 : Array Value} (hw : ∀ d ∈ tables_1, d.before a0 Z = true) {dt0 : Int64} (h : Heap) (hz : Z.heap.size ≤ h.size) (p : Addr) (q : Addr) (fa0 : Arj Z h p []) (fa1 : Exa Z h p "[J") (fa2 : Arj Z h q [dt0])    : Go l Z (⟨"com/example/interlace/interlace/engine/Floors", "merged", "([J[J)[J"⟩ : MethodName) prog_34_method_7_code 3 (Option.some (Jvm.ClassFile.FieldType.array Jvm.ClassFile.FieldType.long)) ({ frames := 4, cells := 1, slots := 2, locals := 100 } : Room) (QR fun rz h' => ∃ r : Addr, rz = .ref r ∧ h.size ≤ r ∧ Keep h h' [] ∧ Arj Z h' r [dt0] ∧ Exa Z h' r "[J") 0 0 h 0 #[.val (.ref p), .val (.ref q), .unset] [] := by
  have kp0 : Keep h h [] := Keep.refl _ _
  refine Go.aload_n 1 d21_0 rfl rfl rfl ?_
  refine Go.aload_n 2 d21_1 rfl rfl rfl ?_
  refine Go.arraylengthJ (z := (0 : Int32)) 3 d21_2 fa0 (by decide : Nat.toInt32 0 = (0 : Int32)) rfl ?_
  refine Go.aload_n 4 d21_3 rfl rfl rfl ?_
  refine Go.arraylengthJ (z := (1 : Int32)) 5 d21_4 fa2 (by decide : Nat.toInt32 1 = (1 : Int32)) rfl ?_
  refine Go.iadd 6 d21_5 rfl ?_
  refine Go.callSR [.ref p, .int ((0 : Int32) + (1 : Int32))] [] 9 d21_6 (tw150 hw) (tw151 hw) (tw28 hw) (tw152 hw) pl22 (by decide) (lenOf pd22 rfl) rfl (fun m => ef_k_cp01 m p ((0 : Int32) + (1 : Int32))) _ (k_cp01 hw h hz p fa0 fa1) 0 rfl (Nat.le_of_eq rfl) (by decide) (by decide) (by decide) (by decide) rfl ?_
  rintro z1 h2 ⟨a4, rfl, g5, K3, f6, f7⟩
  have ne8 : p ≠ a4 := Nat.ne_of_lt (Nat.lt_of_lt_of_le fa0.lt g5)
  have ne9 : q ≠ a4 := Nat.ne_of_lt (Nat.lt_of_lt_of_le fa2.lt g5)
  have ge10 : Z.heap.size ≤ a4 := Nat.le_trans hz g5
  have fr11 : h.size ≤ a4 := Nat.le_trans kp0.1 g5
  have f12 : Arj Z h2 p [] := fa0.keep K3 nin0
  have f13 : Exa Z h2 p "[J" := fa1.keep K3
  have f14 : Arj Z h2 q [dt0] := fa2.keep K3 nin0
  have zs15 : Z.heap.size ≤ h2.size := Nat.le_trans hz K3.1
  have kp16 : Keep h h2 [] := kp0.trans K3 all0
  refine Go.astore_n 10 #[.val (.ref p), .val (.ref q), .val (.ref a4)] d21_9 rfl rfl rfl ?_
  refine Go.aload_n 11 d21_10 rfl rfl rfl ?_
  refine Go.iconst 12 (0) d21_11 (by decide) rfl ?_
  refine Go.aload_n 13 d21_12 rfl rfl rfl ?_
  refine Go.aload_n 14 d21_13 rfl rfl rfl ?_
  refine Go.arraylengthJ (z := (0 : Int32)) 15 d21_14 f12 (by decide : Nat.toInt32 0 = (0 : Int32)) rfl ?_
  refine Go.aload_n 16 d21_15 rfl rfl rfl ?_
  refine Go.arraylengthJ (z := (1 : Int32)) 17 d21_16 f14 (by decide : Nat.toInt32 1 = (1 : Int32)) rfl ?_
  refine Go.arraycopyJ (W := 0) 0 0 1 20 d21_17 (tw161 hw) (tw160 hw) (tw158 hw) (tw159 hw) f14 f6 (by decide) (by decide) (by decide) (by decide) (by decide) (by decide) (by decide : 0 + 1 ≤ 1) (by decide : 0 + 1 ≤ 1) (ys' := [dt0]) rfl ge10 rfl (by decide) (Nat.le_of_eq rfl) (by decide) rfl (fun h17 K18 A19 => ?_)
  have f20 : Arj Z h17 p [] := f12.keep K18 (ninS ne8 nin0)
  have f21 : Exa Z h17 p "[J" := f13.keep K18
  have f22 : Arj Z h17 q [dt0] := f14.keep K18 (ninS ne9 nin0)
  have f23 : Exa Z h17 a4 "[J" := f7.keep K18
  have zs24 : Z.heap.size ≤ h17.size := Nat.le_trans zs15 K18.1
  have kp25 : Keep h h17 [] := kp16.trans K18 (allS (Or.inr fr11) all0)
  refine Go.aload_n 21 d21_20 rfl rfl rfl ?_
  refine Go.callSV [.ref a4] [] 24 d21_21 (tw162 hw) (tw163 hw) (tw28 hw) (tw164 hw) pl24 (by decide) (lenOf pd24 rfl) rfl (fun m => ef_k_s1_217 m a4) _ (k_s1_217 hw h17 zs24 a4 A19 ge10) 0 rfl (Nat.le_of_eq rfl) (by decide) (by decide) (by decide) (by decide) rfl ?_
  rintro h27 ⟨K28, f29⟩
  have f30 : Arj Z h27 p [] := f20.keep K28 (ninS ne8 nin0)
  have f31 : Exa Z h27 p "[J" := f21.keep K28
  have f32 : Arj Z h27 q [dt0] := f22.keep K28 (ninS ne9 nin0)
  have f33 : Exa Z h27 a4 "[J" := f23.keep K28
  have zs34 : Z.heap.size ≤ h27.size := Nat.le_trans zs24 K28.1
  have kp35 : Keep h h27 [] := kp25.trans K28 (allS (Or.inr fr11) all0)
  refine Go.aload_n 25 d21_24 rfl rfl rfl ?_
  refine Go.areturn d21_25 rfl rfl rfl (by decide) (by decide) ?_
  exact ⟨a4, rfl, fr11, kp35, f29, f33⟩

theorem ef_k_mg10 (m : MethodId) (x0 : Addr) (x1 : Addr) : entryFrame m #[(.ref x0), (.ref x1)] 3 = mkF m 0 #[.val (.ref x0), .val (.ref x1), .unset] [] := by first | (simp [entryFrame, mkF, argsToLocals, Value.category]; done) | rfl

set_option maxRecDepth 65536 in
set_option maxHeartbeats 40000000 in
theorem k_mg10 {l : Launch} {Z : State} {a0 : Array Value} (hw : ∀ d ∈ tables_1, d.before a0 Z = true) {ct0 : Int64} (h : Heap) (hz : Z.heap.size ≤ h.size) (p : Addr) (q : Addr) (fa0 : Arj Z h p [ct0]) (fa1 : Exa Z h p "[J") (fa2 : Arj Z h q [])    : Go l Z (⟨"com/example/interlace/interlace/engine/Floors", "merged", "([J[J)[J"⟩ : MethodName) prog_34_method_7_code 3 (Option.some (Jvm.ClassFile.FieldType.array Jvm.ClassFile.FieldType.long)) ({ frames := 4, cells := 1, slots := 2, locals := 100 } : Room) (QR fun rz h' => ∃ r : Addr, rz = .ref r ∧ h.size ≤ r ∧ Keep h h' [] ∧ Arj Z h' r [ct0] ∧ Exa Z h' r "[J") 0 0 h 0 #[.val (.ref p), .val (.ref q), .unset] [] := by
  have kp0 : Keep h h [] := Keep.refl _ _
  refine Go.aload_n 1 d21_0 rfl rfl rfl ?_
  refine Go.aload_n 2 d21_1 rfl rfl rfl ?_
  refine Go.arraylengthJ (z := (1 : Int32)) 3 d21_2 fa0 (by decide : Nat.toInt32 1 = (1 : Int32)) rfl ?_
  refine Go.aload_n 4 d21_3 rfl rfl rfl ?_
  refine Go.arraylengthJ (z := (0 : Int32)) 5 d21_4 fa2 (by decide : Nat.toInt32 0 = (0 : Int32)) rfl ?_
  refine Go.iadd 6 d21_5 rfl ?_
  refine Go.callSR [.ref p, .int ((1 : Int32) + (0 : Int32))] [] 9 d21_6 (tw150 hw) (tw151 hw) (tw28 hw) (tw152 hw) pl22 (by decide) (lenOf pd22 rfl) rfl (fun m => ef_k_cp11 m p ((1 : Int32) + (0 : Int32))) _ (k_cp11 hw h hz p fa0 fa1) 0 rfl (Nat.le_of_eq rfl) (by decide) (by decide) (by decide) (by decide) rfl ?_
  rintro z1 h2 ⟨a4, rfl, g5, K3, f6, f7⟩
  have ne8 : p ≠ a4 := Nat.ne_of_lt (Nat.lt_of_lt_of_le fa0.lt g5)
  have ne9 : q ≠ a4 := Nat.ne_of_lt (Nat.lt_of_lt_of_le fa2.lt g5)
  have ge10 : Z.heap.size ≤ a4 := Nat.le_trans hz g5
  have fr11 : h.size ≤ a4 := Nat.le_trans kp0.1 g5
  have f12 : Arj Z h2 p [ct0] := fa0.keep K3 nin0
  have f13 : Exa Z h2 p "[J" := fa1.keep K3
  have f14 : Arj Z h2 q [] := fa2.keep K3 nin0
  have zs15 : Z.heap.size ≤ h2.size := Nat.le_trans hz K3.1
  have kp16 : Keep h h2 [] := kp0.trans K3 all0
  refine Go.astore_n 10 #[.val (.ref p), .val (.ref q), .val (.ref a4)] d21_9 rfl rfl rfl ?_
  refine Go.aload_n 11 d21_10 rfl rfl rfl ?_
  refine Go.iconst 12 (0) d21_11 (by decide) rfl ?_
  refine Go.aload_n 13 d21_12 rfl rfl rfl ?_
  refine Go.aload_n 14 d21_13 rfl rfl rfl ?_
  refine Go.arraylengthJ (z := (1 : Int32)) 15 d21_14 f12 (by decide : Nat.toInt32 1 = (1 : Int32)) rfl ?_
  refine Go.aload_n 16 d21_15 rfl rfl rfl ?_
  refine Go.arraylengthJ (z := (0 : Int32)) 17 d21_16 f14 (by decide : Nat.toInt32 0 = (0 : Int32)) rfl ?_
  refine Go.arraycopyJ (W := 0) 0 1 0 20 d21_17 (tw161 hw) (tw160 hw) (tw158 hw) (tw159 hw) f14 f6 (by decide) (by decide) (by decide) (by decide) (by decide) (by decide) (by decide : 0 + 0 ≤ 0) (by decide : 1 + 0 ≤ 1) (ys' := [ct0]) rfl ge10 rfl (by decide) (Nat.le_of_eq rfl) (by decide) rfl (fun h17 K18 A19 => ?_)
  have f20 : Arj Z h17 p [ct0] := f12.keep K18 (ninS ne8 nin0)
  have f21 : Exa Z h17 p "[J" := f13.keep K18
  have f22 : Arj Z h17 q [] := f14.keep K18 (ninS ne9 nin0)
  have f23 : Exa Z h17 a4 "[J" := f7.keep K18
  have zs24 : Z.heap.size ≤ h17.size := Nat.le_trans zs15 K18.1
  have kp25 : Keep h h17 [] := kp16.trans K18 (allS (Or.inr fr11) all0)
  refine Go.aload_n 21 d21_20 rfl rfl rfl ?_
  refine Go.callSV [.ref a4] [] 24 d21_21 (tw162 hw) (tw163 hw) (tw28 hw) (tw164 hw) pl24 (by decide) (lenOf pd24 rfl) rfl (fun m => ef_k_s1_217 m a4) _ (k_s1_217 hw h17 zs24 a4 A19 ge10) 0 rfl (Nat.le_of_eq rfl) (by decide) (by decide) (by decide) (by decide) rfl ?_
  rintro h27 ⟨K28, f29⟩
  have f30 : Arj Z h27 p [ct0] := f20.keep K28 (ninS ne8 nin0)
  have f31 : Exa Z h27 p "[J" := f21.keep K28
  have f32 : Arj Z h27 q [] := f22.keep K28 (ninS ne9 nin0)
  have f33 : Exa Z h27 a4 "[J" := f23.keep K28
  have zs34 : Z.heap.size ≤ h27.size := Nat.le_trans zs24 K28.1
  have kp35 : Keep h h27 [] := kp25.trans K28 (allS (Or.inr fr11) all0)
  refine Go.aload_n 25 d21_24 rfl rfl rfl ?_
  refine Go.areturn d21_25 rfl rfl rfl (by decide) (by decide) ?_
  exact ⟨a4, rfl, fr11, kp35, f29, f33⟩

theorem ef_k_mg11 (m : MethodId) (x0 : Addr) (x1 : Addr) : entryFrame m #[(.ref x0), (.ref x1)] 3 = mkF m 0 #[.val (.ref x0), .val (.ref x1), .unset] [] := by first | (simp [entryFrame, mkF, argsToLocals, Value.category]; done) | rfl

set_option maxRecDepth 65536 in
set_option maxHeartbeats 40000000 in
theorem k_mg11 {l : Launch} {Z : State} {a0 : Array Value} (hw : ∀ d ∈ tables_1, d.before a0 Z = true) {ct0 : Int64} {dt0 : Int64} (h : Heap) (hz : Z.heap.size ≤ h.size) (p : Addr) (q : Addr) (fa0 : Arj Z h p [ct0]) (fa1 : Exa Z h p "[J") (fa2 : Arj Z h q [dt0])    : Go l Z (⟨"com/example/interlace/interlace/engine/Floors", "merged", "([J[J)[J"⟩ : MethodName) prog_34_method_7_code 3 (Option.some (Jvm.ClassFile.FieldType.array Jvm.ClassFile.FieldType.long)) ({ frames := 4, cells := 1, slots := 2, locals := 100 } : Room) (QR fun rz h' => ∃ r : Addr, rz = .ref r ∧ h.size ≤ r ∧ Keep h h' [] ∧ Arj Z h' r [(if dt0 < ct0 then dt0 else ct0), (if dt0 < ct0 then ct0 else dt0)] ∧ Exa Z h' r "[J") 0 0 h 0 #[.val (.ref p), .val (.ref q), .unset] [] := by
  have kp0 : Keep h h [] := Keep.refl _ _
  refine Go.aload_n 1 d21_0 rfl rfl rfl ?_
  refine Go.aload_n 2 d21_1 rfl rfl rfl ?_
  refine Go.arraylengthJ (z := (1 : Int32)) 3 d21_2 fa0 (by decide : Nat.toInt32 1 = (1 : Int32)) rfl ?_
  refine Go.aload_n 4 d21_3 rfl rfl rfl ?_
  refine Go.arraylengthJ (z := (1 : Int32)) 5 d21_4 fa2 (by decide : Nat.toInt32 1 = (1 : Int32)) rfl ?_
  refine Go.iadd 6 d21_5 rfl ?_
  refine Go.callSR [.ref p, .int ((1 : Int32) + (1 : Int32))] [] 9 d21_6 (tw150 hw) (tw151 hw) (tw28 hw) (tw152 hw) pl22 (by decide) (lenOf pd22 rfl) rfl (fun m => ef_k_cp12 m p ((1 : Int32) + (1 : Int32))) _ (k_cp12 hw h hz p fa0 fa1) 0 rfl (Nat.le_of_eq rfl) (by decide) (by decide) (by decide) (by decide) rfl ?_
  rintro z1 h2 ⟨a4, rfl, g5, K3, f6, f7⟩
  have ne8 : p ≠ a4 := Nat.ne_of_lt (Nat.lt_of_lt_of_le fa0.lt g5)
  have ne9 : q ≠ a4 := Nat.ne_of_lt (Nat.lt_of_lt_of_le fa2.lt g5)
  have ge10 : Z.heap.size ≤ a4 := Nat.le_trans hz g5
  have fr11 : h.size ≤ a4 := Nat.le_trans kp0.1 g5
  have f12 : Arj Z h2 p [ct0] := fa0.keep K3 nin0
  have f13 : Exa Z h2 p "[J" := fa1.keep K3
  have f14 : Arj Z h2 q [dt0] := fa2.keep K3 nin0
  have zs15 : Z.heap.size ≤ h2.size := Nat.le_trans hz K3.1
  have kp16 : Keep h h2 [] := kp0.trans K3 all0
  refine Go.astore_n 10 #[.val (.ref p), .val (.ref q), .val (.ref a4)] d21_9 rfl rfl rfl ?_
  refine Go.aload_n 11 d21_10 rfl rfl rfl ?_
  refine Go.iconst 12 (0) d21_11 (by decide) rfl ?_
  refine Go.aload_n 13 d21_12 rfl rfl rfl ?_
  refine Go.aload_n 14 d21_13 rfl rfl rfl ?_
  refine Go.arraylengthJ (z := (1 : Int32)) 15 d21_14 f12 (by decide : Nat.toInt32 1 = (1 : Int32)) rfl ?_
  refine Go.aload_n 16 d21_15 rfl rfl rfl ?_
  refine Go.arraylengthJ (z := (1 : Int32)) 17 d21_16 f14 (by decide : Nat.toInt32 1 = (1 : Int32)) rfl ?_
  refine Go.arraycopyJ (W := 0) 0 1 1 20 d21_17 (tw161 hw) (tw160 hw) (tw158 hw) (tw159 hw) f14 f6 (by decide) (by decide) (by decide) (by decide) (by decide) (by decide) (by decide : 0 + 1 ≤ 1) (by decide : 1 + 1 ≤ 2) (ys' := [ct0, dt0]) rfl ge10 rfl (by decide) (Nat.le_of_eq rfl) (by decide) rfl (fun h17 K18 A19 => ?_)
  have f20 : Arj Z h17 p [ct0] := f12.keep K18 (ninS ne8 nin0)
  have f21 : Exa Z h17 p "[J" := f13.keep K18
  have f22 : Arj Z h17 q [dt0] := f14.keep K18 (ninS ne9 nin0)
  have f23 : Exa Z h17 a4 "[J" := f7.keep K18
  have zs24 : Z.heap.size ≤ h17.size := Nat.le_trans zs15 K18.1
  have kp25 : Keep h h17 [] := kp16.trans K18 (allS (Or.inr fr11) all0)
  refine Go.aload_n 21 d21_20 rfl rfl rfl ?_
  refine Go.callSV [.ref a4] [] 24 d21_21 (tw162 hw) (tw163 hw) (tw28 hw) (tw164 hw) pl24 (by decide) (lenOf pd24 rfl) rfl (fun m => ef_k_s2_222 m a4) _ (k_s2_222 hw h17 zs24 a4 A19 ge10) 0 rfl (Nat.le_of_eq rfl) (by decide) (by decide) (by decide) (by decide) rfl ?_
  rintro h27 ⟨K28, f29⟩
  have f30 : Arj Z h27 p [ct0] := f20.keep K28 (ninS ne8 nin0)
  have f31 : Exa Z h27 p "[J" := f21.keep K28
  have f32 : Arj Z h27 q [dt0] := f22.keep K28 (ninS ne9 nin0)
  have f33 : Exa Z h27 a4 "[J" := f23.keep K28
  have zs34 : Z.heap.size ≤ h27.size := Nat.le_trans zs24 K28.1
  have kp35 : Keep h h27 [] := kp25.trans K28 (allS (Or.inr fr11) all0)
  refine Go.aload_n 25 d21_24 rfl rfl rfl ?_
  refine Go.areturn d21_25 rfl rfl rfl (by decide) (by decide) ?_
  exact ⟨a4, rfl, fr11, kp35, f29, f33⟩

theorem d11_0 : decode prog_34_method_4_code 0 = .ok (.aload_n 0, 1) := by decide +kernel
theorem d11_1 : decode prog_34_method_4_code 1 = .ok (.getfield 18, 3) := by decide +kernel
theorem d11_4 : decode prog_34_method_4_code 4 = .ok (.aload_n 1, 1) := by decide +kernel
theorem d11_5 : decode prog_34_method_4_code 5 = .ok (.invokevirtual 35, 3) := by decide +kernel
theorem d11_8 : decode prog_34_method_4_code 8 = .ok (.aaload, 1) := by decide +kernel
theorem d11_9 : decode prog_34_method_4_code 9 = .ok (.astore_n 2, 1) := by decide +kernel
theorem d11_10 : decode prog_34_method_4_code 10 = .ok (.aload_n 2, 1) := by decide +kernel
theorem d11_11 : decode prog_34_method_4_code 11 = .ok (.ifnonnull 47, 3) := by decide +kernel
theorem d11_14 : decode prog_34_method_4_code 14 = .ok (.getstatic 41, 3) := by decide +kernel
theorem d11_17 : decode prog_34_method_4_code 17 = .ok (.astore_n 2, 1) := by decide +kernel
theorem d11_18 : decode prog_34_method_4_code 18 = .ok (.aload_n 1, 1) := by decide +kernel
theorem d11_19 : decode prog_34_method_4_code 19 = .ok (.invokevirtual 44, 3) := by decide +kernel
theorem d11_22 : decode prog_34_method_4_code 22 = .ok (.astore_n 3, 1) := by decide +kernel
theorem d11_23 : decode prog_34_method_4_code 23 = .ok (.aload_n 3, 1) := by decide +kernel
theorem d11_24 : decode prog_34_method_4_code 24 = .ok (.ifnull 24, 3) := by decide +kernel
theorem d11_27 : decode prog_34_method_4_code 27 = .ok (.aload_n 2, 1) := by decide +kernel
theorem d11_28 : decode prog_34_method_4_code 28 = .ok (.aload_n 0, 1) := by decide +kernel
theorem d11_29 : decode prog_34_method_4_code 29 = .ok (.aload_n 3, 1) := by decide +kernel
theorem d11_30 : decode prog_34_method_4_code 30 = .ok (.invokevirtual 48, 3) := by decide +kernel
theorem d11_33 : decode prog_34_method_4_code 33 = .ok (.invokevirtual 54, 3) := by decide +kernel
theorem d11_36 : decode prog_34_method_4_code 36 = .ok (.invokestatic 58, 3) := by decide +kernel
theorem d11_39 : decode prog_34_method_4_code 39 = .ok (.astore_n 2, 1) := by decide +kernel
theorem d11_40 : decode prog_34_method_4_code 40 = .ok (.aload_n 3, 1) := by decide +kernel
theorem d11_41 : decode prog_34_method_4_code 41 = .ok (.invokevirtual 62, 3) := by decide +kernel
theorem d11_44 : decode prog_34_method_4_code 44 = .ok (.astore_n 3, 1) := by decide +kernel
theorem d11_45 : decode prog_34_method_4_code 45 = .ok (.goto (-22), 3) := by decide +kernel
theorem d11_48 : decode prog_34_method_4_code 48 = .ok (.aload_n 0, 1) := by decide +kernel
theorem d11_49 : decode prog_34_method_4_code 49 = .ok (.getfield 18, 3) := by decide +kernel
theorem d11_52 : decode prog_34_method_4_code 52 = .ok (.aload_n 1, 1) := by decide +kernel
theorem d11_53 : decode prog_34_method_4_code 53 = .ok (.invokevirtual 35, 3) := by decide +kernel
theorem d11_56 : decode prog_34_method_4_code 56 = .ok (.aload_n 2, 1) := by decide +kernel
theorem d11_57 : decode prog_34_method_4_code 57 = .ok (.aastore, 1) := by decide +kernel
theorem d11_58 : decode prog_34_method_4_code 58 = .ok (.aload_n 2, 1) := by decide +kernel
theorem d11_59 : decode prog_34_method_4_code 59 = .ok (.areturn, 1) := by decide +kernel

theorem pd11 : parseMethodDescriptor "(Lcom/example/interlace/interlace/engine/Plan$Bind;)[J" = some ⟨[(.object "com/example/interlace/interlace/engine/Plan$Bind")], some (.array .long)⟩ := by decide +kernel
theorem pl11 : plainFor (⟨"com/example/interlace/interlace/engine/Floors", "restAfter", "(Lcom/example/interlace/interlace/engine/Plan$Bind;)[J"⟩ : MethodName) = true := by first | exact plainFor_of_name (by first | (simp [plainName, overriddenIn]; done) | decide +kernel) | decide +kernel

theorem ef_k_ra00 (m : MethodId) (x0 : Addr) (x1 : Addr) : entryFrame m #[(.ref x0), (.ref x1)] 4 = mkF m 0 #[.val (.ref x0), .val (.ref x1), .unset, .unset] [] := by first | (simp [entryFrame, mkF, argsToLocals, Value.category]; done) | rfl

set_option maxRecDepth 65536 in
set_option maxHeartbeats 40000000 in
theorem k_ra00 {l : Launch} {Z : State} {a0 : Array Value} (hw : ∀ d ∈ tables_1, d.before a0 Z = true) {x : Addr} {y : Addr} {z : Addr} {q0 : Addr} {q1 : Addr} {l0 : Addr} {l1 : Addr} {nn : Addr} {f0 : Int64} {f1 : Int64} (h : Heap) (hz : Z.heap.size ≤ h.size) (a : Addr) (e : Addr) (fa0 : Exa Z h a "com/example/interlace/interlace/engine/Floors") (fa1 : Fld Z h a "com/example/interlace/interlace/engine/Floors" "floors" "[J" (.ref x)) (fa2 : Fld Z h a "com/example/interlace/interlace/engine/Floors" "hasFloor" "[Z" (.ref y)) (fa3 : Fld Z h a "com/example/interlace/interlace/engine/Floors" "rests" "[[J" (.ref z)) (fa4 : Arj Z h x [f0, f1]) (fa5 : Ari Z h y .boolean [(0 : Int32), (0 : Int32)]) (fa6 : Arz Z h z .long "[J" [.null, .null]) (fa7 : Exa Z h e "com/example/interlace/interlace/engine/Plan$Bind") (fa8 : Fld Z h e "com/example/interlace/interlace/engine/Plan$Bind" "variable" "I" (.int (0 : Int32))) (fa9 : Fld Z h e "com/example/interlace/interlace/engine/Plan$Bind" "required" "Lcom/example/interlace/interlace/engine/Plan$Required;" (.ref q0)) (fa10 : Exa Z h q0 "com/example/interlace/interlace/engine/Plan$Required") (fa11 : Fld Z h q0 "com/example/interlace/interlace/engine/Plan$Required" "operand" "Lcom/example/interlace/interlace/pattern/Structure;" (.ref l0)) (fa12 : Fld Z h q0 "com/example/interlace/interlace/engine/Plan$Required" "rest" "Lcom/example/interlace/interlace/engine/Plan$Required;" (.ref q1)) (fa13 : Exa Z h q1 "com/example/interlace/interlace/engine/Plan$Required") (fa14 : Fld Z h q1 "com/example/interlace/interlace/engine/Plan$Required" "operand" "Lcom/example/interlace/interlace/pattern/Structure;" (.ref l1)) (fa15 : Fld Z h q1 "com/example/interlace/interlace/engine/Plan$Required" "rest" "Lcom/example/interlace/interlace/engine/Plan$Required;" (.null)) (fa16 : Exa Z h l0 "com/example/interlace/interlace/pattern/Structure$Leaf") (fa17 : Fld Z h l0 "com/example/interlace/interlace/pattern/Structure$Leaf" "variable" "I" (.int (0 : Int32))) (fa18 : Exa Z h l1 "com/example/interlace/interlace/pattern/Structure$Leaf") (fa19 : Fld Z h l1 "com/example/interlace/interlace/pattern/Structure$Leaf" "variable" "I" (.int (1 : Int32))) (fa20 : Sta Z h "com/example/interlace/interlace/engine/Floors" "NONE" "[J" (.ref nn)) (fa21 : Arj Z h nn []) (fa22 : Exa Z h nn "[J")  (ge_z : Z.heap.size ≤ z) (n_a_z : a ≠ z) (n_x_z : x ≠ z) (n_y_z : y ≠ z) (n_e_z : e ≠ z) (n_q0_z : q0 ≠ z) (n_q1_z : q1 ≠ z) (n_l0_z : l0 ≠ z) (n_l1_z : l1 ≠ z) (n_nn_z : nn ≠ z) : Go l Z (⟨"com/example/interlace/interlace/engine/Floors", "restAfter", "(Lcom/example/interlace/interlace/engine/Plan$Bind;)[J"⟩ : MethodName) prog_34_method_4_code 4 (Option.some (Jvm.ClassFile.FieldType.array Jvm.ClassFile.FieldType.long)) ({ frames := 5, cells := 10, slots := 80, locals := 130 } : Room) (QR fun rz h' => ∃ r : Addr, rz = .ref r ∧ h.size ≤ r ∧ Keep h h' [z] ∧ Arj Z h' r [] ∧ Exa Z h' r "[J") 0 0 h 0 #[.val (.ref a), .val (.ref e), .unset, .unset] [] := by
  have kp0 : Keep h h [z] := Keep.refl _ _
  refine Go.aload_n 1 d11_0 rfl rfl rfl ?_
  refine Go.getfield 4 d11_1 (tw17 hw) fa3 rfl ?_
  refine Go.aload_n 5 d11_4 rfl rfl rfl ?_
  refine Go.callVIp [] [.ref z] 8 d11_5 (tw85 hw) (tw86 hw) (tw88 hw) (tw87 hw) (tw67 hw) (tw89 hw) fa7 pl12 (by decide) (lenOf pd12 rfl) rfl (fun m => ef_k_bv m e) _ (k_bv hw h hz e fa8) 1 rfl (Nat.le_of_eq rfl) (by decide) (by decide) (by decide) (by decide) rfl ?_
  refine Go.zzload (x := .null) (0) 9 d11_8 fa6 (by decide) (by decide) rfl rfl ?_
  refine Go.astore_n 10 #[.val (.ref a), .val (.ref e), .val (.null), .unset] d11_9 rfl rfl rfl ?_
  refine Go.aload_n 11 d11_10 rfl rfl rfl ?_
  refine Go.ifnonnull_no 14 d11_11 rfl ?_
  refine Go.getstatic 17 d11_14 (tw90 hw) fa20 rfl ?_
  refine Go.astore_n 18 #[.val (.ref a), .val (.ref e), .val (.ref nn), .unset] d11_17 rfl rfl rfl ?_
  refine Go.aload_n 19 d11_18 rfl rfl rfl ?_
  refine Go.callVRp [] [] 22 d11_19 (tw92 hw) (tw93 hw) (tw95 hw) (tw94 hw) (tw67 hw) (tw96 hw) fa7 pl13 (by decide) (lenOf pd13 rfl) rfl (fun m => ef_k_bq m e) _ (k_bq hw h hz e fa9) 0 rfl (Nat.le_of_eq rfl) (by decide) (by decide) (by decide) (by decide) rfl ?_
  refine Go.astore_n 23 #[.val (.ref a), .val (.ref e), .val (.ref nn), .val (.ref q0)] d11_22 rfl rfl rfl ?_
  refine Go.aload_n 24 d11_23 rfl rfl rfl ?_
  refine Go.ifnull_no 27 d11_24 rfl ?_
  refine Go.aload_n 28 d11_27 rfl rfl rfl ?_
  refine Go.aload_n 29 d11_28 rfl rfl rfl ?_
  refine Go.aload_n 30 d11_29 rfl rfl rfl ?_
  refine Go.callVRp [] [.ref a, .ref nn] 33 d11_30 (tw97 hw) (tw98 hw) (tw100 hw) (tw99 hw) (tw40 hw) (tw101 hw) fa10 pl14 (by decide) (lenOf pd14 rfl) rfl (fun m => ef_k_ro m q0) _ (k_ro hw h hz q0 fa11) 2 rfl (Nat.le_of_eq rfl) (by decide) (by decide) (by decide) (by decide) rfl ?_
  refine Go.callQRe [.ref l0] [.ref nn] 36 d11_33 (tw102 hw) (tw104 hw) (own_selp (tw22 hw) rfl (tw103 hw) (tw104 hw) (by decide)) (tw103 hw) (tw2 hw) (tw105 hw) fa0 pl15 (by decide) (lenOf pd15 rfl) rfl (fun m => ef_k_lea00 m a l0) _ _ (k_lea00 hw h hz a l0 fa0 fa1 fa2 fa4 fa5 fa16 fa17 fa20 fa21 fa22) 1 rfl (Nat.le_of_eq rfl) (by decide) (by decide) (by decide) (by decide) rfl ?_
  rintro h11 K12
  have f13 : Exa Z h11 a "com/example/interlace/interlace/engine/Floors" := fa0.keep K12
  have f14 : Fld Z h11 a "com/example/interlace/interlace/engine/Floors" "floors" "[J" (.ref x) := fa1.keep K12 nin0
  have f15 : Fld Z h11 a "com/example/interlace/interlace/engine/Floors" "hasFloor" "[Z" (.ref y) := fa2.keep K12 nin0
  have f16 : Fld Z h11 a "com/example/interlace/interlace/engine/Floors" "rests" "[[J" (.ref z) := fa3.keep K12 nin0
  have f17 : Arj Z h11 x [f0, f1] := fa4.keep K12 nin0
  have f18 : Ari Z h11 y .boolean [(0 : Int32), (0 : Int32)] := fa5.keep K12 nin0
  have f19 : Arz Z h11 z .long "[J" [.null, .null] := fa6.keep K12 nin0
  have f20 : Exa Z h11 e "com/example/interlace/interlace/engine/Plan$Bind" := fa7.keep K12
  have f21 : Fld Z h11 e "com/example/interlace/interlace/engine/Plan$Bind" "variable" "I" (.int (0 : Int32)) := fa8.keep K12 nin0
  have f22 : Fld Z h11 e "com/example/interlace/interlace/engine/Plan$Bind" "required" "Lcom/example/interlace/interlace/engine/Plan$Required;" (.ref q0) := fa9.keep K12 nin0
  have f23 : Exa Z h11 q0 "com/example/interlace/interlace/engine/Plan$Required" := fa10.keep K12
  have f24 : Fld Z h11 q0 "com/example/interlace/interlace/engine/Plan$Required" "operand" "Lcom/example/interlace/interlace/pattern/Structure;" (.ref l0) := fa11.keep K12 nin0
  have f25 : Fld Z h11 q0 "com/example/interlace/interlace/engine/Plan$Required" "rest" "Lcom/example/interlace/interlace/engine/Plan$Required;" (.ref q1) := fa12.keep K12 nin0
  have f26 : Exa Z h11 q1 "com/example/interlace/interlace/engine/Plan$Required" := fa13.keep K12
  have f27 : Fld Z h11 q1 "com/example/interlace/interlace/engine/Plan$Required" "operand" "Lcom/example/interlace/interlace/pattern/Structure;" (.ref l1) := fa14.keep K12 nin0
  have f28 : Fld Z h11 q1 "com/example/interlace/interlace/engine/Plan$Required" "rest" "Lcom/example/interlace/interlace/engine/Plan$Required;" (.null) := fa15.keep K12 nin0
  have f29 : Exa Z h11 l0 "com/example/interlace/interlace/pattern/Structure$Leaf" := fa16.keep K12
  have f30 : Fld Z h11 l0 "com/example/interlace/interlace/pattern/Structure$Leaf" "variable" "I" (.int (0 : Int32)) := fa17.keep K12 nin0
  have f31 : Exa Z h11 l1 "com/example/interlace/interlace/pattern/Structure$Leaf" := fa18.keep K12
  have f32 : Fld Z h11 l1 "com/example/interlace/interlace/pattern/Structure$Leaf" "variable" "I" (.int (1 : Int32)) := fa19.keep K12 nin0
  have f33 : Sta Z h11 "com/example/interlace/interlace/engine/Floors" "NONE" "[J" (.ref nn) := own_staK fa20 K12 all0
  have f34 : Arj Z h11 nn [] := fa21.keep K12 nin0
  have f35 : Exa Z h11 nn "[J" := fa22.keep K12
  have zs36 : Z.heap.size ≤ h11.size := Nat.le_trans hz K12.1
  have kp37 : Keep h h11 [z] := kp0.trans K12 all0
  refine Go.callSR [.ref nn, .ref nn] [] 39 d11_36 (tw147 hw) (tw148 hw) (tw2 hw) (tw149 hw) pl21 (by decide) (lenOf pd21 rfl) rfl (fun m => ef_k_mg00 m nn nn) _ (k_mg00 hw h11 zs36 nn nn f34 f35 f34) 0 rfl (Nat.le_of_eq rfl) (by decide) (by decide) (by decide) (by decide) rfl ?_
  rintro z38 h39 ⟨a41, rfl, g42, K40, f43, f44⟩
  have ne45 : a ≠ a41 := Nat.ne_of_lt (Nat.lt_of_lt_of_le f13.lt g42)
  have ne46 : x ≠ a41 := Nat.ne_of_lt (Nat.lt_of_lt_of_le f17.lt g42)
  have ne47 : y ≠ a41 := Nat.ne_of_lt (Nat.lt_of_lt_of_le f18.lt g42)
  have ne48 : z ≠ a41 := Nat.ne_of_lt (Nat.lt_of_lt_of_le f19.lt g42)
  have ne49 : e ≠ a41 := Nat.ne_of_lt (Nat.lt_of_lt_of_le f20.lt g42)
  have ne50 : q0 ≠ a41 := Nat.ne_of_lt (Nat.lt_of_lt_of_le f23.lt g42)
  have ne51 : q1 ≠ a41 := Nat.ne_of_lt (Nat.lt_of_lt_of_le f26.lt g42)
  have ne52 : l0 ≠ a41 := Nat.ne_of_lt (Nat.lt_of_lt_of_le f29.lt g42)
  have ne53 : l1 ≠ a41 := Nat.ne_of_lt (Nat.lt_of_lt_of_le f31.lt g42)
  have ne54 : nn ≠ a41 := Nat.ne_of_lt (Nat.lt_of_lt_of_le f34.lt g42)
  have ge55 : Z.heap.size ≤ a41 := Nat.le_trans zs36 g42
  have fr56 : h.size ≤ a41 := Nat.le_trans kp37.1 g42
  have f57 : Exa Z h39 a "com/example/interlace/interlace/engine/Floors" := f13.keep K40
  have f58 : Fld Z h39 a "com/example/interlace/interlace/engine/Floors" "floors" "[J" (.ref x) := f14.keep K40 nin0
  have f59 : Fld Z h39 a "com/example/interlace/interlace/engine/Floors" "hasFloor" "[Z" (.ref y) := f15.keep K40 nin0
  have f60 : Fld Z h39 a "com/example/interlace/interlace/engine/Floors" "rests" "[[J" (.ref z) := f16.keep K40 nin0
  have f61 : Arj Z h39 x [f0, f1] := f17.keep K40 nin0
  have f62 : Ari Z h39 y .boolean [(0 : Int32), (0 : Int32)] := f18.keep K40 nin0
  have f63 : Arz Z h39 z .long "[J" [.null, .null] := f19.keep K40 nin0
  have f64 : Exa Z h39 e "com/example/interlace/interlace/engine/Plan$Bind" := f20.keep K40
  have f65 : Fld Z h39 e "com/example/interlace/interlace/engine/Plan$Bind" "variable" "I" (.int (0 : Int32)) := f21.keep K40 nin0
  have f66 : Fld Z h39 e "com/example/interlace/interlace/engine/Plan$Bind" "required" "Lcom/example/interlace/interlace/engine/Plan$Required;" (.ref q0) := f22.keep K40 nin0
  have f67 : Exa Z h39 q0 "com/example/interlace/interlace/engine/Plan$Required" := f23.keep K40
  have f68 : Fld Z h39 q0 "com/example/interlace/interlace/engine/Plan$Required" "operand" "Lcom/example/interlace/interlace/pattern/Structure;" (.ref l0) := f24.keep K40 nin0
  have f69 : Fld Z h39 q0 "com/example/interlace/interlace/engine/Plan$Required" "rest" "Lcom/example/interlace/interlace/engine/Plan$Required;" (.ref q1) := f25.keep K40 nin0
  have f70 : Exa Z h39 q1 "com/example/interlace/interlace/engine/Plan$Required" := f26.keep K40
  have f71 : Fld Z h39 q1 "com/example/interlace/interlace/engine/Plan$Required" "operand" "Lcom/example/interlace/interlace/pattern/Structure;" (.ref l1) := f27.keep K40 nin0
  have f72 : Fld Z h39 q1 "com/example/interlace/interlace/engine/Plan$Required" "rest" "Lcom/example/interlace/interlace/engine/Plan$Required;" (.null) := f28.keep K40 nin0
  have f73 : Exa Z h39 l0 "com/example/interlace/interlace/pattern/Structure$Leaf" := f29.keep K40
  have f74 : Fld Z h39 l0 "com/example/interlace/interlace/pattern/Structure$Leaf" "variable" "I" (.int (0 : Int32)) := f30.keep K40 nin0
  have f75 : Exa Z h39 l1 "com/example/interlace/interlace/pattern/Structure$Leaf" := f31.keep K40
  have f76 : Fld Z h39 l1 "com/example/interlace/interlace/pattern/Structure$Leaf" "variable" "I" (.int (1 : Int32)) := f32.keep K40 nin0
  have f77 : Sta Z h39 "com/example/interlace/interlace/engine/Floors" "NONE" "[J" (.ref nn) := own_staK f33 K40 all0
  have f78 : Arj Z h39 nn [] := f34.keep K40 nin0
  have f79 : Exa Z h39 nn "[J" := f35.keep K40
  have zs80 : Z.heap.size ≤ h39.size := Nat.le_trans zs36 K40.1
  have kp81 : Keep h h39 [z] := kp37.trans K40 all0
  refine Go.astore_n 40 #[.val (.ref a), .val (.ref e), .val (.ref a41), .val (.ref q0)] d11_39 rfl rfl rfl ?_
  refine Go.aload_n 41 d11_40 rfl rfl rfl ?_
  refine Go.callVRp [] [] 44 d11_41 (tw175 hw) (tw176 hw) (tw178 hw) (tw177 hw) (tw40 hw) (tw179 hw) f67 pl28 (by decide) (lenOf pd28 rfl) rfl (fun m => ef_k_rrA m q0) _ (k_rrA hw h39 zs80 q0 f69) 0 rfl (Nat.le_of_eq rfl) (by decide) (by decide) (by decide) (by decide) rfl ?_
  refine Go.astore_n 45 #[.val (.ref a), .val (.ref e), .val (.ref a41), .val (.ref q1)] d11_44 rfl rfl rfl ?_
  refine Go.goto 23 d11_45 (by decide) (by decide) ?_
  refine Go.aload_n 24 d11_23 rfl rfl rfl ?_
  refine Go.ifnull_no 27 d11_24 rfl ?_
  refine Go.aload_n 28 d11_27 rfl rfl rfl ?_
  refine Go.aload_n 29 d11_28 rfl rfl rfl ?_
  refine Go.aload_n 30 d11_29 rfl rfl rfl ?_
  refine Go.callVRp [] [.ref a, .ref a41] 33 d11_30 (tw97 hw) (tw98 hw) (tw100 hw) (tw99 hw) (tw40 hw) (tw101 hw) f70 pl14 (by decide) (lenOf pd14 rfl) rfl (fun m => ef_k_ro m q1) _ (k_ro hw h39 zs80 q1 f71) 2 rfl (Nat.le_of_eq rfl) (by decide) (by decide) (by decide) (by decide) rfl ?_
  refine Go.callQRe [.ref l1] [.ref a41] 36 d11_33 (tw102 hw) (tw104 hw) (own_selp (tw22 hw) rfl (tw103 hw) (tw104 hw) (by decide)) (tw103 hw) (tw2 hw) (tw105 hw) f57 pl15 (by decide) (lenOf pd15 rfl) rfl (fun m => ef_k_lea10 m a l1) _ _ (k_lea10 hw h39 zs80 a l1 f57 f58 f59 f61 f62 f75 f76 f77 f78 f79) 1 rfl (Nat.le_of_eq rfl) (by decide) (by decide) (by decide) (by decide) rfl ?_
  rintro h89 K90
  have f91 : Exa Z h89 a "com/example/interlace/interlace/engine/Floors" := f57.keep K90
  have f92 : Fld Z h89 a "com/example/interlace/interlace/engine/Floors" "floors" "[J" (.ref x) := f58.keep K90 nin0
  have f93 : Fld Z h89 a "com/example/interlace/interlace/engine/Floors" "hasFloor" "[Z" (.ref y) := f59.keep K90 nin0
  have f94 : Fld Z h89 a "com/example/interlace/interlace/engine/Floors" "rests" "[[J" (.ref z) := f60.keep K90 nin0
  have f95 : Arj Z h89 x [f0, f1] := f61.keep K90 nin0
  have f96 : Ari Z h89 y .boolean [(0 : Int32), (0 : Int32)] := f62.keep K90 nin0
  have f97 : Arz Z h89 z .long "[J" [.null, .null] := f63.keep K90 nin0
  have f98 : Exa Z h89 e "com/example/interlace/interlace/engine/Plan$Bind" := f64.keep K90
  have f99 : Fld Z h89 e "com/example/interlace/interlace/engine/Plan$Bind" "variable" "I" (.int (0 : Int32)) := f65.keep K90 nin0
  have f100 : Fld Z h89 e "com/example/interlace/interlace/engine/Plan$Bind" "required" "Lcom/example/interlace/interlace/engine/Plan$Required;" (.ref q0) := f66.keep K90 nin0
  have f101 : Exa Z h89 q0 "com/example/interlace/interlace/engine/Plan$Required" := f67.keep K90
  have f102 : Fld Z h89 q0 "com/example/interlace/interlace/engine/Plan$Required" "operand" "Lcom/example/interlace/interlace/pattern/Structure;" (.ref l0) := f68.keep K90 nin0
  have f103 : Fld Z h89 q0 "com/example/interlace/interlace/engine/Plan$Required" "rest" "Lcom/example/interlace/interlace/engine/Plan$Required;" (.ref q1) := f69.keep K90 nin0
  have f104 : Exa Z h89 q1 "com/example/interlace/interlace/engine/Plan$Required" := f70.keep K90
  have f105 : Fld Z h89 q1 "com/example/interlace/interlace/engine/Plan$Required" "operand" "Lcom/example/interlace/interlace/pattern/Structure;" (.ref l1) := f71.keep K90 nin0
  have f106 : Fld Z h89 q1 "com/example/interlace/interlace/engine/Plan$Required" "rest" "Lcom/example/interlace/interlace/engine/Plan$Required;" (.null) := f72.keep K90 nin0
  have f107 : Exa Z h89 l0 "com/example/interlace/interlace/pattern/Structure$Leaf" := f73.keep K90
  have f108 : Fld Z h89 l0 "com/example/interlace/interlace/pattern/Structure$Leaf" "variable" "I" (.int (0 : Int32)) := f74.keep K90 nin0
  have f109 : Exa Z h89 l1 "com/example/interlace/interlace/pattern/Structure$Leaf" := f75.keep K90
  have f110 : Fld Z h89 l1 "com/example/interlace/interlace/pattern/Structure$Leaf" "variable" "I" (.int (1 : Int32)) := f76.keep K90 nin0
  have f111 : Sta Z h89 "com/example/interlace/interlace/engine/Floors" "NONE" "[J" (.ref nn) := own_staK f77 K90 all0
  have f112 : Arj Z h89 nn [] := f78.keep K90 nin0
  have f113 : Exa Z h89 nn "[J" := f79.keep K90
  have f114 : Arj Z h89 a41 [] := f43.keep K90 nin0
  have f115 : Exa Z h89 a41 "[J" := f44.keep K90
  have zs116 : Z.heap.size ≤ h89.size := Nat.le_trans zs80 K90.1
  have kp117 : Keep h h89 [z] := kp81.trans K90 all0
  refine Go.callSR [.ref a41, .ref nn] [] 39 d11_36 (tw147 hw) (tw148 hw) (tw2 hw) (tw149 hw) pl21 (by decide) (lenOf pd21 rfl) rfl (fun m => ef_k_mg00 m a41 nn) _ (k_mg00 hw h89 zs116 a41 nn f114 f115 f112) 0 rfl (Nat.le_of_eq rfl) (by decide) (by decide) (by decide) (by decide) rfl ?_
  rintro z118 h119 ⟨a121, rfl, g122, K120, f123, f124⟩
  have ne125 : a ≠ a121 := Nat.ne_of_lt (Nat.lt_of_lt_of_le f91.lt g122)
  have ne126 : x ≠ a121 := Nat.ne_of_lt (Nat.lt_of_lt_of_le f95.lt g122)
  have ne127 : y ≠ a121 := Nat.ne_of_lt (Nat.lt_of_lt_of_le f96.lt g122)
  have ne128 : z ≠ a121 := Nat.ne_of_lt (Nat.lt_of_lt_of_le f97.lt g122)
  have ne129 : e ≠ a121 := Nat.ne_of_lt (Nat.lt_of_lt_of_le f98.lt g122)
  have ne130 : q0 ≠ a121 := Nat.ne_of_lt (Nat.lt_of_lt_of_le f101.lt g122)
  have ne131 : q1 ≠ a121 := Nat.ne_of_lt (Nat.lt_of_lt_of_le f104.lt g122)
  have ne132 : l0 ≠ a121 := Nat.ne_of_lt (Nat.lt_of_lt_of_le f107.lt g122)
  have ne133 : l1 ≠ a121 := Nat.ne_of_lt (Nat.lt_of_lt_of_le f109.lt g122)
  have ne134 : nn ≠ a121 := Nat.ne_of_lt (Nat.lt_of_lt_of_le f112.lt g122)
  have ne135 : a41 ≠ a121 := Nat.ne_of_lt (Nat.lt_of_lt_of_le f114.lt g122)
  have ge136 : Z.heap.size ≤ a121 := Nat.le_trans zs116 g122
  have fr137 : h.size ≤ a121 := Nat.le_trans kp117.1 g122
  have f138 : Exa Z h119 a "com/example/interlace/interlace/engine/Floors" := f91.keep K120
  have f139 : Fld Z h119 a "com/example/interlace/interlace/engine/Floors" "floors" "[J" (.ref x) := f92.keep K120 nin0
  have f140 : Fld Z h119 a "com/example/interlace/interlace/engine/Floors" "hasFloor" "[Z" (.ref y) := f93.keep K120 nin0
  have f141 : Fld Z h119 a "com/example/interlace/interlace/engine/Floors" "rests" "[[J" (.ref z) := f94.keep K120 nin0
  have f142 : Arj Z h119 x [f0, f1] := f95.keep K120 nin0
  have f143 : Ari Z h119 y .boolean [(0 : Int32), (0 : Int32)] := f96.keep K120 nin0
  have f144 : Arz Z h119 z .long "[J" [.null, .null] := f97.keep K120 nin0
  have f145 : Exa Z h119 e "com/example/interlace/interlace/engine/Plan$Bind" := f98.keep K120
  have f146 : Fld Z h119 e "com/example/interlace/interlace/engine/Plan$Bind" "variable" "I" (.int (0 : Int32)) := f99.keep K120 nin0
  have f147 : Fld Z h119 e "com/example/interlace/interlace/engine/Plan$Bind" "required" "Lcom/example/interlace/interlace/engine/Plan$Required;" (.ref q0) := f100.keep K120 nin0
  have f148 : Exa Z h119 q0 "com/example/interlace/interlace/engine/Plan$Required" := f101.keep K120
  have f149 : Fld Z h119 q0 "com/example/interlace/interlace/engine/Plan$Required" "operand" "Lcom/example/interlace/interlace/pattern/Structure;" (.ref l0) := f102.keep K120 nin0
  have f150 : Fld Z h119 q0 "com/example/interlace/interlace/engine/Plan$Required" "rest" "Lcom/example/interlace/interlace/engine/Plan$Required;" (.ref q1) := f103.keep K120 nin0
  have f151 : Exa Z h119 q1 "com/example/interlace/interlace/engine/Plan$Required" := f104.keep K120
  have f152 : Fld Z h119 q1 "com/example/interlace/interlace/engine/Plan$Required" "operand" "Lcom/example/interlace/interlace/pattern/Structure;" (.ref l1) := f105.keep K120 nin0
  have f153 : Fld Z h119 q1 "com/example/interlace/interlace/engine/Plan$Required" "rest" "Lcom/example/interlace/interlace/engine/Plan$Required;" (.null) := f106.keep K120 nin0
  have f154 : Exa Z h119 l0 "com/example/interlace/interlace/pattern/Structure$Leaf" := f107.keep K120
  have f155 : Fld Z h119 l0 "com/example/interlace/interlace/pattern/Structure$Leaf" "variable" "I" (.int (0 : Int32)) := f108.keep K120 nin0
  have f156 : Exa Z h119 l1 "com/example/interlace/interlace/pattern/Structure$Leaf" := f109.keep K120
  have f157 : Fld Z h119 l1 "com/example/interlace/interlace/pattern/Structure$Leaf" "variable" "I" (.int (1 : Int32)) := f110.keep K120 nin0
  have f158 : Sta Z h119 "com/example/interlace/interlace/engine/Floors" "NONE" "[J" (.ref nn) := own_staK f111 K120 all0
  have f159 : Arj Z h119 nn [] := f112.keep K120 nin0
  have f160 : Exa Z h119 nn "[J" := f113.keep K120
  have f161 : Arj Z h119 a41 [] := f114.keep K120 nin0
  have f162 : Exa Z h119 a41 "[J" := f115.keep K120
  have zs163 : Z.heap.size ≤ h119.size := Nat.le_trans zs116 K120.1
  have kp164 : Keep h h119 [z] := kp117.trans K120 all0
  refine Go.astore_n 40 #[.val (.ref a), .val (.ref e), .val (.ref a121), .val (.ref q1)] d11_39 rfl rfl rfl ?_
  refine Go.aload_n 41 d11_40 rfl rfl rfl ?_
  refine Go.callVRp [] [] 44 d11_41 (tw175 hw) (tw176 hw) (tw178 hw) (tw177 hw) (tw40 hw) (tw179 hw) f151 pl28 (by decide) (lenOf pd28 rfl) rfl (fun m => ef_k_rrN m q1) _ (k_rrN hw h119 zs163 q1 f153) 0 rfl (Nat.le_of_eq rfl) (by decide) (by decide) (by decide) (by decide) rfl ?_
  refine Go.astore_n 45 #[.val (.ref a), .val (.ref e), .val (.ref a121), .val (.null)] d11_44 rfl rfl rfl ?_
  refine Go.goto 23 d11_45 (by decide) (by decide) ?_
  refine Go.aload_n 24 d11_23 rfl rfl rfl ?_
  refine Go.ifnull_yes 48 d11_24 (by decide) (by decide) ?_
  refine Go.aload_n 49 d11_48 rfl rfl rfl ?_
  refine Go.getfield 52 d11_49 (tw17 hw) f141 rfl ?_
  refine Go.aload_n 53 d11_52 rfl rfl rfl ?_
  refine Go.callVIp [] [.ref z] 56 d11_53 (tw85 hw) (tw86 hw) (tw88 hw) (tw87 hw) (tw67 hw) (tw89 hw) f145 pl12 (by decide) (lenOf pd12 rfl) rfl (fun m => ef_k_bv m e) _ (k_bv hw h119 zs163 e f146) 1 rfl (Nat.le_of_eq rfl) (by decide) (by decide) (by decide) (by decide) rfl ?_
  refine Go.aload_n 57 d11_56 rfl rfl rfl ?_
  refine Go.zzstore (0) ([.ref a121, .null]) 58 d11_57 f144 (Or.inr ⟨_, rfl, Ins.self f124⟩) (by decide) (by decide) (by decide : (0 : Nat) < 2) rfl ge_z rfl (fun h171 W172 A173 => ?_)
  have f174 : Exa Z h171 a "com/example/interlace/interlace/engine/Floors" := f138.wr W172
  have f175 : Fld Z h171 a "com/example/interlace/interlace/engine/Floors" "floors" "[J" (.ref x) := f139.other W172 (Or.inl n_a_z)
  have f176 : Fld Z h171 a "com/example/interlace/interlace/engine/Floors" "hasFloor" "[Z" (.ref y) := f140.other W172 (Or.inl n_a_z)
  have f177 : Fld Z h171 a "com/example/interlace/interlace/engine/Floors" "rests" "[[J" (.ref z) := f141.other W172 (Or.inl n_a_z)
  have f178 : Arj Z h171 x [f0, f1] := f142.other W172 n_x_z
  have f179 : Ari Z h171 y .boolean [(0 : Int32), (0 : Int32)] := f143.other W172 n_y_z
  have f180 : Exa Z h171 e "com/example/interlace/interlace/engine/Plan$Bind" := f145.wr W172
  have f181 : Fld Z h171 e "com/example/interlace/interlace/engine/Plan$Bind" "variable" "I" (.int (0 : Int32)) := f146.other W172 (Or.inl n_e_z)
  have f182 : Fld Z h171 e "com/example/interlace/interlace/engine/Plan$Bind" "required" "Lcom/example/interlace/interlace/engine/Plan$Required;" (.ref q0) := f147.other W172 (Or.inl n_e_z)
  have f183 : Exa Z h171 q0 "com/example/interlace/interlace/engine/Plan$Required" := f148.wr W172
  have f184 : Fld Z h171 q0 "com/example/interlace/interlace/engine/Plan$Required" "operand" "Lcom/example/interlace/interlace/pattern/Structure;" (.ref l0) := f149.other W172 (Or.inl n_q0_z)
  have f185 : Fld Z h171 q0 "com/example/interlace/interlace/engine/Plan$Required" "rest" "Lcom/example/interlace/interlace/engine/Plan$Required;" (.ref q1) := f150.other W172 (Or.inl n_q0_z)
  have f186 : Exa Z h171 q1 "com/example/interlace/interlace/engine/Plan$Required" := f151.wr W172
  have f187 : Fld Z h171 q1 "com/example/interlace/interlace/engine/Plan$Required" "operand" "Lcom/example/interlace/interlace/pattern/Structure;" (.ref l1) := f152.other W172 (Or.inl n_q1_z)
  have f188 : Fld Z h171 q1 "com/example/interlace/interlace/engine/Plan$Required" "rest" "Lcom/example/interlace/interlace/engine/Plan$Required;" (.null) := f153.other W172 (Or.inl n_q1_z)
  have f189 : Exa Z h171 l0 "com/example/interlace/interlace/pattern/Structure$Leaf" := f154.wr W172
  have f190 : Fld Z h171 l0 "com/example/interlace/interlace/pattern/Structure$Leaf" "variable" "I" (.int (0 : Int32)) := f155.other W172 (Or.inl n_l0_z)
  have f191 : Exa Z h171 l1 "com/example/interlace/interlace/pattern/Structure$Leaf" := f156.wr W172
  have f192 : Fld Z h171 l1 "com/example/interlace/interlace/pattern/Structure$Leaf" "variable" "I" (.int (1 : Int32)) := f157.other W172 (Or.inl n_l1_z)
  have f193 : Sta Z h171 "com/example/interlace/interlace/engine/Floors" "NONE" "[J" (.ref nn) := f158.wr W172
  have f194 : Arj Z h171 nn [] := f159.other W172 n_nn_z
  have f195 : Exa Z h171 nn "[J" := f160.wr W172
  have f196 : Arj Z h171 a41 [] := f161.other W172 (Ne.symm ne48)
  have f197 : Exa Z h171 a41 "[J" := f162.wr W172
  have f198 : Arj Z h171 a121 [] := f123.other W172 (Ne.symm ne128)
  have f199 : Exa Z h171 a121 "[J" := f124.wr W172
  have zs200 : Z.heap.size ≤ h171.size := W172.size ▸ zs163
  have kp201 : Keep h h171 [z] := kp164.wr W172 (Or.inl (by simp))
  refine Go.aload_n 59 d11_58 rfl rfl rfl ?_
  refine Go.areturn d11_59 rfl rfl rfl (by decide) (by decide) ?_
  exact ⟨a121, rfl, fr137, kp201, f198, f199⟩

theorem ef_k_ra01 (m : MethodId) (x0 : Addr) (x1 : Addr) : entryFrame m #[(.ref x0), (.ref x1)] 4 = mkF m 0 #[.val (.ref x0), .val (.ref x1), .unset, .unset] [] := by first | (simp [entryFrame, mkF, argsToLocals, Value.category]; done) | rfl

set_option maxRecDepth 65536 in
set_option maxHeartbeats 40000000 in
theorem k_ra01 {l : Launch} {Z : State} {a0 : Array Value} (hw : ∀ d ∈ tables_1, d.before a0 Z = true) {x : Addr} {y : Addr} {z : Addr} {q0 : Addr} {q1 : Addr} {l0 : Addr} {l1 : Addr} {nn : Addr} {f0 : Int64} {f1 : Int64} (h : Heap) (hz : Z.heap.size ≤ h.size) (a : Addr) (e : Addr) (fa0 : Exa Z h a "com/example/interlace/interlace/engine/Floors") (fa1 : Fld Z h a "com/example/interlace/interlace/engine/Floors" "floors" "[J" (.ref x)) (fa2 : Fld Z h a "com/example/interlace/interlace/engine/Floors" "hasFloor" "[Z" (.ref y)) (fa3 : Fld Z h a "com/example/interlace/interlace/engine/Floors" "rests" "[[J" (.ref z)) (fa4 : Arj Z h x [f0, f1]) (fa5 : Ari Z h y .boolean [(0 : Int32), (1 : Int32)]) (fa6 : Arz Z h z .long "[J" [.null, .null]) (fa7 : Exa Z h e "com/example/interlace/interlace/engine/Plan$Bind") (fa8 : Fld Z h e "com/example/interlace/interlace/engine/Plan$Bind" "variable" "I" (.int (0 : Int32))) (fa9 : Fld Z h e "com/example/interlace/interlace/engine/Plan$Bind" "required" "Lcom/example/interlace/interlace/engine/Plan$Required;" (.ref q0)) (fa10 : Exa Z h q0 "com/example/interlace/interlace/engine/Plan$Required") (fa11 : Fld Z h q0 "com/example/interlace/interlace/engine/Plan$Required" "operand" "Lcom/example/interlace/interlace/pattern/Structure;" (.ref l0)) (fa12 : Fld Z h q0 "com/example/interlace/interlace/engine/Plan$Required" "rest" "Lcom/example/interlace/interlace/engine/Plan$Required;" (.ref q1)) (fa13 : Exa Z h q1 "com/example/interlace/interlace/engine/Plan$Required") (fa14 : Fld Z h q1 "com/example/interlace/interlace/engine/Plan$Required" "operand" "Lcom/example/interlace/interlace/pattern/Structure;" (.ref l1)) (fa15 : Fld Z h q1 "com/example/interlace/interlace/engine/Plan$Required" "rest" "Lcom/example/interlace/interlace/engine/Plan$Required;" (.null)) (fa16 : Exa Z h l0 "com/example/interlace/interlace/pattern/Structure$Leaf") (fa17 : Fld Z h l0 "com/example/interlace/interlace/pattern/Structure$Leaf" "variable" "I" (.int (0 : Int32))) (fa18 : Exa Z h l1 "com/example/interlace/interlace/pattern/Structure$Leaf") (fa19 : Fld Z h l1 "com/example/interlace/interlace/pattern/Structure$Leaf" "variable" "I" (.int (1 : Int32))) (fa20 : Sta Z h "com/example/interlace/interlace/engine/Floors" "NONE" "[J" (.ref nn)) (fa21 : Arj Z h nn []) (fa22 : Exa Z h nn "[J")  (ge_z : Z.heap.size ≤ z) (n_a_z : a ≠ z) (n_x_z : x ≠ z) (n_y_z : y ≠ z) (n_e_z : e ≠ z) (n_q0_z : q0 ≠ z) (n_q1_z : q1 ≠ z) (n_l0_z : l0 ≠ z) (n_l1_z : l1 ≠ z) (n_nn_z : nn ≠ z) : Go l Z (⟨"com/example/interlace/interlace/engine/Floors", "restAfter", "(Lcom/example/interlace/interlace/engine/Plan$Bind;)[J"⟩ : MethodName) prog_34_method_4_code 4 (Option.some (Jvm.ClassFile.FieldType.array Jvm.ClassFile.FieldType.long)) ({ frames := 5, cells := 10, slots := 80, locals := 130 } : Room) (QR fun rz h' => ∃ r : Addr, rz = .ref r ∧ h.size ≤ r ∧ Keep h h' [z] ∧ Arj Z h' r [f1] ∧ Exa Z h' r "[J") 0 0 h 0 #[.val (.ref a), .val (.ref e), .unset, .unset] [] := by
  have kp0 : Keep h h [z] := Keep.refl _ _
  refine Go.aload_n 1 d11_0 rfl rfl rfl ?_
  refine Go.getfield 4 d11_1 (tw17 hw) fa3 rfl ?_
  refine Go.aload_n 5 d11_4 rfl rfl rfl ?_
  refine Go.callVIp [] [.ref z] 8 d11_5 (tw85 hw) (tw86 hw) (tw88 hw) (tw87 hw) (tw67 hw) (tw89 hw) fa7 pl12 (by decide) (lenOf pd12 rfl) rfl (fun m => ef_k_bv m e) _ (k_bv hw h hz e fa8) 1 rfl (Nat.le_of_eq rfl) (by decide) (by decide) (by decide) (by decide) rfl ?_
  refine Go.zzload (x := .null) (0) 9 d11_8 fa6 (by decide) (by decide) rfl rfl ?_
  refine Go.astore_n 10 #[.val (.ref a), .val (.ref e), .val (.null), .unset] d11_9 rfl rfl rfl ?_
  refine Go.aload_n 11 d11_10 rfl rfl rfl ?_
  refine Go.ifnonnull_no 14 d11_11 rfl ?_
  refine Go.getstatic 17 d11_14 (tw90 hw) fa20 rfl ?_
  refine Go.astore_n 18 #[.val (.ref a), .val (.ref e), .val (.ref nn), .unset] d11_17 rfl rfl rfl ?_
  refine Go.aload_n 19 d11_18 rfl rfl rfl ?_
  refine Go.callVRp [] [] 22 d11_19 (tw92 hw) (tw93 hw) (tw95 hw) (tw94 hw) (tw67 hw) (tw96 hw) fa7 pl13 (by decide) (lenOf pd13 rfl) rfl (fun m => ef_k_bq m e) _ (k_bq hw h hz e fa9) 0 rfl (Nat.le_of_eq rfl) (by decide) (by decide) (by decide) (by decide) rfl ?_
  refine Go.astore_n 23 #[.val (.ref a), .val (.ref e), .val (.ref nn), .val (.ref q0)] d11_22 rfl rfl rfl ?_
  refine Go.aload_n 24 d11_23 rfl rfl rfl ?_
  refine Go.ifnull_no 27 d11_24 rfl ?_
  refine Go.aload_n 28 d11_27 rfl rfl rfl ?_
  refine Go.aload_n 29 d11_28 rfl rfl rfl ?_
  refine Go.aload_n 30 d11_29 rfl rfl rfl ?_
  refine Go.callVRp [] [.ref a, .ref nn] 33 d11_30 (tw97 hw) (tw98 hw) (tw100 hw) (tw99 hw) (tw40 hw) (tw101 hw) fa10 pl14 (by decide) (lenOf pd14 rfl) rfl (fun m => ef_k_ro m q0) _ (k_ro hw h hz q0 fa11) 2 rfl (Nat.le_of_eq rfl) (by decide) (by decide) (by decide) (by decide) rfl ?_
  refine Go.callQRe [.ref l0] [.ref nn] 36 d11_33 (tw102 hw) (tw104 hw) (own_selp (tw22 hw) rfl (tw103 hw) (tw104 hw) (by decide)) (tw103 hw) (tw2 hw) (tw105 hw) fa0 pl15 (by decide) (lenOf pd15 rfl) rfl (fun m => ef_k_lea00 m a l0) _ _ (k_lea00 hw h hz a l0 fa0 fa1 fa2 fa4 fa5 fa16 fa17 fa20 fa21 fa22) 1 rfl (Nat.le_of_eq rfl) (by decide) (by decide) (by decide) (by decide) rfl ?_
  rintro h11 K12
  have f13 : Exa Z h11 a "com/example/interlace/interlace/engine/Floors" := fa0.keep K12
  have f14 : Fld Z h11 a "com/example/interlace/interlace/engine/Floors" "floors" "[J" (.ref x) := fa1.keep K12 nin0
  have f15 : Fld Z h11 a "com/example/interlace/interlace/engine/Floors" "hasFloor" "[Z" (.ref y) := fa2.keep K12 nin0
  have f16 : Fld Z h11 a "com/example/interlace/interlace/engine/Floors" "rests" "[[J" (.ref z) := fa3.keep K12 nin0
  have f17 : Arj Z h11 x [f0, f1] := fa4.keep K12 nin0
  have f18 : Ari Z h11 y .boolean [(0 : Int32), (1 : Int32)] := fa5.keep K12 nin0
  have f19 : Arz Z h11 z .long "[J" [.null, .null] := fa6.keep K12 nin0
  have f20 : Exa Z h11 e "com/example/interlace/interlace/engine/Plan$Bind" := fa7.keep K12
  have f21 : Fld Z h11 e "com/example/interlace/interlace/engine/Plan$Bind" "variable" "I" (.int (0 : Int32)) := fa8.keep K12 nin0
  have f22 : Fld Z h11 e "com/example/interlace/interlace/engine/Plan$Bind" "required" "Lcom/example/interlace/interlace/engine/Plan$Required;" (.ref q0) := fa9.keep K12 nin0
  have f23 : Exa Z h11 q0 "com/example/interlace/interlace/engine/Plan$Required" := fa10.keep K12
  have f24 : Fld Z h11 q0 "com/example/interlace/interlace/engine/Plan$Required" "operand" "Lcom/example/interlace/interlace/pattern/Structure;" (.ref l0) := fa11.keep K12 nin0
  have f25 : Fld Z h11 q0 "com/example/interlace/interlace/engine/Plan$Required" "rest" "Lcom/example/interlace/interlace/engine/Plan$Required;" (.ref q1) := fa12.keep K12 nin0
  have f26 : Exa Z h11 q1 "com/example/interlace/interlace/engine/Plan$Required" := fa13.keep K12
  have f27 : Fld Z h11 q1 "com/example/interlace/interlace/engine/Plan$Required" "operand" "Lcom/example/interlace/interlace/pattern/Structure;" (.ref l1) := fa14.keep K12 nin0
  have f28 : Fld Z h11 q1 "com/example/interlace/interlace/engine/Plan$Required" "rest" "Lcom/example/interlace/interlace/engine/Plan$Required;" (.null) := fa15.keep K12 nin0
  have f29 : Exa Z h11 l0 "com/example/interlace/interlace/pattern/Structure$Leaf" := fa16.keep K12
  have f30 : Fld Z h11 l0 "com/example/interlace/interlace/pattern/Structure$Leaf" "variable" "I" (.int (0 : Int32)) := fa17.keep K12 nin0
  have f31 : Exa Z h11 l1 "com/example/interlace/interlace/pattern/Structure$Leaf" := fa18.keep K12
  have f32 : Fld Z h11 l1 "com/example/interlace/interlace/pattern/Structure$Leaf" "variable" "I" (.int (1 : Int32)) := fa19.keep K12 nin0
  have f33 : Sta Z h11 "com/example/interlace/interlace/engine/Floors" "NONE" "[J" (.ref nn) := own_staK fa20 K12 all0
  have f34 : Arj Z h11 nn [] := fa21.keep K12 nin0
  have f35 : Exa Z h11 nn "[J" := fa22.keep K12
  have zs36 : Z.heap.size ≤ h11.size := Nat.le_trans hz K12.1
  have kp37 : Keep h h11 [z] := kp0.trans K12 all0
  refine Go.callSR [.ref nn, .ref nn] [] 39 d11_36 (tw147 hw) (tw148 hw) (tw2 hw) (tw149 hw) pl21 (by decide) (lenOf pd21 rfl) rfl (fun m => ef_k_mg00 m nn nn) _ (k_mg00 hw h11 zs36 nn nn f34 f35 f34) 0 rfl (Nat.le_of_eq rfl) (by decide) (by decide) (by decide) (by decide) rfl ?_
  rintro z38 h39 ⟨a41, rfl, g42, K40, f43, f44⟩
  have ne45 : a ≠ a41 := Nat.ne_of_lt (Nat.lt_of_lt_of_le f13.lt g42)
  have ne46 : x ≠ a41 := Nat.ne_of_lt (Nat.lt_of_lt_of_le f17.lt g42)
  have ne47 : y ≠ a41 := Nat.ne_of_lt (Nat.lt_of_lt_of_le f18.lt g42)
  have ne48 : z ≠ a41 := Nat.ne_of_lt (Nat.lt_of_lt_of_le f19.lt g42)
  have ne49 : e ≠ a41 := Nat.ne_of_lt (Nat.lt_of_lt_of_le f20.lt g42)
  have ne50 : q0 ≠ a41 := Nat.ne_of_lt (Nat.lt_of_lt_of_le f23.lt g42)
  have ne51 : q1 ≠ a41 := Nat.ne_of_lt (Nat.lt_of_lt_of_le f26.lt g42)
  have ne52 : l0 ≠ a41 := Nat.ne_of_lt (Nat.lt_of_lt_of_le f29.lt g42)
  have ne53 : l1 ≠ a41 := Nat.ne_of_lt (Nat.lt_of_lt_of_le f31.lt g42)
  have ne54 : nn ≠ a41 := Nat.ne_of_lt (Nat.lt_of_lt_of_le f34.lt g42)
  have ge55 : Z.heap.size ≤ a41 := Nat.le_trans zs36 g42
  have fr56 : h.size ≤ a41 := Nat.le_trans kp37.1 g42
  have f57 : Exa Z h39 a "com/example/interlace/interlace/engine/Floors" := f13.keep K40
  have f58 : Fld Z h39 a "com/example/interlace/interlace/engine/Floors" "floors" "[J" (.ref x) := f14.keep K40 nin0
  have f59 : Fld Z h39 a "com/example/interlace/interlace/engine/Floors" "hasFloor" "[Z" (.ref y) := f15.keep K40 nin0
  have f60 : Fld Z h39 a "com/example/interlace/interlace/engine/Floors" "rests" "[[J" (.ref z) := f16.keep K40 nin0
  have f61 : Arj Z h39 x [f0, f1] := f17.keep K40 nin0
  have f62 : Ari Z h39 y .boolean [(0 : Int32), (1 : Int32)] := f18.keep K40 nin0
  have f63 : Arz Z h39 z .long "[J" [.null, .null] := f19.keep K40 nin0
  have f64 : Exa Z h39 e "com/example/interlace/interlace/engine/Plan$Bind" := f20.keep K40
  have f65 : Fld Z h39 e "com/example/interlace/interlace/engine/Plan$Bind" "variable" "I" (.int (0 : Int32)) := f21.keep K40 nin0
  have f66 : Fld Z h39 e "com/example/interlace/interlace/engine/Plan$Bind" "required" "Lcom/example/interlace/interlace/engine/Plan$Required;" (.ref q0) := f22.keep K40 nin0
  have f67 : Exa Z h39 q0 "com/example/interlace/interlace/engine/Plan$Required" := f23.keep K40
  have f68 : Fld Z h39 q0 "com/example/interlace/interlace/engine/Plan$Required" "operand" "Lcom/example/interlace/interlace/pattern/Structure;" (.ref l0) := f24.keep K40 nin0
  have f69 : Fld Z h39 q0 "com/example/interlace/interlace/engine/Plan$Required" "rest" "Lcom/example/interlace/interlace/engine/Plan$Required;" (.ref q1) := f25.keep K40 nin0
  have f70 : Exa Z h39 q1 "com/example/interlace/interlace/engine/Plan$Required" := f26.keep K40
  have f71 : Fld Z h39 q1 "com/example/interlace/interlace/engine/Plan$Required" "operand" "Lcom/example/interlace/interlace/pattern/Structure;" (.ref l1) := f27.keep K40 nin0
  have f72 : Fld Z h39 q1 "com/example/interlace/interlace/engine/Plan$Required" "rest" "Lcom/example/interlace/interlace/engine/Plan$Required;" (.null) := f28.keep K40 nin0
  have f73 : Exa Z h39 l0 "com/example/interlace/interlace/pattern/Structure$Leaf" := f29.keep K40
  have f74 : Fld Z h39 l0 "com/example/interlace/interlace/pattern/Structure$Leaf" "variable" "I" (.int (0 : Int32)) := f30.keep K40 nin0
  have f75 : Exa Z h39 l1 "com/example/interlace/interlace/pattern/Structure$Leaf" := f31.keep K40
  have f76 : Fld Z h39 l1 "com/example/interlace/interlace/pattern/Structure$Leaf" "variable" "I" (.int (1 : Int32)) := f32.keep K40 nin0
  have f77 : Sta Z h39 "com/example/interlace/interlace/engine/Floors" "NONE" "[J" (.ref nn) := own_staK f33 K40 all0
  have f78 : Arj Z h39 nn [] := f34.keep K40 nin0
  have f79 : Exa Z h39 nn "[J" := f35.keep K40
  have zs80 : Z.heap.size ≤ h39.size := Nat.le_trans zs36 K40.1
  have kp81 : Keep h h39 [z] := kp37.trans K40 all0
  refine Go.astore_n 40 #[.val (.ref a), .val (.ref e), .val (.ref a41), .val (.ref q0)] d11_39 rfl rfl rfl ?_
  refine Go.aload_n 41 d11_40 rfl rfl rfl ?_
  refine Go.callVRp [] [] 44 d11_41 (tw175 hw) (tw176 hw) (tw178 hw) (tw177 hw) (tw40 hw) (tw179 hw) f67 pl28 (by decide) (lenOf pd28 rfl) rfl (fun m => ef_k_rrA m q0) _ (k_rrA hw h39 zs80 q0 f69) 0 rfl (Nat.le_of_eq rfl) (by decide) (by decide) (by decide) (by decide) rfl ?_
  refine Go.astore_n 45 #[.val (.ref a), .val (.ref e), .val (.ref a41), .val (.ref q1)] d11_44 rfl rfl rfl ?_
  refine Go.goto 23 d11_45 (by decide) (by decide) ?_
  refine Go.aload_n 24 d11_23 rfl rfl rfl ?_
  refine Go.ifnull_no 27 d11_24 rfl ?_
  refine Go.aload_n 28 d11_27 rfl rfl rfl ?_
  refine Go.aload_n 29 d11_28 rfl rfl rfl ?_
  refine Go.aload_n 30 d11_29 rfl rfl rfl ?_
  refine Go.callVRp [] [.ref a, .ref a41] 33 d11_30 (tw97 hw) (tw98 hw) (tw100 hw) (tw99 hw) (tw40 hw) (tw101 hw) f70 pl14 (by decide) (lenOf pd14 rfl) rfl (fun m => ef_k_ro m q1) _ (k_ro hw h39 zs80 q1 f71) 2 rfl (Nat.le_of_eq rfl) (by decide) (by decide) (by decide) (by decide) rfl ?_
  refine Go.callQR [.ref l1] [.ref a41] 36 d11_33 (tw102 hw) (tw104 hw) (own_selp (tw22 hw) rfl (tw103 hw) (tw104 hw) (by decide)) (tw103 hw) (tw2 hw) (tw105 hw) f57 pl15 (by decide) (lenOf pd15 rfl) rfl (fun m => ef_k_lea11 m a l1) _ (k_lea11 hw h39 zs80 a l1 f57 f58 f59 f61 f62 f75 f76 f77 f78 f79) 1 rfl (Nat.le_of_eq rfl) (by decide) (by decide) (by decide) (by decide) rfl ?_
  rintro z88 h89 ⟨a91, rfl, g92, K90, f93, f94⟩
  have ne95 : a ≠ a91 := Nat.ne_of_lt (Nat.lt_of_lt_of_le f57.lt g92)
  have ne96 : x ≠ a91 := Nat.ne_of_lt (Nat.lt_of_lt_of_le f61.lt g92)
  have ne97 : y ≠ a91 := Nat.ne_of_lt (Nat.lt_of_lt_of_le f62.lt g92)
  have ne98 : z ≠ a91 := Nat.ne_of_lt (Nat.lt_of_lt_of_le f63.lt g92)
  have ne99 : e ≠ a91 := Nat.ne_of_lt (Nat.lt_of_lt_of_le f64.lt g92)
  have ne100 : q0 ≠ a91 := Nat.ne_of_lt (Nat.lt_of_lt_of_le f67.lt g92)
  have ne101 : q1 ≠ a91 := Nat.ne_of_lt (Nat.lt_of_lt_of_le f70.lt g92)
  have ne102 : l0 ≠ a91 := Nat.ne_of_lt (Nat.lt_of_lt_of_le f73.lt g92)
  have ne103 : l1 ≠ a91 := Nat.ne_of_lt (Nat.lt_of_lt_of_le f75.lt g92)
  have ne104 : nn ≠ a91 := Nat.ne_of_lt (Nat.lt_of_lt_of_le f78.lt g92)
  have ne105 : a41 ≠ a91 := Nat.ne_of_lt (Nat.lt_of_lt_of_le f43.lt g92)
  have ge106 : Z.heap.size ≤ a91 := Nat.le_trans zs80 g92
  have fr107 : h.size ≤ a91 := Nat.le_trans kp81.1 g92
  have f108 : Exa Z h89 a "com/example/interlace/interlace/engine/Floors" := f57.keep K90
  have f109 : Fld Z h89 a "com/example/interlace/interlace/engine/Floors" "floors" "[J" (.ref x) := f58.keep K90 nin0
  have f110 : Fld Z h89 a "com/example/interlace/interlace/engine/Floors" "hasFloor" "[Z" (.ref y) := f59.keep K90 nin0
  have f111 : Fld Z h89 a "com/example/interlace/interlace/engine/Floors" "rests" "[[J" (.ref z) := f60.keep K90 nin0
  have f112 : Arj Z h89 x [f0, f1] := f61.keep K90 nin0
  have f113 : Ari Z h89 y .boolean [(0 : Int32), (1 : Int32)] := f62.keep K90 nin0
  have f114 : Arz Z h89 z .long "[J" [.null, .null] := f63.keep K90 nin0
  have f115 : Exa Z h89 e "com/example/interlace/interlace/engine/Plan$Bind" := f64.keep K90
  have f116 : Fld Z h89 e "com/example/interlace/interlace/engine/Plan$Bind" "variable" "I" (.int (0 : Int32)) := f65.keep K90 nin0
  have f117 : Fld Z h89 e "com/example/interlace/interlace/engine/Plan$Bind" "required" "Lcom/example/interlace/interlace/engine/Plan$Required;" (.ref q0) := f66.keep K90 nin0
  have f118 : Exa Z h89 q0 "com/example/interlace/interlace/engine/Plan$Required" := f67.keep K90
  have f119 : Fld Z h89 q0 "com/example/interlace/interlace/engine/Plan$Required" "operand" "Lcom/example/interlace/interlace/pattern/Structure;" (.ref l0) := f68.keep K90 nin0
  have f120 : Fld Z h89 q0 "com/example/interlace/interlace/engine/Plan$Required" "rest" "Lcom/example/interlace/interlace/engine/Plan$Required;" (.ref q1) := f69.keep K90 nin0
  have f121 : Exa Z h89 q1 "com/example/interlace/interlace/engine/Plan$Required" := f70.keep K90
  have f122 : Fld Z h89 q1 "com/example/interlace/interlace/engine/Plan$Required" "operand" "Lcom/example/interlace/interlace/pattern/Structure;" (.ref l1) := f71.keep K90 nin0
  have f123 : Fld Z h89 q1 "com/example/interlace/interlace/engine/Plan$Required" "rest" "Lcom/example/interlace/interlace/engine/Plan$Required;" (.null) := f72.keep K90 nin0
  have f124 : Exa Z h89 l0 "com/example/interlace/interlace/pattern/Structure$Leaf" := f73.keep K90
  have f125 : Fld Z h89 l0 "com/example/interlace/interlace/pattern/Structure$Leaf" "variable" "I" (.int (0 : Int32)) := f74.keep K90 nin0
  have f126 : Exa Z h89 l1 "com/example/interlace/interlace/pattern/Structure$Leaf" := f75.keep K90
  have f127 : Fld Z h89 l1 "com/example/interlace/interlace/pattern/Structure$Leaf" "variable" "I" (.int (1 : Int32)) := f76.keep K90 nin0
  have f128 : Sta Z h89 "com/example/interlace/interlace/engine/Floors" "NONE" "[J" (.ref nn) := own_staK f77 K90 all0
  have f129 : Arj Z h89 nn [] := f78.keep K90 nin0
  have f130 : Exa Z h89 nn "[J" := f79.keep K90
  have f131 : Arj Z h89 a41 [] := f43.keep K90 nin0
  have f132 : Exa Z h89 a41 "[J" := f44.keep K90
  have zs133 : Z.heap.size ≤ h89.size := Nat.le_trans zs80 K90.1
  have kp134 : Keep h h89 [z] := kp81.trans K90 all0
  refine Go.callSR [.ref a41, .ref a91] [] 39 d11_36 (tw147 hw) (tw148 hw) (tw2 hw) (tw149 hw) pl21 (by decide) (lenOf pd21 rfl) rfl (fun m => ef_k_mg01 m a41 a91) _ (k_mg01 hw h89 zs133 a41 a91 f131 f132 f93) 0 rfl (Nat.le_of_eq rfl) (by decide) (by decide) (by decide) (by decide) rfl ?_
  rintro z135 h136 ⟨a138, rfl, g139, K137, f140, f141⟩
  have ne142 : a ≠ a138 := Nat.ne_of_lt (Nat.lt_of_lt_of_le f108.lt g139)
  have ne143 : x ≠ a138 := Nat.ne_of_lt (Nat.lt_of_lt_of_le f112.lt g139)
  have ne144 : y ≠ a138 := Nat.ne_of_lt (Nat.lt_of_lt_of_le f113.lt g139)
  have ne145 : z ≠ a138 := Nat.ne_of_lt (Nat.lt_of_lt_of_le f114.lt g139)
  have ne146 : e ≠ a138 := Nat.ne_of_lt (Nat.lt_of_lt_of_le f115.lt g139)
  have ne147 : q0 ≠ a138 := Nat.ne_of_lt (Nat.lt_of_lt_of_le f118.lt g139)
  have ne148 : q1 ≠ a138 := Nat.ne_of_lt (Nat.lt_of_lt_of_le f121.lt g139)
  have ne149 : l0 ≠ a138 := Nat.ne_of_lt (Nat.lt_of_lt_of_le f124.lt g139)
  have ne150 : l1 ≠ a138 := Nat.ne_of_lt (Nat.lt_of_lt_of_le f126.lt g139)
  have ne151 : nn ≠ a138 := Nat.ne_of_lt (Nat.lt_of_lt_of_le f129.lt g139)
  have ne152 : a41 ≠ a138 := Nat.ne_of_lt (Nat.lt_of_lt_of_le f131.lt g139)
  have ne153 : a91 ≠ a138 := Nat.ne_of_lt (Nat.lt_of_lt_of_le f93.lt g139)
  have ge154 : Z.heap.size ≤ a138 := Nat.le_trans zs133 g139
  have fr155 : h.size ≤ a138 := Nat.le_trans kp134.1 g139
  have f156 : Exa Z h136 a "com/example/interlace/interlace/engine/Floors" := f108.keep K137
  have f157 : Fld Z h136 a "com/example/interlace/interlace/engine/Floors" "floors" "[J" (.ref x) := f109.keep K137 nin0
  have f158 : Fld Z h136 a "com/example/interlace/interlace/engine/Floors" "hasFloor" "[Z" (.ref y) := f110.keep K137 nin0
  have f159 : Fld Z h136 a "com/example/interlace/interlace/engine/Floors" "rests" "[[J" (.ref z) := f111.keep K137 nin0
  have f160 : Arj Z h136 x [f0, f1] := f112.keep K137 nin0
  have f161 : Ari Z h136 y .boolean [(0 : Int32), (1 : Int32)] := f113.keep K137 nin0
  have f162 : Arz Z h136 z .long "[J" [.null, .null] := f114.keep K137 nin0
  have f163 : Exa Z h136 e "com/example/interlace/interlace/engine/Plan$Bind" := f115.keep K137
  have f164 : Fld Z h136 e "com/example/interlace/interlace/engine/Plan$Bind" "variable" "I" (.int (0 : Int32)) := f116.keep K137 nin0
  have f165 : Fld Z h136 e "com/example/interlace/interlace/engine/Plan$Bind" "required" "Lcom/example/interlace/interlace/engine/Plan$Required;" (.ref q0) := f117.keep K137 nin0
  have f166 : Exa Z h136 q0 "com/example/interlace/interlace/engine/Plan$Required" := f118.keep K137
  have f167 : Fld Z h136 q0 "com/example/interlace/interlace/engine/Plan$Required" "operand" "Lcom/example/interlace/interlace/pattern/Structure;" (.ref l0) := f119.keep K137 nin0
  have f168 : Fld Z h136 q0 "com/example/interlace/interlace/engine/Plan$Required" "rest" "Lcom/example/interlace/interlace/engine/Plan$Required;" (.ref q1) := f120.keep K137 nin0
  have f169 : Exa Z h136 q1 "com/example/interlace/interlace/engine/Plan$Required" := f121.keep K137
  have f170 : Fld Z h136 q1 "com/example/interlace/interlace/engine/Plan$Required" "operand" "Lcom/example/interlace/interlace/pattern/Structure;" (.ref l1) := f122.keep K137 nin0
  have f171 : Fld Z h136 q1 "com/example/interlace/interlace/engine/Plan$Required" "rest" "Lcom/example/interlace/interlace/engine/Plan$Required;" (.null) := f123.keep K137 nin0
  have f172 : Exa Z h136 l0 "com/example/interlace/interlace/pattern/Structure$Leaf" := f124.keep K137
  have f173 : Fld Z h136 l0 "com/example/interlace/interlace/pattern/Structure$Leaf" "variable" "I" (.int (0 : Int32)) := f125.keep K137 nin0
  have f174 : Exa Z h136 l1 "com/example/interlace/interlace/pattern/Structure$Leaf" := f126.keep K137
  have f175 : Fld Z h136 l1 "com/example/interlace/interlace/pattern/Structure$Leaf" "variable" "I" (.int (1 : Int32)) := f127.keep K137 nin0
  have f176 : Sta Z h136 "com/example/interlace/interlace/engine/Floors" "NONE" "[J" (.ref nn) := own_staK f128 K137 all0
  have f177 : Arj Z h136 nn [] := f129.keep K137 nin0
  have f178 : Exa Z h136 nn "[J" := f130.keep K137
  have f179 : Arj Z h136 a41 [] := f131.keep K137 nin0
  have f180 : Exa Z h136 a41 "[J" := f132.keep K137
  have f181 : Arj Z h136 a91 [f1] := f93.keep K137 nin0
  have f182 : Exa Z h136 a91 "[J" := f94.keep K137
  have zs183 : Z.heap.size ≤ h136.size := Nat.le_trans zs133 K137.1
  have kp184 : Keep h h136 [z] := kp134.trans K137 all0
  refine Go.astore_n 40 #[.val (.ref a), .val (.ref e), .val (.ref a138), .val (.ref q1)] d11_39 rfl rfl rfl ?_
  refine Go.aload_n 41 d11_40 rfl rfl rfl ?_
  refine Go.callVRp [] [] 44 d11_41 (tw175 hw) (tw176 hw) (tw178 hw) (tw177 hw) (tw40 hw) (tw179 hw) f169 pl28 (by decide) (lenOf pd28 rfl) rfl (fun m => ef_k_rrN m q1) _ (k_rrN hw h136 zs183 q1 f171) 0 rfl (Nat.le_of_eq rfl) (by decide) (by decide) (by decide) (by decide) rfl ?_
  refine Go.astore_n 45 #[.val (.ref a), .val (.ref e), .val (.ref a138), .val (.null)] d11_44 rfl rfl rfl ?_
  refine Go.goto 23 d11_45 (by decide) (by decide) ?_
  refine Go.aload_n 24 d11_23 rfl rfl rfl ?_
  refine Go.ifnull_yes 48 d11_24 (by decide) (by decide) ?_
  refine Go.aload_n 49 d11_48 rfl rfl rfl ?_
  refine Go.getfield 52 d11_49 (tw17 hw) f159 rfl ?_
  refine Go.aload_n 53 d11_52 rfl rfl rfl ?_
  refine Go.callVIp [] [.ref z] 56 d11_53 (tw85 hw) (tw86 hw) (tw88 hw) (tw87 hw) (tw67 hw) (tw89 hw) f163 pl12 (by decide) (lenOf pd12 rfl) rfl (fun m => ef_k_bv m e) _ (k_bv hw h136 zs183 e f164) 1 rfl (Nat.le_of_eq rfl) (by decide) (by decide) (by decide) (by decide) rfl ?_
  refine Go.aload_n 57 d11_56 rfl rfl rfl ?_
  refine Go.zzstore (0) ([.ref a138, .null]) 58 d11_57 f162 (Or.inr ⟨_, rfl, Ins.self f141⟩) (by decide) (by decide) (by decide : (0 : Nat) < 2) rfl ge_z rfl (fun h191 W192 A193 => ?_)
  have f194 : Exa Z h191 a "com/example/interlace/interlace/engine/Floors" := f156.wr W192
  have f195 : Fld Z h191 a "com/example/interlace/interlace/engine/Floors" "floors" "[J" (.ref x) := f157.other W192 (Or.inl n_a_z)
  have f196 : Fld Z h191 a "com/example/interlace/interlace/engine/Floors" "hasFloor" "[Z" (.ref y) := f158.other W192 (Or.inl n_a_z)
  have f197 : Fld Z h191 a "com/example/interlace/interlace/engine/Floors" "rests" "[[J" (.ref z) := f159.other W192 (Or.inl n_a_z)
  have f198 : Arj Z h191 x [f0, f1] := f160.other W192 n_x_z
  have f199 : Ari Z h191 y .boolean [(0 : Int32), (1 : Int32)] := f161.other W192 n_y_z
  have f200 : Exa Z h191 e "com/example/interlace/interlace/engine/Plan$Bind" := f163.wr W192
  have f201 : Fld Z h191 e "com/example/interlace/interlace/engine/Plan$Bind" "variable" "I" (.int (0 : Int32)) := f164.other W192 (Or.inl n_e_z)
  have f202 : Fld Z h191 e "com/example/interlace/interlace/engine/Plan$Bind" "required" "Lcom/example/interlace/interlace/engine/Plan$Required;" (.ref q0) := f165.other W192 (Or.inl n_e_z)
  have f203 : Exa Z h191 q0 "com/example/interlace/interlace/engine/Plan$Required" := f166.wr W192
  have f204 : Fld Z h191 q0 "com/example/interlace/interlace/engine/Plan$Required" "operand" "Lcom/example/interlace/interlace/pattern/Structure;" (.ref l0) := f167.other W192 (Or.inl n_q0_z)
  have f205 : Fld Z h191 q0 "com/example/interlace/interlace/engine/Plan$Required" "rest" "Lcom/example/interlace/interlace/engine/Plan$Required;" (.ref q1) := f168.other W192 (Or.inl n_q0_z)
  have f206 : Exa Z h191 q1 "com/example/interlace/interlace/engine/Plan$Required" := f169.wr W192
  have f207 : Fld Z h191 q1 "com/example/interlace/interlace/engine/Plan$Required" "operand" "Lcom/example/interlace/interlace/pattern/Structure;" (.ref l1) := f170.other W192 (Or.inl n_q1_z)
  have f208 : Fld Z h191 q1 "com/example/interlace/interlace/engine/Plan$Required" "rest" "Lcom/example/interlace/interlace/engine/Plan$Required;" (.null) := f171.other W192 (Or.inl n_q1_z)
  have f209 : Exa Z h191 l0 "com/example/interlace/interlace/pattern/Structure$Leaf" := f172.wr W192
  have f210 : Fld Z h191 l0 "com/example/interlace/interlace/pattern/Structure$Leaf" "variable" "I" (.int (0 : Int32)) := f173.other W192 (Or.inl n_l0_z)
  have f211 : Exa Z h191 l1 "com/example/interlace/interlace/pattern/Structure$Leaf" := f174.wr W192
  have f212 : Fld Z h191 l1 "com/example/interlace/interlace/pattern/Structure$Leaf" "variable" "I" (.int (1 : Int32)) := f175.other W192 (Or.inl n_l1_z)
  have f213 : Sta Z h191 "com/example/interlace/interlace/engine/Floors" "NONE" "[J" (.ref nn) := f176.wr W192
  have f214 : Arj Z h191 nn [] := f177.other W192 n_nn_z
  have f215 : Exa Z h191 nn "[J" := f178.wr W192
  have f216 : Arj Z h191 a41 [] := f179.other W192 (Ne.symm ne48)
  have f217 : Exa Z h191 a41 "[J" := f180.wr W192
  have f218 : Arj Z h191 a91 [f1] := f181.other W192 (Ne.symm ne98)
  have f219 : Exa Z h191 a91 "[J" := f182.wr W192
  have f220 : Arj Z h191 a138 [f1] := f140.other W192 (Ne.symm ne145)
  have f221 : Exa Z h191 a138 "[J" := f141.wr W192
  have zs222 : Z.heap.size ≤ h191.size := W192.size ▸ zs183
  have kp223 : Keep h h191 [z] := kp184.wr W192 (Or.inl (by simp))
  refine Go.aload_n 59 d11_58 rfl rfl rfl ?_
  refine Go.areturn d11_59 rfl rfl rfl (by decide) (by decide) ?_
  exact ⟨a138, rfl, fr155, kp223, f220, f221⟩

theorem ef_k_ra10 (m : MethodId) (x0 : Addr) (x1 : Addr) : entryFrame m #[(.ref x0), (.ref x1)] 4 = mkF m 0 #[.val (.ref x0), .val (.ref x1), .unset, .unset] [] := by first | (simp [entryFrame, mkF, argsToLocals, Value.category]; done) | rfl

set_option maxRecDepth 65536 in
set_option maxHeartbeats 40000000 in
theorem k_ra10 {l : Launch} {Z : State} {a0 : Array Value} (hw : ∀ d ∈ tables_1, d.before a0 Z = true) {x : Addr} {y : Addr} {z : Addr} {q0 : Addr} {q1 : Addr} {l0 : Addr} {l1 : Addr} {nn : Addr} {f0 : Int64} {f1 : Int64} (h : Heap) (hz : Z.heap.size ≤ h.size) (a : Addr) (e : Addr) (fa0 : Exa Z h a "com/example/interlace/interlace/engine/Floors") (fa1 : Fld Z h a "com/example/interlace/interlace/engine/Floors" "floors" "[J" (.ref x)) (fa2 : Fld Z h a "com/example/interlace/interlace/engine/Floors" "hasFloor" "[Z" (.ref y)) (fa3 : Fld Z h a "com/example/interlace/interlace/engine/Floors" "rests" "[[J" (.ref z)) (fa4 : Arj Z h x [f0, f1]) (fa5 : Ari Z h y .boolean [(1 : Int32), (0 : Int32)]) (fa6 : Arz Z h z .long "[J" [.null, .null]) (fa7 : Exa Z h e "com/example/interlace/interlace/engine/Plan$Bind") (fa8 : Fld Z h e "com/example/interlace/interlace/engine/Plan$Bind" "variable" "I" (.int (0 : Int32))) (fa9 : Fld Z h e "com/example/interlace/interlace/engine/Plan$Bind" "required" "Lcom/example/interlace/interlace/engine/Plan$Required;" (.ref q0)) (fa10 : Exa Z h q0 "com/example/interlace/interlace/engine/Plan$Required") (fa11 : Fld Z h q0 "com/example/interlace/interlace/engine/Plan$Required" "operand" "Lcom/example/interlace/interlace/pattern/Structure;" (.ref l0)) (fa12 : Fld Z h q0 "com/example/interlace/interlace/engine/Plan$Required" "rest" "Lcom/example/interlace/interlace/engine/Plan$Required;" (.ref q1)) (fa13 : Exa Z h q1 "com/example/interlace/interlace/engine/Plan$Required") (fa14 : Fld Z h q1 "com/example/interlace/interlace/engine/Plan$Required" "operand" "Lcom/example/interlace/interlace/pattern/Structure;" (.ref l1)) (fa15 : Fld Z h q1 "com/example/interlace/interlace/engine/Plan$Required" "rest" "Lcom/example/interlace/interlace/engine/Plan$Required;" (.null)) (fa16 : Exa Z h l0 "com/example/interlace/interlace/pattern/Structure$Leaf") (fa17 : Fld Z h l0 "com/example/interlace/interlace/pattern/Structure$Leaf" "variable" "I" (.int (0 : Int32))) (fa18 : Exa Z h l1 "com/example/interlace/interlace/pattern/Structure$Leaf") (fa19 : Fld Z h l1 "com/example/interlace/interlace/pattern/Structure$Leaf" "variable" "I" (.int (1 : Int32))) (fa20 : Sta Z h "com/example/interlace/interlace/engine/Floors" "NONE" "[J" (.ref nn)) (fa21 : Arj Z h nn []) (fa22 : Exa Z h nn "[J")  (ge_z : Z.heap.size ≤ z) (n_a_z : a ≠ z) (n_x_z : x ≠ z) (n_y_z : y ≠ z) (n_e_z : e ≠ z) (n_q0_z : q0 ≠ z) (n_q1_z : q1 ≠ z) (n_l0_z : l0 ≠ z) (n_l1_z : l1 ≠ z) (n_nn_z : nn ≠ z) : Go l Z (⟨"com/example/interlace/interlace/engine/Floors", "restAfter", "(Lcom/example/interlace/interlace/engine/Plan$Bind;)[J"⟩ : MethodName) prog_34_method_4_code 4 (Option.some (Jvm.ClassFile.FieldType.array Jvm.ClassFile.FieldType.long)) ({ frames := 5, cells := 10, slots := 80, locals := 130 } : Room) (QR fun rz h' => ∃ r : Addr, rz = .ref r ∧ h.size ≤ r ∧ Keep h h' [z] ∧ Arj Z h' r [f0] ∧ Exa Z h' r "[J") 0 0 h 0 #[.val (.ref a), .val (.ref e), .unset, .unset] [] := by
  have kp0 : Keep h h [z] := Keep.refl _ _
  refine Go.aload_n 1 d11_0 rfl rfl rfl ?_
  refine Go.getfield 4 d11_1 (tw17 hw) fa3 rfl ?_
  refine Go.aload_n 5 d11_4 rfl rfl rfl ?_
  refine Go.callVIp [] [.ref z] 8 d11_5 (tw85 hw) (tw86 hw) (tw88 hw) (tw87 hw) (tw67 hw) (tw89 hw) fa7 pl12 (by decide) (lenOf pd12 rfl) rfl (fun m => ef_k_bv m e) _ (k_bv hw h hz e fa8) 1 rfl (Nat.le_of_eq rfl) (by decide) (by decide) (by decide) (by decide) rfl ?_
  refine Go.zzload (x := .null) (0) 9 d11_8 fa6 (by decide) (by decide) rfl rfl ?_
  refine Go.astore_n 10 #[.val (.ref a), .val (.ref e), .val (.null), .unset] d11_9 rfl rfl rfl ?_
  refine Go.aload_n 11 d11_10 rfl rfl rfl ?_
  refine Go.ifnonnull_no 14 d11_11 rfl ?_
  refine Go.getstatic 17 d11_14 (tw90 hw) fa20 rfl ?_
  refine Go.astore_n 18 #[.val (.ref a), .val (.ref e), .val (.ref nn), .unset] d11_17 rfl rfl rfl ?_
  refine Go.aload_n 19 d11_18 rfl rfl rfl ?_
  refine Go.callVRp [] [] 22 d11_19 (tw92 hw) (tw93 hw) (tw95 hw) (tw94 hw) (tw67 hw) (tw96 hw) fa7 pl13 (by decide) (lenOf pd13 rfl) rfl (fun m => ef_k_bq m e) _ (k_bq hw h hz e fa9) 0 rfl (Nat.le_of_eq rfl) (by decide) (by decide) (by decide) (by decide) rfl ?_
  refine Go.astore_n 23 #[.val (.ref a), .val (.ref e), .val (.ref nn), .val (.ref q0)] d11_22 rfl rfl rfl ?_
  refine Go.aload_n 24 d11_23 rfl rfl rfl ?_
  refine Go.ifnull_no 27 d11_24 rfl ?_
  refine Go.aload_n 28 d11_27 rfl rfl rfl ?_
  refine Go.aload_n 29 d11_28 rfl rfl rfl ?_
  refine Go.aload_n 30 d11_29 rfl rfl rfl ?_
  refine Go.callVRp [] [.ref a, .ref nn] 33 d11_30 (tw97 hw) (tw98 hw) (tw100 hw) (tw99 hw) (tw40 hw) (tw101 hw) fa10 pl14 (by decide) (lenOf pd14 rfl) rfl (fun m => ef_k_ro m q0) _ (k_ro hw h hz q0 fa11) 2 rfl (Nat.le_of_eq rfl) (by decide) (by decide) (by decide) (by decide) rfl ?_
  refine Go.callQR [.ref l0] [.ref nn] 36 d11_33 (tw102 hw) (tw104 hw) (own_selp (tw22 hw) rfl (tw103 hw) (tw104 hw) (by decide)) (tw103 hw) (tw2 hw) (tw105 hw) fa0 pl15 (by decide) (lenOf pd15 rfl) rfl (fun m => ef_k_lea01 m a l0) _ (k_lea01 hw h hz a l0 fa0 fa1 fa2 fa4 fa5 fa16 fa17 fa20 fa21 fa22) 1 rfl (Nat.le_of_eq rfl) (by decide) (by decide) (by decide) (by decide) rfl ?_
  rintro z10 h11 ⟨a13, rfl, g14, K12, f15, f16⟩
  have ne17 : a ≠ a13 := Nat.ne_of_lt (Nat.lt_of_lt_of_le fa0.lt g14)
  have ne18 : x ≠ a13 := Nat.ne_of_lt (Nat.lt_of_lt_of_le fa4.lt g14)
  have ne19 : y ≠ a13 := Nat.ne_of_lt (Nat.lt_of_lt_of_le fa5.lt g14)
  have ne20 : z ≠ a13 := Nat.ne_of_lt (Nat.lt_of_lt_of_le fa6.lt g14)
  have ne21 : e ≠ a13 := Nat.ne_of_lt (Nat.lt_of_lt_of_le fa7.lt g14)
  have ne22 : q0 ≠ a13 := Nat.ne_of_lt (Nat.lt_of_lt_of_le fa10.lt g14)
  have ne23 : q1 ≠ a13 := Nat.ne_of_lt (Nat.lt_of_lt_of_le fa13.lt g14)
  have ne24 : l0 ≠ a13 := Nat.ne_of_lt (Nat.lt_of_lt_of_le fa16.lt g14)
  have ne25 : l1 ≠ a13 := Nat.ne_of_lt (Nat.lt_of_lt_of_le fa18.lt g14)
  have ne26 : nn ≠ a13 := Nat.ne_of_lt (Nat.lt_of_lt_of_le fa21.lt g14)
  have ge27 : Z.heap.size ≤ a13 := Nat.le_trans hz g14
  have fr28 : h.size ≤ a13 := Nat.le_trans kp0.1 g14
  have f29 : Exa Z h11 a "com/example/interlace/interlace/engine/Floors" := fa0.keep K12
  have f30 : Fld Z h11 a "com/example/interlace/interlace/engine/Floors" "floors" "[J" (.ref x) := fa1.keep K12 nin0
  have f31 : Fld Z h11 a "com/example/interlace/interlace/engine/Floors" "hasFloor" "[Z" (.ref y) := fa2.keep K12 nin0
  have f32 : Fld Z h11 a "com/example/interlace/interlace/engine/Floors" "rests" "[[J" (.ref z) := fa3.keep K12 nin0
  have f33 : Arj Z h11 x [f0, f1] := fa4.keep K12 nin0
  have f34 : Ari Z h11 y .boolean [(1 : Int32), (0 : Int32)] := fa5.keep K12 nin0
  have f35 : Arz Z h11 z .long "[J" [.null, .null] := fa6.keep K12 nin0
  have f36 : Exa Z h11 e "com/example/interlace/interlace/engine/Plan$Bind" := fa7.keep K12
  have f37 : Fld Z h11 e "com/example/interlace/interlace/engine/Plan$Bind" "variable" "I" (.int (0 : Int32)) := fa8.keep K12 nin0
  have f38 : Fld Z h11 e "com/example/interlace/interlace/engine/Plan$Bind" "required" "Lcom/example/interlace/interlace/engine/Plan$Required;" (.ref q0) := fa9.keep K12 nin0
  have f39 : Exa Z h11 q0 "com/example/interlace/interlace/engine/Plan$Required" := fa10.keep K12
  have f40 : Fld Z h11 q0 "com/example/interlace/interlace/engine/Plan$Required" "operand" "Lcom/example/interlace/interlace/pattern/Structure;" (.ref l0) := fa11.keep K12 nin0
  have f41 : Fld Z h11 q0 "com/example/interlace/interlace/engine/Plan$Required" "rest" "Lcom/example/interlace/interlace/engine/Plan$Required;" (.ref q1) := fa12.keep K12 nin0
  have f42 : Exa Z h11 q1 "com/example/interlace/interlace/engine/Plan$Required" := fa13.keep K12
  have f43 : Fld Z h11 q1 "com/example/interlace/interlace/engine/Plan$Required" "operand" "Lcom/example/interlace/interlace/pattern/Structure;" (.ref l1) := fa14.keep K12 nin0
  have f44 : Fld Z h11 q1 "com/example/interlace/interlace/engine/Plan$Required" "rest" "Lcom/example/interlace/interlace/engine/Plan$Required;" (.null) := fa15.keep K12 nin0
  have f45 : Exa Z h11 l0 "com/example/interlace/interlace/pattern/Structure$Leaf" := fa16.keep K12
  have f46 : Fld Z h11 l0 "com/example/interlace/interlace/pattern/Structure$Leaf" "variable" "I" (.int (0 : Int32)) := fa17.keep K12 nin0
  have f47 : Exa Z h11 l1 "com/example/interlace/interlace/pattern/Structure$Leaf" := fa18.keep K12
  have f48 : Fld Z h11 l1 "com/example/interlace/interlace/pattern/Structure$Leaf" "variable" "I" (.int (1 : Int32)) := fa19.keep K12 nin0
  have f49 : Sta Z h11 "com/example/interlace/interlace/engine/Floors" "NONE" "[J" (.ref nn) := own_staK fa20 K12 all0
  have f50 : Arj Z h11 nn [] := fa21.keep K12 nin0
  have f51 : Exa Z h11 nn "[J" := fa22.keep K12
  have zs52 : Z.heap.size ≤ h11.size := Nat.le_trans hz K12.1
  have kp53 : Keep h h11 [z] := kp0.trans K12 all0
  refine Go.callSR [.ref nn, .ref a13] [] 39 d11_36 (tw147 hw) (tw148 hw) (tw2 hw) (tw149 hw) pl21 (by decide) (lenOf pd21 rfl) rfl (fun m => ef_k_mg01 m nn a13) _ (k_mg01 hw h11 zs52 nn a13 f50 f51 f15) 0 rfl (Nat.le_of_eq rfl) (by decide) (by decide) (by decide) (by decide) rfl ?_
  rintro z54 h55 ⟨a57, rfl, g58, K56, f59, f60⟩
  have ne61 : a ≠ a57 := Nat.ne_of_lt (Nat.lt_of_lt_of_le f29.lt g58)
  have ne62 : x ≠ a57 := Nat.ne_of_lt (Nat.lt_of_lt_of_le f33.lt g58)
  have ne63 : y ≠ a57 := Nat.ne_of_lt (Nat.lt_of_lt_of_le f34.lt g58)
  have ne64 : z ≠ a57 := Nat.ne_of_lt (Nat.lt_of_lt_of_le f35.lt g58)
  have ne65 : e ≠ a57 := Nat.ne_of_lt (Nat.lt_of_lt_of_le f36.lt g58)
  have ne66 : q0 ≠ a57 := Nat.ne_of_lt (Nat.lt_of_lt_of_le f39.lt g58)
  have ne67 : q1 ≠ a57 := Nat.ne_of_lt (Nat.lt_of_lt_of_le f42.lt g58)
  have ne68 : l0 ≠ a57 := Nat.ne_of_lt (Nat.lt_of_lt_of_le f45.lt g58)
  have ne69 : l1 ≠ a57 := Nat.ne_of_lt (Nat.lt_of_lt_of_le f47.lt g58)
  have ne70 : nn ≠ a57 := Nat.ne_of_lt (Nat.lt_of_lt_of_le f50.lt g58)
  have ne71 : a13 ≠ a57 := Nat.ne_of_lt (Nat.lt_of_lt_of_le f15.lt g58)
  have ge72 : Z.heap.size ≤ a57 := Nat.le_trans zs52 g58
  have fr73 : h.size ≤ a57 := Nat.le_trans kp53.1 g58
  have f74 : Exa Z h55 a "com/example/interlace/interlace/engine/Floors" := f29.keep K56
  have f75 : Fld Z h55 a "com/example/interlace/interlace/engine/Floors" "floors" "[J" (.ref x) := f30.keep K56 nin0
  have f76 : Fld Z h55 a "com/example/interlace/interlace/engine/Floors" "hasFloor" "[Z" (.ref y) := f31.keep K56 nin0
  have f77 : Fld Z h55 a "com/example/interlace/interlace/engine/Floors" "rests" "[[J" (.ref z) := f32.keep K56 nin0
  have f78 : Arj Z h55 x [f0, f1] := f33.keep K56 nin0
  have f79 : Ari Z h55 y .boolean [(1 : Int32), (0 : Int32)] := f34.keep K56 nin0
  have f80 : Arz Z h55 z .long "[J" [.null, .null] := f35.keep K56 nin0
  have f81 : Exa Z h55 e "com/example/interlace/interlace/engine/Plan$Bind" := f36.keep K56
  have f82 : Fld Z h55 e "com/example/interlace/interlace/engine/Plan$Bind" "variable" "I" (.int (0 : Int32)) := f37.keep K56 nin0
  have f83 : Fld Z h55 e "com/example/interlace/interlace/engine/Plan$Bind" "required" "Lcom/example/interlace/interlace/engine/Plan$Required;" (.ref q0) := f38.keep K56 nin0
  have f84 : Exa Z h55 q0 "com/example/interlace/interlace/engine/Plan$Required" := f39.keep K56
  have f85 : Fld Z h55 q0 "com/example/interlace/interlace/engine/Plan$Required" "operand" "Lcom/example/interlace/interlace/pattern/Structure;" (.ref l0) := f40.keep K56 nin0
  have f86 : Fld Z h55 q0 "com/example/interlace/interlace/engine/Plan$Required" "rest" "Lcom/example/interlace/interlace/engine/Plan$Required;" (.ref q1) := f41.keep K56 nin0
  have f87 : Exa Z h55 q1 "com/example/interlace/interlace/engine/Plan$Required" := f42.keep K56
  have f88 : Fld Z h55 q1 "com/example/interlace/interlace/engine/Plan$Required" "operand" "Lcom/example/interlace/interlace/pattern/Structure;" (.ref l1) := f43.keep K56 nin0
  have f89 : Fld Z h55 q1 "com/example/interlace/interlace/engine/Plan$Required" "rest" "Lcom/example/interlace/interlace/engine/Plan$Required;" (.null) := f44.keep K56 nin0
  have f90 : Exa Z h55 l0 "com/example/interlace/interlace/pattern/Structure$Leaf" := f45.keep K56
  have f91 : Fld Z h55 l0 "com/example/interlace/interlace/pattern/Structure$Leaf" "variable" "I" (.int (0 : Int32)) := f46.keep K56 nin0
  have f92 : Exa Z h55 l1 "com/example/interlace/interlace/pattern/Structure$Leaf" := f47.keep K56
  have f93 : Fld Z h55 l1 "com/example/interlace/interlace/pattern/Structure$Leaf" "variable" "I" (.int (1 : Int32)) := f48.keep K56 nin0
  have f94 : Sta Z h55 "com/example/interlace/interlace/engine/Floors" "NONE" "[J" (.ref nn) := own_staK f49 K56 all0
  have f95 : Arj Z h55 nn [] := f50.keep K56 nin0
  have f96 : Exa Z h55 nn "[J" := f51.keep K56
  have f97 : Arj Z h55 a13 [f0] := f15.keep K56 nin0
  have f98 : Exa Z h55 a13 "[J" := f16.keep K56
  have zs99 : Z.heap.size ≤ h55.size := Nat.le_trans zs52 K56.1
  have kp100 : Keep h h55 [z] := kp53.trans K56 all0
  refine Go.astore_n 40 #[.val (.ref a), .val (.ref e), .val (.ref a57), .val (.ref q0)] d11_39 rfl rfl rfl ?_
  refine Go.aload_n 41 d11_40 rfl rfl rfl ?_
  refine Go.callVRp [] [] 44 d11_41 (tw175 hw) (tw176 hw) (tw178 hw) (tw177 hw) (tw40 hw) (tw179 hw) f84 pl28 (by decide) (lenOf pd28 rfl) rfl (fun m => ef_k_rrA m q0) _ (k_rrA hw h55 zs99 q0 f86) 0 rfl (Nat.le_of_eq rfl) (by decide) (by decide) (by decide) (by decide) rfl ?_
  refine Go.astore_n 45 #[.val (.ref a), .val (.ref e), .val (.ref a57), .val (.ref q1)] d11_44 rfl rfl rfl ?_
  refine Go.goto 23 d11_45 (by decide) (by decide) ?_
  refine Go.aload_n 24 d11_23 rfl rfl rfl ?_
  refine Go.ifnull_no 27 d11_24 rfl ?_
  refine Go.aload_n 28 d11_27 rfl rfl rfl ?_
  refine Go.aload_n 29 d11_28 rfl rfl rfl ?_
  refine Go.aload_n 30 d11_29 rfl rfl rfl ?_
  refine Go.callVRp [] [.ref a, .ref a57] 33 d11_30 (tw97 hw) (tw98 hw) (tw100 hw) (tw99 hw) (tw40 hw) (tw101 hw) f87 pl14 (by decide) (lenOf pd14 rfl) rfl (fun m => ef_k_ro m q1) _ (k_ro hw h55 zs99 q1 f88) 2 rfl (Nat.le_of_eq rfl) (by decide) (by decide) (by decide) (by decide) rfl ?_
  refine Go.callQRe [.ref l1] [.ref a57] 36 d11_33 (tw102 hw) (tw104 hw) (own_selp (tw22 hw) rfl (tw103 hw) (tw104 hw) (by decide)) (tw103 hw) (tw2 hw) (tw105 hw) f74 pl15 (by decide) (lenOf pd15 rfl) rfl (fun m => ef_k_lea10 m a l1) _ _ (k_lea10 hw h55 zs99 a l1 f74 f75 f76 f78 f79 f92 f93 f94 f95 f96) 1 rfl (Nat.le_of_eq rfl) (by decide) (by decide) (by decide) (by decide) rfl ?_
  rintro h108 K109
  have f110 : Exa Z h108 a "com/example/interlace/interlace/engine/Floors" := f74.keep K109
  have f111 : Fld Z h108 a "com/example/interlace/interlace/engine/Floors" "floors" "[J" (.ref x) := f75.keep K109 nin0
  have f112 : Fld Z h108 a "com/example/interlace/interlace/engine/Floors" "hasFloor" "[Z" (.ref y) := f76.keep K109 nin0
  have f113 : Fld Z h108 a "com/example/interlace/interlace/engine/Floors" "rests" "[[J" (.ref z) := f77.keep K109 nin0
  have f114 : Arj Z h108 x [f0, f1] := f78.keep K109 nin0
  have f115 : Ari Z h108 y .boolean [(1 : Int32), (0 : Int32)] := f79.keep K109 nin0
  have f116 : Arz Z h108 z .long "[J" [.null, .null] := f80.keep K109 nin0
  have f117 : Exa Z h108 e "com/example/interlace/interlace/engine/Plan$Bind" := f81.keep K109
  have f118 : Fld Z h108 e "com/example/interlace/interlace/engine/Plan$Bind" "variable" "I" (.int (0 : Int32)) := f82.keep K109 nin0
  have f119 : Fld Z h108 e "com/example/interlace/interlace/engine/Plan$Bind" "required" "Lcom/example/interlace/interlace/engine/Plan$Required;" (.ref q0) := f83.keep K109 nin0
  have f120 : Exa Z h108 q0 "com/example/interlace/interlace/engine/Plan$Required" := f84.keep K109
  have f121 : Fld Z h108 q0 "com/example/interlace/interlace/engine/Plan$Required" "operand" "Lcom/example/interlace/interlace/pattern/Structure;" (.ref l0) := f85.keep K109 nin0
  have f122 : Fld Z h108 q0 "com/example/interlace/interlace/engine/Plan$Required" "rest" "Lcom/example/interlace/interlace/engine/Plan$Required;" (.ref q1) := f86.keep K109 nin0
  have f123 : Exa Z h108 q1 "com/example/interlace/interlace/engine/Plan$Required" := f87.keep K109
  have f124 : Fld Z h108 q1 "com/example/interlace/interlace/engine/Plan$Required" "operand" "Lcom/example/interlace/interlace/pattern/Structure;" (.ref l1) := f88.keep K109 nin0
  have f125 : Fld Z h108 q1 "com/example/interlace/interlace/engine/Plan$Required" "rest" "Lcom/example/interlace/interlace/engine/Plan$Required;" (.null) := f89.keep K109 nin0
  have f126 : Exa Z h108 l0 "com/example/interlace/interlace/pattern/Structure$Leaf" := f90.keep K109
  have f127 : Fld Z h108 l0 "com/example/interlace/interlace/pattern/Structure$Leaf" "variable" "I" (.int (0 : Int32)) := f91.keep K109 nin0
  have f128 : Exa Z h108 l1 "com/example/interlace/interlace/pattern/Structure$Leaf" := f92.keep K109
  have f129 : Fld Z h108 l1 "com/example/interlace/interlace/pattern/Structure$Leaf" "variable" "I" (.int (1 : Int32)) := f93.keep K109 nin0
  have f130 : Sta Z h108 "com/example/interlace/interlace/engine/Floors" "NONE" "[J" (.ref nn) := own_staK f94 K109 all0
  have f131 : Arj Z h108 nn [] := f95.keep K109 nin0
  have f132 : Exa Z h108 nn "[J" := f96.keep K109
  have f133 : Arj Z h108 a13 [f0] := f97.keep K109 nin0
  have f134 : Exa Z h108 a13 "[J" := f98.keep K109
  have f135 : Arj Z h108 a57 [f0] := f59.keep K109 nin0
  have f136 : Exa Z h108 a57 "[J" := f60.keep K109
  have zs137 : Z.heap.size ≤ h108.size := Nat.le_trans zs99 K109.1
  have kp138 : Keep h h108 [z] := kp100.trans K109 all0
  refine Go.callSR [.ref a57, .ref nn] [] 39 d11_36 (tw147 hw) (tw148 hw) (tw2 hw) (tw149 hw) pl21 (by decide) (lenOf pd21 rfl) rfl (fun m => ef_k_mg10 m a57 nn) _ (k_mg10 hw h108 zs137 a57 nn f135 f136 f131) 0 rfl (Nat.le_of_eq rfl) (by decide) (by decide) (by decide) (by decide) rfl ?_
  rintro z139 h140 ⟨a142, rfl, g143, K141, f144, f145⟩
  have ne146 : a ≠ a142 := Nat.ne_of_lt (Nat.lt_of_lt_of_le f110.lt g143)
  have ne147 : x ≠ a142 := Nat.ne_of_lt (Nat.lt_of_lt_of_le f114.lt g143)
  have ne148 : y ≠ a142 := Nat.ne_of_lt (Nat.lt_of_lt_of_le f115.lt g143)
  have ne149 : z ≠ a142 := Nat.ne_of_lt (Nat.lt_of_lt_of_le f116.lt g143)
  have ne150 : e ≠ a142 := Nat.ne_of_lt (Nat.lt_of_lt_of_le f117.lt g143)
  have ne151 : q0 ≠ a142 := Nat.ne_of_lt (Nat.lt_of_lt_of_le f120.lt g143)
  have ne152 : q1 ≠ a142 := Nat.ne_of_lt (Nat.lt_of_lt_of_le f123.lt g143)
  have ne153 : l0 ≠ a142 := Nat.ne_of_lt (Nat.lt_of_lt_of_le f126.lt g143)
  have ne154 : l1 ≠ a142 := Nat.ne_of_lt (Nat.lt_of_lt_of_le f128.lt g143)
  have ne155 : nn ≠ a142 := Nat.ne_of_lt (Nat.lt_of_lt_of_le f131.lt g143)
  have ne156 : a13 ≠ a142 := Nat.ne_of_lt (Nat.lt_of_lt_of_le f133.lt g143)
  have ne157 : a57 ≠ a142 := Nat.ne_of_lt (Nat.lt_of_lt_of_le f135.lt g143)
  have ge158 : Z.heap.size ≤ a142 := Nat.le_trans zs137 g143
  have fr159 : h.size ≤ a142 := Nat.le_trans kp138.1 g143
  have f160 : Exa Z h140 a "com/example/interlace/interlace/engine/Floors" := f110.keep K141
  have f161 : Fld Z h140 a "com/example/interlace/interlace/engine/Floors" "floors" "[J" (.ref x) := f111.keep K141 nin0
  have f162 : Fld Z h140 a "com/example/interlace/interlace/engine/Floors" "hasFloor" "[Z" (.ref y) := f112.keep K141 nin0
  have f163 : Fld Z h140 a "com/example/interlace/interlace/engine/Floors" "rests" "[[J" (.ref z) := f113.keep K141 nin0
  have f164 : Arj Z h140 x [f0, f1] := f114.keep K141 nin0
  have f165 : Ari Z h140 y .boolean [(1 : Int32), (0 : Int32)] := f115.keep K141 nin0
  have f166 : Arz Z h140 z .long "[J" [.null, .null] := f116.keep K141 nin0
  have f167 : Exa Z h140 e "com/example/interlace/interlace/engine/Plan$Bind" := f117.keep K141
  have f168 : Fld Z h140 e "com/example/interlace/interlace/engine/Plan$Bind" "variable" "I" (.int (0 : Int32)) := f118.keep K141 nin0
  have f169 : Fld Z h140 e "com/example/interlace/interlace/engine/Plan$Bind" "required" "Lcom/example/interlace/interlace/engine/Plan$Required;" (.ref q0) := f119.keep K141 nin0
  have f170 : Exa Z h140 q0 "com/example/interlace/interlace/engine/Plan$Required" := f120.keep K141
  have f171 : Fld Z h140 q0 "com/example/interlace/interlace/engine/Plan$Required" "operand" "Lcom/example/interlace/interlace/pattern/Structure;" (.ref l0) := f121.keep K141 nin0
  have f172 : Fld Z h140 q0 "com/example/interlace/interlace/engine/Plan$Required" "rest" "Lcom/example/interlace/interlace/engine/Plan$Required;" (.ref q1) := f122.keep K141 nin0
  have f173 : Exa Z h140 q1 "com/example/interlace/interlace/engine/Plan$Required" := f123.keep K141
  have f174 : Fld Z h140 q1 "com/example/interlace/interlace/engine/Plan$Required" "operand" "Lcom/example/interlace/interlace/pattern/Structure;" (.ref l1) := f124.keep K141 nin0
  have f175 : Fld Z h140 q1 "com/example/interlace/interlace/engine/Plan$Required" "rest" "Lcom/example/interlace/interlace/engine/Plan$Required;" (.null) := f125.keep K141 nin0
  have f176 : Exa Z h140 l0 "com/example/interlace/interlace/pattern/Structure$Leaf" := f126.keep K141
  have f177 : Fld Z h140 l0 "com/example/interlace/interlace/pattern/Structure$Leaf" "variable" "I" (.int (0 : Int32)) := f127.keep K141 nin0
  have f178 : Exa Z h140 l1 "com/example/interlace/interlace/pattern/Structure$Leaf" := f128.keep K141
  have f179 : Fld Z h140 l1 "com/example/interlace/interlace/pattern/Structure$Leaf" "variable" "I" (.int (1 : Int32)) := f129.keep K141 nin0
  have f180 : Sta Z h140 "com/example/interlace/interlace/engine/Floors" "NONE" "[J" (.ref nn) := own_staK f130 K141 all0
  have f181 : Arj Z h140 nn [] := f131.keep K141 nin0
  have f182 : Exa Z h140 nn "[J" := f132.keep K141
  have f183 : Arj Z h140 a13 [f0] := f133.keep K141 nin0
  have f184 : Exa Z h140 a13 "[J" := f134.keep K141
  have f185 : Arj Z h140 a57 [f0] := f135.keep K141 nin0
  have f186 : Exa Z h140 a57 "[J" := f136.keep K141
  have zs187 : Z.heap.size ≤ h140.size := Nat.le_trans zs137 K141.1
  have kp188 : Keep h h140 [z] := kp138.trans K141 all0
  refine Go.astore_n 40 #[.val (.ref a), .val (.ref e), .val (.ref a142), .val (.ref q1)] d11_39 rfl rfl rfl ?_
  refine Go.aload_n 41 d11_40 rfl rfl rfl ?_
  refine Go.callVRp [] [] 44 d11_41 (tw175 hw) (tw176 hw) (tw178 hw) (tw177 hw) (tw40 hw) (tw179 hw) f173 pl28 (by decide) (lenOf pd28 rfl) rfl (fun m => ef_k_rrN m q1) _ (k_rrN hw h140 zs187 q1 f175) 0 rfl (Nat.le_of_eq rfl) (by decide) (by decide) (by decide) (by decide) rfl ?_
  refine Go.astore_n 45 #[.val (.ref a), .val (.ref e), .val (.ref a142), .val (.null)] d11_44 rfl rfl rfl ?_
  refine Go.goto 23 d11_45 (by decide) (by decide) ?_
  refine Go.aload_n 24 d11_23 rfl rfl rfl ?_
  refine Go.ifnull_yes 48 d11_24 (by decide) (by decide) ?_
  refine Go.aload_n 49 d11_48 rfl rfl rfl ?_
  refine Go.getfield 52 d11_49 (tw17 hw) f163 rfl ?_
  refine Go.aload_n 53 d11_52 rfl rfl rfl ?_
  refine Go.callVIp [] [.ref z] 56 d11_53 (tw85 hw) (tw86 hw) (tw88 hw) (tw87 hw) (tw67 hw) (tw89 hw) f167 pl12 (by decide) (lenOf pd12 rfl) rfl (fun m => ef_k_bv m e) _ (k_bv hw h140 zs187 e f168) 1 rfl (Nat.le_of_eq rfl) (by decide) (by decide) (by decide) (by decide) rfl ?_
  refine Go.aload_n 57 d11_56 rfl rfl rfl ?_
  refine Go.zzstore (0) ([.ref a142, .null]) 58 d11_57 f166 (Or.inr ⟨_, rfl, Ins.self f145⟩) (by decide) (by decide) (by decide : (0 : Nat) < 2) rfl ge_z rfl (fun h195 W196 A197 => ?_)
  have f198 : Exa Z h195 a "com/example/interlace/interlace/engine/Floors" := f160.wr W196
  have f199 : Fld Z h195 a "com/example/interlace/interlace/engine/Floors" "floors" "[J" (.ref x) := f161.other W196 (Or.inl n_a_z)
  have f200 : Fld Z h195 a "com/example/interlace/interlace/engine/Floors" "hasFloor" "[Z" (.ref y) := f162.other W196 (Or.inl n_a_z)
  have f201 : Fld Z h195 a "com/example/interlace/interlace/engine/Floors" "rests" "[[J" (.ref z) := f163.other W196 (Or.inl n_a_z)
  have f202 : Arj Z h195 x [f0, f1] := f164.other W196 n_x_z
  have f203 : Ari Z h195 y .boolean [(1 : Int32), (0 : Int32)] := f165.other W196 n_y_z
  have f204 : Exa Z h195 e "com/example/interlace/interlace/engine/Plan$Bind" := f167.wr W196
  have f205 : Fld Z h195 e "com/example/interlace/interlace/engine/Plan$Bind" "variable" "I" (.int (0 : Int32)) := f168.other W196 (Or.inl n_e_z)
  have f206 : Fld Z h195 e "com/example/interlace/interlace/engine/Plan$Bind" "required" "Lcom/example/interlace/interlace/engine/Plan$Required;" (.ref q0) := f169.other W196 (Or.inl n_e_z)
  have f207 : Exa Z h195 q0 "com/example/interlace/interlace/engine/Plan$Required" := f170.wr W196
  have f208 : Fld Z h195 q0 "com/example/interlace/interlace/engine/Plan$Required" "operand" "Lcom/example/interlace/interlace/pattern/Structure;" (.ref l0) := f171.other W196 (Or.inl n_q0_z)
  have f209 : Fld Z h195 q0 "com/example/interlace/interlace/engine/Plan$Required" "rest" "Lcom/example/interlace/interlace/engine/Plan$Required;" (.ref q1) := f172.other W196 (Or.inl n_q0_z)
  have f210 : Exa Z h195 q1 "com/example/interlace/interlace/engine/Plan$Required" := f173.wr W196
  have f211 : Fld Z h195 q1 "com/example/interlace/interlace/engine/Plan$Required" "operand" "Lcom/example/interlace/interlace/pattern/Structure;" (.ref l1) := f174.other W196 (Or.inl n_q1_z)
  have f212 : Fld Z h195 q1 "com/example/interlace/interlace/engine/Plan$Required" "rest" "Lcom/example/interlace/interlace/engine/Plan$Required;" (.null) := f175.other W196 (Or.inl n_q1_z)
  have f213 : Exa Z h195 l0 "com/example/interlace/interlace/pattern/Structure$Leaf" := f176.wr W196
  have f214 : Fld Z h195 l0 "com/example/interlace/interlace/pattern/Structure$Leaf" "variable" "I" (.int (0 : Int32)) := f177.other W196 (Or.inl n_l0_z)
  have f215 : Exa Z h195 l1 "com/example/interlace/interlace/pattern/Structure$Leaf" := f178.wr W196
  have f216 : Fld Z h195 l1 "com/example/interlace/interlace/pattern/Structure$Leaf" "variable" "I" (.int (1 : Int32)) := f179.other W196 (Or.inl n_l1_z)
  have f217 : Sta Z h195 "com/example/interlace/interlace/engine/Floors" "NONE" "[J" (.ref nn) := f180.wr W196
  have f218 : Arj Z h195 nn [] := f181.other W196 n_nn_z
  have f219 : Exa Z h195 nn "[J" := f182.wr W196
  have f220 : Arj Z h195 a13 [f0] := f183.other W196 (Ne.symm ne20)
  have f221 : Exa Z h195 a13 "[J" := f184.wr W196
  have f222 : Arj Z h195 a57 [f0] := f185.other W196 (Ne.symm ne64)
  have f223 : Exa Z h195 a57 "[J" := f186.wr W196
  have f224 : Arj Z h195 a142 [f0] := f144.other W196 (Ne.symm ne149)
  have f225 : Exa Z h195 a142 "[J" := f145.wr W196
  have zs226 : Z.heap.size ≤ h195.size := W196.size ▸ zs187
  have kp227 : Keep h h195 [z] := kp188.wr W196 (Or.inl (by simp))
  refine Go.aload_n 59 d11_58 rfl rfl rfl ?_
  refine Go.areturn d11_59 rfl rfl rfl (by decide) (by decide) ?_
  exact ⟨a142, rfl, fr159, kp227, f224, f225⟩

theorem ef_k_ra11 (m : MethodId) (x0 : Addr) (x1 : Addr) : entryFrame m #[(.ref x0), (.ref x1)] 4 = mkF m 0 #[.val (.ref x0), .val (.ref x1), .unset, .unset] [] := by first | (simp [entryFrame, mkF, argsToLocals, Value.category]; done) | rfl

set_option maxRecDepth 65536 in
set_option maxHeartbeats 40000000 in
theorem k_ra11 {l : Launch} {Z : State} {a0 : Array Value} (hw : ∀ d ∈ tables_1, d.before a0 Z = true) {x : Addr} {y : Addr} {z : Addr} {q0 : Addr} {q1 : Addr} {l0 : Addr} {l1 : Addr} {nn : Addr} {f0 : Int64} {f1 : Int64} (h : Heap) (hz : Z.heap.size ≤ h.size) (a : Addr) (e : Addr) (fa0 : Exa Z h a "com/example/interlace/interlace/engine/Floors") (fa1 : Fld Z h a "com/example/interlace/interlace/engine/Floors" "floors" "[J" (.ref x)) (fa2 : Fld Z h a "com/example/interlace/interlace/engine/Floors" "hasFloor" "[Z" (.ref y)) (fa3 : Fld Z h a "com/example/interlace/interlace/engine/Floors" "rests" "[[J" (.ref z)) (fa4 : Arj Z h x [f0, f1]) (fa5 : Ari Z h y .boolean [(1 : Int32), (1 : Int32)]) (fa6 : Arz Z h z .long "[J" [.null, .null]) (fa7 : Exa Z h e "com/example/interlace/interlace/engine/Plan$Bind") (fa8 : Fld Z h e "com/example/interlace/interlace/engine/Plan$Bind" "variable" "I" (.int (0 : Int32))) (fa9 : Fld Z h e "com/example/interlace/interlace/engine/Plan$Bind" "required" "Lcom/example/interlace/interlace/engine/Plan$Required;" (.ref q0)) (fa10 : Exa Z h q0 "com/example/interlace/interlace/engine/Plan$Required") (fa11 : Fld Z h q0 "com/example/interlace/interlace/engine/Plan$Required" "operand" "Lcom/example/interlace/interlace/pattern/Structure;" (.ref l0)) (fa12 : Fld Z h q0 "com/example/interlace/interlace/engine/Plan$Required" "rest" "Lcom/example/interlace/interlace/engine/Plan$Required;" (.ref q1)) (fa13 : Exa Z h q1 "com/example/interlace/interlace/engine/Plan$Required") (fa14 : Fld Z h q1 "com/example/interlace/interlace/engine/Plan$Required" "operand" "Lcom/example/interlace/interlace/pattern/Structure;" (.ref l1)) (fa15 : Fld Z h q1 "com/example/interlace/interlace/engine/Plan$Required" "rest" "Lcom/example/interlace/interlace/engine/Plan$Required;" (.null)) (fa16 : Exa Z h l0 "com/example/interlace/interlace/pattern/Structure$Leaf") (fa17 : Fld Z h l0 "com/example/interlace/interlace/pattern/Structure$Leaf" "variable" "I" (.int (0 : Int32))) (fa18 : Exa Z h l1 "com/example/interlace/interlace/pattern/Structure$Leaf") (fa19 : Fld Z h l1 "com/example/interlace/interlace/pattern/Structure$Leaf" "variable" "I" (.int (1 : Int32))) (fa20 : Sta Z h "com/example/interlace/interlace/engine/Floors" "NONE" "[J" (.ref nn)) (fa21 : Arj Z h nn []) (fa22 : Exa Z h nn "[J")  (ge_z : Z.heap.size ≤ z) (n_a_z : a ≠ z) (n_x_z : x ≠ z) (n_y_z : y ≠ z) (n_e_z : e ≠ z) (n_q0_z : q0 ≠ z) (n_q1_z : q1 ≠ z) (n_l0_z : l0 ≠ z) (n_l1_z : l1 ≠ z) (n_nn_z : nn ≠ z) : Go l Z (⟨"com/example/interlace/interlace/engine/Floors", "restAfter", "(Lcom/example/interlace/interlace/engine/Plan$Bind;)[J"⟩ : MethodName) prog_34_method_4_code 4 (Option.some (Jvm.ClassFile.FieldType.array Jvm.ClassFile.FieldType.long)) ({ frames := 5, cells := 10, slots := 80, locals := 130 } : Room) (QR fun rz h' => ∃ r : Addr, rz = .ref r ∧ h.size ≤ r ∧ Keep h h' [z] ∧ Arj Z h' r [(if f1 < f0 then f1 else f0), (if f1 < f0 then f0 else f1)] ∧ Exa Z h' r "[J") 0 0 h 0 #[.val (.ref a), .val (.ref e), .unset, .unset] [] := by
  have kp0 : Keep h h [z] := Keep.refl _ _
  refine Go.aload_n 1 d11_0 rfl rfl rfl ?_
  refine Go.getfield 4 d11_1 (tw17 hw) fa3 rfl ?_
  refine Go.aload_n 5 d11_4 rfl rfl rfl ?_
  refine Go.callVIp [] [.ref z] 8 d11_5 (tw85 hw) (tw86 hw) (tw88 hw) (tw87 hw) (tw67 hw) (tw89 hw) fa7 pl12 (by decide) (lenOf pd12 rfl) rfl (fun m => ef_k_bv m e) _ (k_bv hw h hz e fa8) 1 rfl (Nat.le_of_eq rfl) (by decide) (by decide) (by decide) (by decide) rfl ?_
  refine Go.zzload (x := .null) (0) 9 d11_8 fa6 (by decide) (by decide) rfl rfl ?_
  refine Go.astore_n 10 #[.val (.ref a), .val (.ref e), .val (.null), .unset] d11_9 rfl rfl rfl ?_
  refine Go.aload_n 11 d11_10 rfl rfl rfl ?_
  refine Go.ifnonnull_no 14 d11_11 rfl ?_
  refine Go.getstatic 17 d11_14 (tw90 hw) fa20 rfl ?_
  refine Go.astore_n 18 #[.val (.ref a), .val (.ref e), .val (.ref nn), .unset] d11_17 rfl rfl rfl ?_
  refine Go.aload_n 19 d11_18 rfl rfl rfl ?_
  refine Go.callVRp [] [] 22 d11_19 (tw92 hw) (tw93 hw) (tw95 hw) (tw94 hw) (tw67 hw) (tw96 hw) fa7 pl13 (by decide) (lenOf pd13 rfl) rfl (fun m => ef_k_bq m e) _ (k_bq hw h hz e fa9) 0 rfl (Nat.le_of_eq rfl) (by decide) (by decide) (by decide) (by decide) rfl ?_
  refine Go.astore_n 23 #[.val (.ref a), .val (.ref e), .val (.ref nn), .val (.ref q0)] d11_22 rfl rfl rfl ?_
  refine Go.aload_n 24 d11_23 rfl rfl rfl ?_
  refine Go.ifnull_no 27 d11_24 rfl ?_
  refine Go.aload_n 28 d11_27 rfl rfl rfl ?_
  refine Go.aload_n 29 d11_28 rfl rfl rfl ?_
  refine Go.aload_n 30 d11_29 rfl rfl rfl ?_
  refine Go.callVRp [] [.ref a, .ref nn] 33 d11_30 (tw97 hw) (tw98 hw) (tw100 hw) (tw99 hw) (tw40 hw) (tw101 hw) fa10 pl14 (by decide) (lenOf pd14 rfl) rfl (fun m => ef_k_ro m q0) _ (k_ro hw h hz q0 fa11) 2 rfl (Nat.le_of_eq rfl) (by decide) (by decide) (by decide) (by decide) rfl ?_
  refine Go.callQR [.ref l0] [.ref nn] 36 d11_33 (tw102 hw) (tw104 hw) (own_selp (tw22 hw) rfl (tw103 hw) (tw104 hw) (by decide)) (tw103 hw) (tw2 hw) (tw105 hw) fa0 pl15 (by decide) (lenOf pd15 rfl) rfl (fun m => ef_k_lea01 m a l0) _ (k_lea01 hw h hz a l0 fa0 fa1 fa2 fa4 fa5 fa16 fa17 fa20 fa21 fa22) 1 rfl (Nat.le_of_eq rfl) (by decide) (by decide) (by decide) (by decide) rfl ?_
  rintro z10 h11 ⟨a13, rfl, g14, K12, f15, f16⟩
  have ne17 : a ≠ a13 := Nat.ne_of_lt (Nat.lt_of_lt_of_le fa0.lt g14)
  have ne18 : x ≠ a13 := Nat.ne_of_lt (Nat.lt_of_lt_of_le fa4.lt g14)
  have ne19 : y ≠ a13 := Nat.ne_of_lt (Nat.lt_of_lt_of_le fa5.lt g14)
  have ne20 : z ≠ a13 := Nat.ne_of_lt (Nat.lt_of_lt_of_le fa6.lt g14)
  have ne21 : e ≠ a13 := Nat.ne_of_lt (Nat.lt_of_lt_of_le fa7.lt g14)
  have ne22 : q0 ≠ a13 := Nat.ne_of_lt (Nat.lt_of_lt_of_le fa10.lt g14)
  have ne23 : q1 ≠ a13 := Nat.ne_of_lt (Nat.lt_of_lt_of_le fa13.lt g14)
  have ne24 : l0 ≠ a13 := Nat.ne_of_lt (Nat.lt_of_lt_of_le fa16.lt g14)
  have ne25 : l1 ≠ a13 := Nat.ne_of_lt (Nat.lt_of_lt_of_le fa18.lt g14)
  have ne26 : nn ≠ a13 := Nat.ne_of_lt (Nat.lt_of_lt_of_le fa21.lt g14)
  have ge27 : Z.heap.size ≤ a13 := Nat.le_trans hz g14
  have fr28 : h.size ≤ a13 := Nat.le_trans kp0.1 g14
  have f29 : Exa Z h11 a "com/example/interlace/interlace/engine/Floors" := fa0.keep K12
  have f30 : Fld Z h11 a "com/example/interlace/interlace/engine/Floors" "floors" "[J" (.ref x) := fa1.keep K12 nin0
  have f31 : Fld Z h11 a "com/example/interlace/interlace/engine/Floors" "hasFloor" "[Z" (.ref y) := fa2.keep K12 nin0
  have f32 : Fld Z h11 a "com/example/interlace/interlace/engine/Floors" "rests" "[[J" (.ref z) := fa3.keep K12 nin0
  have f33 : Arj Z h11 x [f0, f1] := fa4.keep K12 nin0
  have f34 : Ari Z h11 y .boolean [(1 : Int32), (1 : Int32)] := fa5.keep K12 nin0
  have f35 : Arz Z h11 z .long "[J" [.null, .null] := fa6.keep K12 nin0
  have f36 : Exa Z h11 e "com/example/interlace/interlace/engine/Plan$Bind" := fa7.keep K12
  have f37 : Fld Z h11 e "com/example/interlace/interlace/engine/Plan$Bind" "variable" "I" (.int (0 : Int32)) := fa8.keep K12 nin0
  have f38 : Fld Z h11 e "com/example/interlace/interlace/engine/Plan$Bind" "required" "Lcom/example/interlace/interlace/engine/Plan$Required;" (.ref q0) := fa9.keep K12 nin0
  have f39 : Exa Z h11 q0 "com/example/interlace/interlace/engine/Plan$Required" := fa10.keep K12
  have f40 : Fld Z h11 q0 "com/example/interlace/interlace/engine/Plan$Required" "operand" "Lcom/example/interlace/interlace/pattern/Structure;" (.ref l0) := fa11.keep K12 nin0
  have f41 : Fld Z h11 q0 "com/example/interlace/interlace/engine/Plan$Required" "rest" "Lcom/example/interlace/interlace/engine/Plan$Required;" (.ref q1) := fa12.keep K12 nin0
  have f42 : Exa Z h11 q1 "com/example/interlace/interlace/engine/Plan$Required" := fa13.keep K12
  have f43 : Fld Z h11 q1 "com/example/interlace/interlace/engine/Plan$Required" "operand" "Lcom/example/interlace/interlace/pattern/Structure;" (.ref l1) := fa14.keep K12 nin0
  have f44 : Fld Z h11 q1 "com/example/interlace/interlace/engine/Plan$Required" "rest" "Lcom/example/interlace/interlace/engine/Plan$Required;" (.null) := fa15.keep K12 nin0
  have f45 : Exa Z h11 l0 "com/example/interlace/interlace/pattern/Structure$Leaf" := fa16.keep K12
  have f46 : Fld Z h11 l0 "com/example/interlace/interlace/pattern/Structure$Leaf" "variable" "I" (.int (0 : Int32)) := fa17.keep K12 nin0
  have f47 : Exa Z h11 l1 "com/example/interlace/interlace/pattern/Structure$Leaf" := fa18.keep K12
  have f48 : Fld Z h11 l1 "com/example/interlace/interlace/pattern/Structure$Leaf" "variable" "I" (.int (1 : Int32)) := fa19.keep K12 nin0
  have f49 : Sta Z h11 "com/example/interlace/interlace/engine/Floors" "NONE" "[J" (.ref nn) := own_staK fa20 K12 all0
  have f50 : Arj Z h11 nn [] := fa21.keep K12 nin0
  have f51 : Exa Z h11 nn "[J" := fa22.keep K12
  have zs52 : Z.heap.size ≤ h11.size := Nat.le_trans hz K12.1
  have kp53 : Keep h h11 [z] := kp0.trans K12 all0
  refine Go.callSR [.ref nn, .ref a13] [] 39 d11_36 (tw147 hw) (tw148 hw) (tw2 hw) (tw149 hw) pl21 (by decide) (lenOf pd21 rfl) rfl (fun m => ef_k_mg01 m nn a13) _ (k_mg01 hw h11 zs52 nn a13 f50 f51 f15) 0 rfl (Nat.le_of_eq rfl) (by decide) (by decide) (by decide) (by decide) rfl ?_
  rintro z54 h55 ⟨a57, rfl, g58, K56, f59, f60⟩
  have ne61 : a ≠ a57 := Nat.ne_of_lt (Nat.lt_of_lt_of_le f29.lt g58)
  have ne62 : x ≠ a57 := Nat.ne_of_lt (Nat.lt_of_lt_of_le f33.lt g58)
  have ne63 : y ≠ a57 := Nat.ne_of_lt (Nat.lt_of_lt_of_le f34.lt g58)
  have ne64 : z ≠ a57 := Nat.ne_of_lt (Nat.lt_of_lt_of_le f35.lt g58)
  have ne65 : e ≠ a57 := Nat.ne_of_lt (Nat.lt_of_lt_of_le f36.lt g58)
  have ne66 : q0 ≠ a57 := Nat.ne_of_lt (Nat.lt_of_lt_of_le f39.lt g58)
  have ne67 : q1 ≠ a57 := Nat.ne_of_lt (Nat.lt_of_lt_of_le f42.lt g58)
  have ne68 : l0 ≠ a57 := Nat.ne_of_lt (Nat.lt_of_lt_of_le f45.lt g58)
  have ne69 : l1 ≠ a57 := Nat.ne_of_lt (Nat.lt_of_lt_of_le f47.lt g58)
  have ne70 : nn ≠ a57 := Nat.ne_of_lt (Nat.lt_of_lt_of_le f50.lt g58)
  have ne71 : a13 ≠ a57 := Nat.ne_of_lt (Nat.lt_of_lt_of_le f15.lt g58)
  have ge72 : Z.heap.size ≤ a57 := Nat.le_trans zs52 g58
  have fr73 : h.size ≤ a57 := Nat.le_trans kp53.1 g58
  have f74 : Exa Z h55 a "com/example/interlace/interlace/engine/Floors" := f29.keep K56
  have f75 : Fld Z h55 a "com/example/interlace/interlace/engine/Floors" "floors" "[J" (.ref x) := f30.keep K56 nin0
  have f76 : Fld Z h55 a "com/example/interlace/interlace/engine/Floors" "hasFloor" "[Z" (.ref y) := f31.keep K56 nin0
  have f77 : Fld Z h55 a "com/example/interlace/interlace/engine/Floors" "rests" "[[J" (.ref z) := f32.keep K56 nin0
  have f78 : Arj Z h55 x [f0, f1] := f33.keep K56 nin0
  have f79 : Ari Z h55 y .boolean [(1 : Int32), (1 : Int32)] := f34.keep K56 nin0
  have f80 : Arz Z h55 z .long "[J" [.null, .null] := f35.keep K56 nin0
  have f81 : Exa Z h55 e "com/example/interlace/interlace/engine/Plan$Bind" := f36.keep K56
  have f82 : Fld Z h55 e "com/example/interlace/interlace/engine/Plan$Bind" "variable" "I" (.int (0 : Int32)) := f37.keep K56 nin0
  have f83 : Fld Z h55 e "com/example/interlace/interlace/engine/Plan$Bind" "required" "Lcom/example/interlace/interlace/engine/Plan$Required;" (.ref q0) := f38.keep K56 nin0
  have f84 : Exa Z h55 q0 "com/example/interlace/interlace/engine/Plan$Required" := f39.keep K56
  have f85 : Fld Z h55 q0 "com/example/interlace/interlace/engine/Plan$Required" "operand" "Lcom/example/interlace/interlace/pattern/Structure;" (.ref l0) := f40.keep K56 nin0
  have f86 : Fld Z h55 q0 "com/example/interlace/interlace/engine/Plan$Required" "rest" "Lcom/example/interlace/interlace/engine/Plan$Required;" (.ref q1) := f41.keep K56 nin0
  have f87 : Exa Z h55 q1 "com/example/interlace/interlace/engine/Plan$Required" := f42.keep K56
  have f88 : Fld Z h55 q1 "com/example/interlace/interlace/engine/Plan$Required" "operand" "Lcom/example/interlace/interlace/pattern/Structure;" (.ref l1) := f43.keep K56 nin0
  have f89 : Fld Z h55 q1 "com/example/interlace/interlace/engine/Plan$Required" "rest" "Lcom/example/interlace/interlace/engine/Plan$Required;" (.null) := f44.keep K56 nin0
  have f90 : Exa Z h55 l0 "com/example/interlace/interlace/pattern/Structure$Leaf" := f45.keep K56
  have f91 : Fld Z h55 l0 "com/example/interlace/interlace/pattern/Structure$Leaf" "variable" "I" (.int (0 : Int32)) := f46.keep K56 nin0
  have f92 : Exa Z h55 l1 "com/example/interlace/interlace/pattern/Structure$Leaf" := f47.keep K56
  have f93 : Fld Z h55 l1 "com/example/interlace/interlace/pattern/Structure$Leaf" "variable" "I" (.int (1 : Int32)) := f48.keep K56 nin0
  have f94 : Sta Z h55 "com/example/interlace/interlace/engine/Floors" "NONE" "[J" (.ref nn) := own_staK f49 K56 all0
  have f95 : Arj Z h55 nn [] := f50.keep K56 nin0
  have f96 : Exa Z h55 nn "[J" := f51.keep K56
  have f97 : Arj Z h55 a13 [f0] := f15.keep K56 nin0
  have f98 : Exa Z h55 a13 "[J" := f16.keep K56
  have zs99 : Z.heap.size ≤ h55.size := Nat.le_trans zs52 K56.1
  have kp100 : Keep h h55 [z] := kp53.trans K56 all0
  refine Go.astore_n 40 #[.val (.ref a), .val (.ref e), .val (.ref a57), .val (.ref q0)] d11_39 rfl rfl rfl ?_
  refine Go.aload_n 41 d11_40 rfl rfl rfl ?_
  refine Go.callVRp [] [] 44 d11_41 (tw175 hw) (tw176 hw) (tw178 hw) (tw177 hw) (tw40 hw) (tw179 hw) f84 pl28 (by decide) (lenOf pd28 rfl) rfl (fun m => ef_k_rrA m q0) _ (k_rrA hw h55 zs99 q0 f86) 0 rfl (Nat.le_of_eq rfl) (by decide) (by decide) (by decide) (by decide) rfl ?_
  refine Go.astore_n 45 #[.val (.ref a), .val (.ref e), .val (.ref a57), .val (.ref q1)] d11_44 rfl rfl rfl ?_
  refine Go.goto 23 d11_45 (by decide) (by decide) ?_
  refine Go.aload_n 24 d11_23 rfl rfl rfl ?_
  refine Go.ifnull_no 27 d11_24 rfl ?_
  refine Go.aload_n 28 d11_27 rfl rfl rfl ?_
  refine Go.aload_n 29 d11_28 rfl rfl rfl ?_
  refine Go.aload_n 30 d11_29 rfl rfl rfl ?_
  refine Go.callVRp [] [.ref a, .ref a57] 33 d11_30 (tw97 hw) (tw98 hw) (tw100 hw) (tw99 hw) (tw40 hw) (tw101 hw) f87 pl14 (by decide) (lenOf pd14 rfl) rfl (fun m => ef_k_ro m q1) _ (k_ro hw h55 zs99 q1 f88) 2 rfl (Nat.le_of_eq rfl) (by decide) (by decide) (by decide) (by decide) rfl ?_
  refine Go.callQR [.ref l1] [.ref a57] 36 d11_33 (tw102 hw) (tw104 hw) (own_selp (tw22 hw) rfl (tw103 hw) (tw104 hw) (by decide)) (tw103 hw) (tw2 hw) (tw105 hw) f74 pl15 (by decide) (lenOf pd15 rfl) rfl (fun m => ef_k_lea11 m a l1) _ (k_lea11 hw h55 zs99 a l1 f74 f75 f76 f78 f79 f92 f93 f94 f95 f96) 1 rfl (Nat.le_of_eq rfl) (by decide) (by decide) (by decide) (by decide) rfl ?_
  rintro z107 h108 ⟨a110, rfl, g111, K109, f112, f113⟩
  have ne114 : a ≠ a110 := Nat.ne_of_lt (Nat.lt_of_lt_of_le f74.lt g111)
  have ne115 : x ≠ a110 := Nat.ne_of_lt (Nat.lt_of_lt_of_le f78.lt g111)
  have ne116 : y ≠ a110 := Nat.ne_of_lt (Nat.lt_of_lt_of_le f79.lt g111)
  have ne117 : z ≠ a110 := Nat.ne_of_lt (Nat.lt_of_lt_of_le f80.lt g111)
  have ne118 : e ≠ a110 := Nat.ne_of_lt (Nat.lt_of_lt_of_le f81.lt g111)
  have ne119 : q0 ≠ a110 := Nat.ne_of_lt (Nat.lt_of_lt_of_le f84.lt g111)
  have ne120 : q1 ≠ a110 := Nat.ne_of_lt (Nat.lt_of_lt_of_le f87.lt g111)
  have ne121 : l0 ≠ a110 := Nat.ne_of_lt (Nat.lt_of_lt_of_le f90.lt g111)
  have ne122 : l1 ≠ a110 := Nat.ne_of_lt (Nat.lt_of_lt_of_le f92.lt g111)
  have ne123 : nn ≠ a110 := Nat.ne_of_lt (Nat.lt_of_lt_of_le f95.lt g111)
  have ne124 : a13 ≠ a110 := Nat.ne_of_lt (Nat.lt_of_lt_of_le f97.lt g111)
  have ne125 : a57 ≠ a110 := Nat.ne_of_lt (Nat.lt_of_lt_of_le f59.lt g111)
  have ge126 : Z.heap.size ≤ a110 := Nat.le_trans zs99 g111
  have fr127 : h.size ≤ a110 := Nat.le_trans kp100.1 g111
  have f128 : Exa Z h108 a "com/example/interlace/interlace/engine/Floors" := f74.keep K109
  have f129 : Fld Z h108 a "com/example/interlace/interlace/engine/Floors" "floors" "[J" (.ref x) := f75.keep K109 nin0
  have f130 : Fld Z h108 a "com/example/interlace/interlace/engine/Floors" "hasFloor" "[Z" (.ref y) := f76.keep K109 nin0
  have f131 : Fld Z h108 a "com/example/interlace/interlace/engine/Floors" "rests" "[[J" (.ref z) := f77.keep K109 nin0
  have f132 : Arj Z h108 x [f0, f1] := f78.keep K109 nin0
  have f133 : Ari Z h108 y .boolean [(1 : Int32), (1 : Int32)] := f79.keep K109 nin0
  have f134 : Arz Z h108 z .long "[J" [.null, .null] := f80.keep K109 nin0
  have f135 : Exa Z h108 e "com/example/interlace/interlace/engine/Plan$Bind" := f81.keep K109
  have f136 : Fld Z h108 e "com/example/interlace/interlace/engine/Plan$Bind" "variable" "I" (.int (0 : Int32)) := f82.keep K109 nin0
  have f137 : Fld Z h108 e "com/example/interlace/interlace/engine/Plan$Bind" "required" "Lcom/example/interlace/interlace/engine/Plan$Required;" (.ref q0) := f83.keep K109 nin0
  have f138 : Exa Z h108 q0 "com/example/interlace/interlace/engine/Plan$Required" := f84.keep K109
  have f139 : Fld Z h108 q0 "com/example/interlace/interlace/engine/Plan$Required" "operand" "Lcom/example/interlace/interlace/pattern/Structure;" (.ref l0) := f85.keep K109 nin0
  have f140 : Fld Z h108 q0 "com/example/interlace/interlace/engine/Plan$Required" "rest" "Lcom/example/interlace/interlace/engine/Plan$Required;" (.ref q1) := f86.keep K109 nin0
  have f141 : Exa Z h108 q1 "com/example/interlace/interlace/engine/Plan$Required" := f87.keep K109
  have f142 : Fld Z h108 q1 "com/example/interlace/interlace/engine/Plan$Required" "operand" "Lcom/example/interlace/interlace/pattern/Structure;" (.ref l1) := f88.keep K109 nin0
  have f143 : Fld Z h108 q1 "com/example/interlace/interlace/engine/Plan$Required" "rest" "Lcom/example/interlace/interlace/engine/Plan$Required;" (.null) := f89.keep K109 nin0
  have f144 : Exa Z h108 l0 "com/example/interlace/interlace/pattern/Structure$Leaf" := f90.keep K109
  have f145 : Fld Z h108 l0 "com/example/interlace/interlace/pattern/Structure$Leaf" "variable" "I" (.int (0 : Int32)) := f91.keep K109 nin0
  have f146 : Exa Z h108 l1 "com/example/interlace/interlace/pattern/Structure$Leaf" := f92.keep K109
  have f147 : Fld Z h108 l1 "com/example/interlace/interlace/pattern/Structure$Leaf" "variable" "I" (.int (1 : Int32)) := f93.keep K109 nin0
  have f148 : Sta Z h108 "com/example/interlace/interlace/engine/Floors" "NONE" "[J" (.ref nn) := own_staK f94 K109 all0
  have f149 : Arj Z h108 nn [] := f95.keep K109 nin0
  have f150 : Exa Z h108 nn "[J" := f96.keep K109
  have f151 : Arj Z h108 a13 [f0] := f97.keep K109 nin0
  have f152 : Exa Z h108 a13 "[J" := f98.keep K109
  have f153 : Arj Z h108 a57 [f0] := f59.keep K109 nin0
  have f154 : Exa Z h108 a57 "[J" := f60.keep K109
  have zs155 : Z.heap.size ≤ h108.size := Nat.le_trans zs99 K109.1
  have kp156 : Keep h h108 [z] := kp100.trans K109 all0
  refine Go.callSR [.ref a57, .ref a110] [] 39 d11_36 (tw147 hw) (tw148 hw) (tw2 hw) (tw149 hw) pl21 (by decide) (lenOf pd21 rfl) rfl (fun m => ef_k_mg11 m a57 a110) _ (k_mg11 hw h108 zs155 a57 a110 f153 f154 f112) 0 rfl (Nat.le_of_eq rfl) (by decide) (by decide) (by decide) (by decide) rfl ?_
  rintro z157 h158 ⟨a160, rfl, g161, K159, f162, f163⟩
  have ne164 : a ≠ a160 := Nat.ne_of_lt (Nat.lt_of_lt_of_le f128.lt g161)
  have ne165 : x ≠ a160 := Nat.ne_of_lt (Nat.lt_of_lt_of_le f132.lt g161)
  have ne166 : y ≠ a160 := Nat.ne_of_lt (Nat.lt_of_lt_of_le f133.lt g161)
  have ne167 : z ≠ a160 := Nat.ne_of_lt (Nat.lt_of_lt_of_le f134.lt g161)
  have ne168 : e ≠ a160 := Nat.ne_of_lt (Nat.lt_of_lt_of_le f135.lt g161)
  have ne169 : q0 ≠ a160 := Nat.ne_of_lt (Nat.lt_of_lt_of_le f138.lt g161)
  have ne170 : q1 ≠ a160 := Nat.ne_of_lt (Nat.lt_of_lt_of_le f141.lt g161)
  have ne171 : l0 ≠ a160 := Nat.ne_of_lt (Nat.lt_of_lt_of_le f144.lt g161)
  have ne172 : l1 ≠ a160 := Nat.ne_of_lt (Nat.lt_of_lt_of_le f146.lt g161)
  have ne173 : nn ≠ a160 := Nat.ne_of_lt (Nat.lt_of_lt_of_le f149.lt g161)
  have ne174 : a13 ≠ a160 := Nat.ne_of_lt (Nat.lt_of_lt_of_le f151.lt g161)
  have ne175 : a57 ≠ a160 := Nat.ne_of_lt (Nat.lt_of_lt_of_le f153.lt g161)
  have ne176 : a110 ≠ a160 := Nat.ne_of_lt (Nat.lt_of_lt_of_le f112.lt g161)
  have ge177 : Z.heap.size ≤ a160 := Nat.le_trans zs155 g161
  have fr178 : h.size ≤ a160 := Nat.le_trans kp156.1 g161
  have f179 : Exa Z h158 a "com/example/interlace/interlace/engine/Floors" := f128.keep K159
  have f180 : Fld Z h158 a "com/example/interlace/interlace/engine/Floors" "floors" "[J" (.ref x) := f129.keep K159 nin0
  have f181 : Fld Z h158 a "com/example/interlace/interlace/engine/Floors" "hasFloor" "[Z" (.ref y) := f130.keep K159 nin0
  have f182 : Fld Z h158 a "com/example/interlace/interlace/engine/Floors" "rests" "[[J" (.ref z) := f131.keep K159 nin0
  have f183 : Arj Z h158 x [f0, f1] := f132.keep K159 nin0
  have f184 : Ari Z h158 y .boolean [(1 : Int32), (1 : Int32)] := f133.keep K159 nin0
  have f185 : Arz Z h158 z .long "[J" [.null, .null] := f134.keep K159 nin0
  have f186 : Exa Z h158 e "com/example/interlace/interlace/engine/Plan$Bind" := f135.keep K159
  have f187 : Fld Z h158 e "com/example/interlace/interlace/engine/Plan$Bind" "variable" "I" (.int (0 : Int32)) := f136.keep K159 nin0
  have f188 : Fld Z h158 e "com/example/interlace/interlace/engine/Plan$Bind" "required" "Lcom/example/interlace/interlace/engine/Plan$Required;" (.ref q0) := f137.keep K159 nin0
  have f189 : Exa Z h158 q0 "com/example/interlace/interlace/engine/Plan$Required" := f138.keep K159
  have f190 : Fld Z h158 q0 "com/example/interlace/interlace/engine/Plan$Required" "operand" "Lcom/example/interlace/interlace/pattern/Structure;" (.ref l0) := f139.keep K159 nin0
  have f191 : Fld Z h158 q0 "com/example/interlace/interlace/engine/Plan$Required" "rest" "Lcom/example/interlace/interlace/engine/Plan$Required;" (.ref q1) := f140.keep K159 nin0
  have f192 : Exa Z h158 q1 "com/example/interlace/interlace/engine/Plan$Required" := f141.keep K159
  have f193 : Fld Z h158 q1 "com/example/interlace/interlace/engine/Plan$Required" "operand" "Lcom/example/interlace/interlace/pattern/Structure;" (.ref l1) := f142.keep K159 nin0
  have f194 : Fld Z h158 q1 "com/example/interlace/interlace/engine/Plan$Required" "rest" "Lcom/example/interlace/interlace/engine/Plan$Required;" (.null) := f143.keep K159 nin0
  have f195 : Exa Z h158 l0 "com/example/interlace/interlace/pattern/Structure$Leaf" := f144.keep K159
  have f196 : Fld Z h158 l0 "com/example/interlace/interlace/pattern/Structure$Leaf" "variable" "I" (.int (0 : Int32)) := f145.keep K159 nin0
  have f197 : Exa Z h158 l1 "com/example/interlace/interlace/pattern/Structure$Leaf" := f146.keep K159
  have f198 : Fld Z h158 l1 "com/example/interlace/interlace/pattern/Structure$Leaf" "variable" "I" (.int (1 : Int32)) := f147.keep K159 nin0
  have f199 : Sta Z h158 "com/example/interlace/interlace/engine/Floors" "NONE" "[J" (.ref nn) := own_staK f148 K159 all0
  have f200 : Arj Z h158 nn [] := f149.keep K159 nin0
  have f201 : Exa Z h158 nn "[J" := f150.keep K159
  have f202 : Arj Z h158 a13 [f0] := f151.keep K159 nin0
  have f203 : Exa Z h158 a13 "[J" := f152.keep K159
  have f204 : Arj Z h158 a57 [f0] := f153.keep K159 nin0
  have f205 : Exa Z h158 a57 "[J" := f154.keep K159
  have f206 : Arj Z h158 a110 [f1] := f112.keep K159 nin0
  have f207 : Exa Z h158 a110 "[J" := f113.keep K159
  have zs208 : Z.heap.size ≤ h158.size := Nat.le_trans zs155 K159.1
  have kp209 : Keep h h158 [z] := kp156.trans K159 all0
  refine Go.astore_n 40 #[.val (.ref a), .val (.ref e), .val (.ref a160), .val (.ref q1)] d11_39 rfl rfl rfl ?_
  refine Go.aload_n 41 d11_40 rfl rfl rfl ?_
  refine Go.callVRp [] [] 44 d11_41 (tw175 hw) (tw176 hw) (tw178 hw) (tw177 hw) (tw40 hw) (tw179 hw) f192 pl28 (by decide) (lenOf pd28 rfl) rfl (fun m => ef_k_rrN m q1) _ (k_rrN hw h158 zs208 q1 f194) 0 rfl (Nat.le_of_eq rfl) (by decide) (by decide) (by decide) (by decide) rfl ?_
  refine Go.astore_n 45 #[.val (.ref a), .val (.ref e), .val (.ref a160), .val (.null)] d11_44 rfl rfl rfl ?_
  refine Go.goto 23 d11_45 (by decide) (by decide) ?_
  refine Go.aload_n 24 d11_23 rfl rfl rfl ?_
  refine Go.ifnull_yes 48 d11_24 (by decide) (by decide) ?_
  refine Go.aload_n 49 d11_48 rfl rfl rfl ?_
  refine Go.getfield 52 d11_49 (tw17 hw) f182 rfl ?_
  refine Go.aload_n 53 d11_52 rfl rfl rfl ?_
  refine Go.callVIp [] [.ref z] 56 d11_53 (tw85 hw) (tw86 hw) (tw88 hw) (tw87 hw) (tw67 hw) (tw89 hw) f186 pl12 (by decide) (lenOf pd12 rfl) rfl (fun m => ef_k_bv m e) _ (k_bv hw h158 zs208 e f187) 1 rfl (Nat.le_of_eq rfl) (by decide) (by decide) (by decide) (by decide) rfl ?_
  refine Go.aload_n 57 d11_56 rfl rfl rfl ?_
  refine Go.zzstore (0) ([.ref a160, .null]) 58 d11_57 f185 (Or.inr ⟨_, rfl, Ins.self f163⟩) (by decide) (by decide) (by decide : (0 : Nat) < 2) rfl ge_z rfl (fun h216 W217 A218 => ?_)
  have f219 : Exa Z h216 a "com/example/interlace/interlace/engine/Floors" := f179.wr W217
  have f220 : Fld Z h216 a "com/example/interlace/interlace/engine/Floors" "floors" "[J" (.ref x) := f180.other W217 (Or.inl n_a_z)
  have f221 : Fld Z h216 a "com/example/interlace/interlace/engine/Floors" "hasFloor" "[Z" (.ref y) := f181.other W217 (Or.inl n_a_z)
  have f222 : Fld Z h216 a "com/example/interlace/interlace/engine/Floors" "rests" "[[J" (.ref z) := f182.other W217 (Or.inl n_a_z)
  have f223 : Arj Z h216 x [f0, f1] := f183.other W217 n_x_z
  have f224 : Ari Z h216 y .boolean [(1 : Int32), (1 : Int32)] := f184.other W217 n_y_z
  have f225 : Exa Z h216 e "com/example/interlace/interlace/engine/Plan$Bind" := f186.wr W217
  have f226 : Fld Z h216 e "com/example/interlace/interlace/engine/Plan$Bind" "variable" "I" (.int (0 : Int32)) := f187.other W217 (Or.inl n_e_z)
  have f227 : Fld Z h216 e "com/example/interlace/interlace/engine/Plan$Bind" "required" "Lcom/example/interlace/interlace/engine/Plan$Required;" (.ref q0) := f188.other W217 (Or.inl n_e_z)
  have f228 : Exa Z h216 q0 "com/example/interlace/interlace/engine/Plan$Required" := f189.wr W217
  have f229 : Fld Z h216 q0 "com/example/interlace/interlace/engine/Plan$Required" "operand" "Lcom/example/interlace/interlace/pattern/Structure;" (.ref l0) := f190.other W217 (Or.inl n_q0_z)
  have f230 : Fld Z h216 q0 "com/example/interlace/interlace/engine/Plan$Required" "rest" "Lcom/example/interlace/interlace/engine/Plan$Required;" (.ref q1) := f191.other W217 (Or.inl n_q0_z)
  have f231 : Exa Z h216 q1 "com/example/interlace/interlace/engine/Plan$Required" := f192.wr W217
  have f232 : Fld Z h216 q1 "com/example/interlace/interlace/engine/Plan$Required" "operand" "Lcom/example/interlace/interlace/pattern/Structure;" (.ref l1) := f193.other W217 (Or.inl n_q1_z)
  have f233 : Fld Z h216 q1 "com/example/interlace/interlace/engine/Plan$Required" "rest" "Lcom/example/interlace/interlace/engine/Plan$Required;" (.null) := f194.other W217 (Or.inl n_q1_z)
  have f234 : Exa Z h216 l0 "com/example/interlace/interlace/pattern/Structure$Leaf" := f195.wr W217
  have f235 : Fld Z h216 l0 "com/example/interlace/interlace/pattern/Structure$Leaf" "variable" "I" (.int (0 : Int32)) := f196.other W217 (Or.inl n_l0_z)
  have f236 : Exa Z h216 l1 "com/example/interlace/interlace/pattern/Structure$Leaf" := f197.wr W217
  have f237 : Fld Z h216 l1 "com/example/interlace/interlace/pattern/Structure$Leaf" "variable" "I" (.int (1 : Int32)) := f198.other W217 (Or.inl n_l1_z)
  have f238 : Sta Z h216 "com/example/interlace/interlace/engine/Floors" "NONE" "[J" (.ref nn) := f199.wr W217
  have f239 : Arj Z h216 nn [] := f200.other W217 n_nn_z
  have f240 : Exa Z h216 nn "[J" := f201.wr W217
  have f241 : Arj Z h216 a13 [f0] := f202.other W217 (Ne.symm ne20)
  have f242 : Exa Z h216 a13 "[J" := f203.wr W217
  have f243 : Arj Z h216 a57 [f0] := f204.other W217 (Ne.symm ne64)
  have f244 : Exa Z h216 a57 "[J" := f205.wr W217
  have f245 : Arj Z h216 a110 [f1] := f206.other W217 (Ne.symm ne117)
  have f246 : Exa Z h216 a110 "[J" := f207.wr W217
  have f247 : Arj Z h216 a160 [(if f1 < f0 then f1 else f0), (if f1 < f0 then f0 else f1)] := f162.other W217 (Ne.symm ne167)
  have f248 : Exa Z h216 a160 "[J" := f163.wr W217
  have zs249 : Z.heap.size ≤ h216.size := W217.size ▸ zs208
  have kp250 : Keep h h216 [z] := kp209.wr W217 (Or.inl (by simp))
  refine Go.aload_n 59 d11_58 rfl rfl rfl ?_
  refine Go.areturn d11_59 rfl rfl rfl (by decide) (by decide) ?_
  exact ⟨a160, rfl, fr178, kp250, f247, f248⟩

theorem ef_law0 (m : MethodId) (x0 : Int64) (x1 : Int32) (x2 : Int64) (x3 : Int32) (x4 : Int64) : entryFrame m #[(.long x0), (.int x1), (.long x2), (.int x3), (.long x4)] maxLocals = mkF m 0 #[.val (.long x0), .second, .val (.int x1), .val (.long x2), .second, .val (.int x3), .val (.long x4), .second, .unset, .unset, .unset, .unset, .unset, .unset, .unset, .unset, .unset, .unset, .unset, .unset, .unset, .unset, .unset] [] := by first | (simp [entryFrame, mkF, argsToLocals, Value.category, maxLocals]; done) | rfl

set_option maxRecDepth 65536 in
set_option maxHeartbeats 40000000 in
theorem law0 {l : Launch} {Z : State} {a0 : Array Value} (hw : ∀ d ∈ tables_1, d.before a0 Z = true) {r_NONE : Addr} (h : Heap) (hz : Z.heap.size ≤ h.size) (i0 : Int64) (i1 : Int32) (i2 : Int64) (i3 : Int32) (i4 : Int64) (fa0 : Sta Z h "com/example/interlace/interlace/engine/Floors" "NONE" "[J" (.ref r_NONE)) (fa1 : Exa Z h r_NONE "[J") (fa2 : Arj Z h r_NONE [])    : Go l Z x code maxLocals ret room_1 (QI fun z h' => z = 1) 0 0 h 0 #[.val (.long i0), .second, .val (.int i1), .val (.long i2), .second, .val (.int i3), .val (.long i4), .second, .unset, .unset, .unset, .unset, .unset, .unset, .unset, .unset, .unset, .unset, .unset, .unset, .unset, .unset, .unset] [] := by
  refine Go.iload_n 1 at_0 rfl rfl ?_
  refine Go.iconst 2 (1) at_1 (by decide) rfl ?_
  refine Go.iand 3 at_2 rfl ?_
  refine Go.nameI (fun v1 e2 => ?_)
  refine Go.istore 5 #[.val (.long i0), .second, .val (.int i1), .val (.long i2), .second, .val (.int i3), .val (.long i4), .second, .val (.int v1), .unset, .unset, .unset, .unset, .unset, .unset, .unset, .unset, .unset, .unset, .unset, .unset, .unset, .unset] at_3 rfl rfl ?_
  refine Go.iload 7 at_5 rfl rfl ?_
  refine Go.iconst 8 (1) at_7 (by decide) rfl ?_
  refine Go.iand 9 at_8 rfl ?_
  refine Go.nameI (fun v3 e4 => ?_)
  refine Go.istore 11 #[.val (.long i0), .second, .val (.int i1), .val (.long i2), .second, .val (.int i3), .val (.long i4), .second, .val (.int v1), .val (.int v3), .unset, .unset, .unset, .unset, .unset, .unset, .unset, .unset, .unset, .unset, .unset, .unset, .unset] at_9 rfl rfl ?_
  refine Go.new 14 at_11 (tw0 hw) (tw1 hw) (tw2 hw) (by decide) (by decide) rfl (fun a5 h6 q7 E8 A9 D10 => ?_)
  have ne11 : r_NONE ≠ a5 := fun e => absurd fa1.lt (by rw [e, q7]; exact Nat.lt_irrefl _)
  have ge12 : Z.heap.size ≤ a5 := (Eq.symm q7) ▸ hz
  have f13 : Sta Z h6 "com/example/interlace/interlace/engine/Floors" "NONE" "[J" (.ref r_NONE) := fa0.ext E8
  have f14 : Exa Z h6 r_NONE "[J" := fa1.ext E8
  have f15 : Arj Z h6 r_NONE [] := fa2.ext E8
  have zs16 : Z.heap.size ≤ h6.size := Nat.le_trans hz E8.1
  have f17 : Fld Z h6 a5 "com/example/interlace/interlace/engine/Floors" "floors" "[J" (.null) := D10 (Or.inr (tw11 hw)) (ty := (.array .long)) (by decide)
  have f18 : Fld Z h6 a5 "com/example/interlace/interlace/engine/Floors" "hasFloor" "[Z" (.null) := D10 (Or.inr (tw14 hw)) (ty := (.array .boolean)) (by decide)
  have f19 : Fld Z h6 a5 "com/example/interlace/interlace/engine/Floors" "rests" "[[J" (.null) := D10 (Or.inr (tw18 hw)) (ty := (.array (.array .long))) (by decide)
  have f20 : Fld Z h6 a5 "com/example/interlace/interlace/engine/Floors" "latest" "J" (.long (0 : Int64)) := D10 (Or.inl (tw25 hw)) (ty := .long) (by decide)
  refine Go.dup 15 at_14 rfl rfl ?_
  refine Go.iconst 16 (2) at_15 (by decide) rfl ?_
  refine Go.callC [.int (2 : Int32)] [.ref a5] 19 at_16 rfl (tw3 hw) (tw4 hw) (tw2 hw) (tw5 hw) pl1 (by decide) (lenOf pd1 rfl) rfl (fun m => ef_k_fl m a5 (2 : Int32)) _ (k_fl hw h6 zs16 a5 A9 f17 f18 f19 f20 ge12) 1 rfl (Nat.le_of_eq rfl) (by decide) (by decide) (by decide) (by decide) rfl ?_
  rintro h22 ⟨a24, a25, a26, g27, g28, g29, ne30, ne31, ne32, K23, f33, f34, f35, f36, f37, f38, f39, f40, f41, f42⟩
  have ne43 : r_NONE ≠ a24 := Nat.ne_of_lt (Nat.lt_of_lt_of_le f14.lt g27)
  have ne44 : a5 ≠ a24 := Nat.ne_of_lt (Nat.lt_of_lt_of_le A9.lt g27)
  have ge45 : Z.heap.size ≤ a24 := Nat.le_trans zs16 g27
  have ne46 : r_NONE ≠ a25 := Nat.ne_of_lt (Nat.lt_of_lt_of_le f14.lt g28)
  have ne47 : a5 ≠ a25 := Nat.ne_of_lt (Nat.lt_of_lt_of_le A9.lt g28)
  have ge48 : Z.heap.size ≤ a25 := Nat.le_trans zs16 g28
  have ne49 : r_NONE ≠ a26 := Nat.ne_of_lt (Nat.lt_of_lt_of_le f14.lt g29)
  have ne50 : a5 ≠ a26 := Nat.ne_of_lt (Nat.lt_of_lt_of_le A9.lt g29)
  have ge51 : Z.heap.size ≤ a26 := Nat.le_trans zs16 g29
  have f52 : Sta Z h22 "com/example/interlace/interlace/engine/Floors" "NONE" "[J" (.ref r_NONE) := own_staK f13 K23 (allS (own_nost A9) all0)
  have f53 : Exa Z h22 r_NONE "[J" := f14.keep K23
  have f54 : Arj Z h22 r_NONE [] := f15.keep K23 (ninS ne11 nin0)
  have zs55 : Z.heap.size ≤ h22.size := Nat.le_trans zs16 K23.1
  refine Go.astore 21 #[.val (.long i0), .second, .val (.int i1), .val (.long i2), .second, .val (.int i3), .val (.long i4), .second, .val (.int v1), .val (.int v3), .val (.ref a5), .unset, .unset, .unset, .unset, .unset, .unset, .unset, .unset, .unset, .unset, .unset, .unset] at_19 rfl rfl rfl ?_
  refine Go.aload 23 at_21 rfl rfl rfl ?_
  refine Go.lload_n 24 at_23 rfl rfl ?_
  refine Go.callVV [.long i0] [] 27 at_24 (tw19 hw) (tw20 hw) (tw22 hw) (tw21 hw) (tw2 hw) (tw23 hw) f33 pl3 (by decide) (lenOf pd3 rfl) rfl (fun m => ef_k_clr m a5 i0) _ (k_clr hw h22 zs55 a5 i0 f33 f34 f35 f36 f37 f38 f39 f40 f41 f42 ge12 ge45 ge48 ge51 ne44 ne47 ne50 ne30 ne31 ne32) 0 rfl (Nat.le_of_eq rfl) (by decide) (by decide) (by decide) (by decide) rfl ?_
  rintro h57 ⟨K58, f59, f60, f61, f62, f63, f64, f65, f66, f67, f68⟩
  have f69 : Sta Z h57 "com/example/interlace/interlace/engine/Floors" "NONE" "[J" (.ref r_NONE) := own_staK f52 K58 (allS (own_nost f33) (allS (Ari.nostat f39) (allS (Arz.nostat f40) all0)))
  have f70 : Exa Z h57 r_NONE "[J" := f53.keep K58
  have f71 : Arj Z h57 r_NONE [] := f54.keep K58 (ninS ne11 (ninS ne46 (ninS ne49 nin0)))
  have zs72 : Z.heap.size ≤ h57.size := Nat.le_trans zs55 K58.1
  refine Go.aload 29 at_27 rfl rfl rfl ?_
  refine Go.iload 31 at_29 rfl rfl ?_
  refine Go.lload_n 32 at_31 rfl rfl ?_
  refine Go.callVV [.int v1, .long i2] [] 35 at_32 (tw33 hw) (tw34 hw) (tw36 hw) (tw35 hw) (tw2 hw) (tw37 hw) f59 pl6 (by decide) (lenOf pd6 rfl) rfl (fun m => ef_k_set m a5 v1 i2) _ (k_set hw h57 zs72 a5 v1 i2 f63 f60 f61 f64 f65 (own_two e2) ge45 ge48 ne44 ne47 ne30) 0 rfl (Nat.le_of_eq rfl) (by decide) (by decide) (by decide) (by decide) rfl ?_
  rintro h74 ⟨K75, f76, f77⟩
  have f78 : Sta Z h74 "com/example/interlace/interlace/engine/Floors" "NONE" "[J" (.ref r_NONE) := own_staK f69 K75 (allS (Arj.nostat f64) (allS (Ari.nostat f65) all0))
  have f79 : Exa Z h74 r_NONE "[J" := f70.keep K75
  have f80 : Arj Z h74 r_NONE [] := f71.keep K75 (ninS ne43 (ninS ne46 nin0))
  have f81 : Exa Z h74 a5 "com/example/interlace/interlace/engine/Floors" := f59.keep K75
  have f82 : Fld Z h74 a5 "com/example/interlace/interlace/engine/Floors" "floors" "[J" (.ref a24) := f60.keep K75 (ninS ne44 (ninS ne47 nin0))
  have f83 : Fld Z h74 a5 "com/example/interlace/interlace/engine/Floors" "hasFloor" "[Z" (.ref a25) := f61.keep K75 (ninS ne44 (ninS ne47 nin0))
  have f84 : Fld Z h74 a5 "com/example/interlace/interlace/engine/Floors" "rests" "[[J" (.ref a26) := f62.keep K75 (ninS ne44 (ninS ne47 nin0))
  have f85 : Fld Z h74 a5 "com/example/interlace/interlace/engine/Floors" "latest" "J" (.long i0) := f63.keep K75 (ninS ne44 (ninS ne47 nin0))
  have f86 : Arz Z h74 a26 .long "[J" [.null, .null] := f66.keep K75 (ninS (Ne.symm ne31) (ninS (Ne.symm ne32) nin0))
  have f87 : Exa Z h74 a24 "[J" := f67.keep K75
  have f88 : Exa Z h74 a25 "[Z" := f68.keep K75
  have zs89 : Z.heap.size ≤ h74.size := Nat.le_trans zs72 K75.1
  refine Go.aload 37 at_35 rfl rfl rfl ?_
  refine Go.iload 39 at_37 rfl rfl ?_
  refine Go.lload 41 at_39 rfl rfl ?_
  refine Go.callVV [.int v3, .long i4] [] 44 at_41 (tw33 hw) (tw34 hw) (tw36 hw) (tw35 hw) (tw2 hw) (tw37 hw) f81 pl6 (by decide) (lenOf pd6 rfl) rfl (fun m => ef_k_set m a5 v3 i4) _ (k_set hw h74 zs89 a5 v3 i4 f85 f82 f83 f76 f77 (own_two e4) ge45 ge48 ne44 ne47 ne30) 0 rfl (Nat.le_of_eq rfl) (by decide) (by decide) (by decide) (by decide) rfl ?_
  rintro h91 ⟨K92, f93, f94⟩
  have f95 : Sta Z h91 "com/example/interlace/interlace/engine/Floors" "NONE" "[J" (.ref r_NONE) := own_staK f78 K92 (allS (own_nost f87) (allS (own_nost f88) all0))
  have f96 : Exa Z h91 r_NONE "[J" := f79.keep K92
  have f97 : Arj Z h91 r_NONE [] := f80.keep K92 (ninS ne43 (ninS ne46 nin0))
  have f98 : Exa Z h91 a5 "com/example/interlace/interlace/engine/Floors" := f81.keep K92
  have f99 : Fld Z h91 a5 "com/example/interlace/interlace/engine/Floors" "floors" "[J" (.ref a24) := f82.keep K92 (ninS ne44 (ninS ne47 nin0))
  have f100 : Fld Z h91 a5 "com/example/interlace/interlace/engine/Floors" "hasFloor" "[Z" (.ref a25) := f83.keep K92 (ninS ne44 (ninS ne47 nin0))
  have f101 : Fld Z h91 a5 "com/example/interlace/interlace/engine/Floors" "rests" "[[J" (.ref a26) := f84.keep K92 (ninS ne44 (ninS ne47 nin0))
  have f102 : Fld Z h91 a5 "com/example/interlace/interlace/engine/Floors" "latest" "J" (.long i0) := f85.keep K92 (ninS ne44 (ninS ne47 nin0))
  have f103 : Arz Z h91 a26 .long "[J" [.null, .null] := f86.keep K92 (ninS (Ne.symm ne31) (ninS (Ne.symm ne32) nin0))
  have f104 : Exa Z h91 a24 "[J" := f87.keep K92
  have f105 : Exa Z h91 a25 "[Z" := f88.keep K92
  have zs106 : Z.heap.size ≤ h91.size := Nat.le_trans zs89 K92.1
  refine Go.new 47 at_44 (tw38 hw) (tw39 hw) (tw40 hw) (by decide) (by decide) rfl (fun a107 h108 q109 E110 A111 D112 => ?_)
  have ne113 : r_NONE ≠ a107 := fun e => absurd f96.lt (by rw [e, q109]; exact Nat.lt_irrefl _)
  have ne114 : a5 ≠ a107 := fun e => absurd f98.lt (by rw [e, q109]; exact Nat.lt_irrefl _)
  have ne115 : a26 ≠ a107 := fun e => absurd f103.lt (by rw [e, q109]; exact Nat.lt_irrefl _)
  have ne116 : a24 ≠ a107 := fun e => absurd f104.lt (by rw [e, q109]; exact Nat.lt_irrefl _)
  have ne117 : a25 ≠ a107 := fun e => absurd f105.lt (by rw [e, q109]; exact Nat.lt_irrefl _)
  have ge118 : Z.heap.size ≤ a107 := (Eq.symm q109) ▸ zs106
  have f119 : Sta Z h108 "com/example/interlace/interlace/engine/Floors" "NONE" "[J" (.ref r_NONE) := f95.ext E110
  have f120 : Exa Z h108 r_NONE "[J" := f96.ext E110
  have f121 : Arj Z h108 r_NONE [] := f97.ext E110
  have f122 : Exa Z h108 a5 "com/example/interlace/interlace/engine/Floors" := f98.ext E110
  have f123 : Fld Z h108 a5 "com/example/interlace/interlace/engine/Floors" "floors" "[J" (.ref a24) := f99.ext E110
  have f124 : Fld Z h108 a5 "com/example/interlace/interlace/engine/Floors" "hasFloor" "[Z" (.ref a25) := f100.ext E110
  have f125 : Fld Z h108 a5 "com/example/interlace/interlace/engine/Floors" "rests" "[[J" (.ref a26) := f101.ext E110
  have f126 : Fld Z h108 a5 "com/example/interlace/interlace/engine/Floors" "latest" "J" (.long i0) := f102.ext E110
  have f127 : Arz Z h108 a26 .long "[J" [.null, .null] := f103.ext E110
  have f128 : Exa Z h108 a24 "[J" := f104.ext E110
  have f129 : Exa Z h108 a25 "[Z" := f105.ext E110
  have f130 : Arj Z h108 a24 [(if v3 = (0 : Int32) then (if i4 < i0 then i4 else (if v1 = (0 : Int32) then (if i2 < i0 then i2 else 0) else 0)) else (if v1 = (0 : Int32) then (if i2 < i0 then i2 else 0) else 0)), (if v3 = (0 : Int32) then (if v1 = (0 : Int32) then 0 else (if i2 < i0 then i2 else 0)) else (if i4 < i0 then i4 else (if v1 = (0 : Int32) then 0 else (if i2 < i0 then i2 else 0))))] := f93.ext E110
  have f131 : Ari Z h108 a25 .boolean [(if v3 = (0 : Int32) then (if i4 < i0 then (1 : Int32) else (if v1 = (0 : Int32) then (if i2 < i0 then (1 : Int32) else 0) else 0)) else (if v1 = (0 : Int32) then (if i2 < i0 then (1 : Int32) else 0) else 0)), (if v3 = (0 : Int32) then (if v1 = (0 : Int32) then 0 else (if i2 < i0 then (1 : Int32) else 0)) else (if i4 < i0 then (1 : Int32) else (if v1 = (0 : Int32) then 0 else (if i2 < i0 then (1 : Int32) else 0))))] := f94.ext E110
  have zs132 : Z.heap.size ≤ h108.size := Nat.le_trans zs106 E110.1
  have f133 : Fld Z h108 a107 "com/example/interlace/interlace/engine/Plan$Required" "operand" "Lcom/example/interlace/interlace/pattern/Structure;" (.null) := D112 (Or.inr (tw60 hw)) (ty := (.object "com/example/interlace/interlace/pattern/Structure")) (by decide)
  have f134 : Fld Z h108 a107 "com/example/interlace/interlace/engine/Plan$Required" "before" "Z" (.int (0 : Int32)) := D112 (Or.inr (tw62 hw)) (ty := .boolean) (by decide)
  have f135 : Fld Z h108 a107 "com/example/interlace/interlace/engine/Plan$Required" "rest" "Lcom/example/interlace/interlace/engine/Plan$Required;" (.null) := D112 (Or.inr (tw64 hw)) (ty := (.object "com/example/interlace/interlace/engine/Plan$Required")) (by decide)
  refine Go.dup 48 at_47 rfl rfl ?_
  refine Go.new 51 at_48 (tw41 hw) (tw42 hw) (tw43 hw) (by decide) (by decide) rfl (fun a136 h137 q138 E139 A140 D141 => ?_)
  have ne142 : r_NONE ≠ a136 := fun e => absurd f120.lt (by rw [e, q138]; exact Nat.lt_irrefl _)
  have ne143 : a5 ≠ a136 := fun e => absurd f122.lt (by rw [e, q138]; exact Nat.lt_irrefl _)
  have ne144 : a26 ≠ a136 := fun e => absurd f127.lt (by rw [e, q138]; exact Nat.lt_irrefl _)
  have ne145 : a24 ≠ a136 := fun e => absurd f128.lt (by rw [e, q138]; exact Nat.lt_irrefl _)
  have ne146 : a25 ≠ a136 := fun e => absurd f129.lt (by rw [e, q138]; exact Nat.lt_irrefl _)
  have ne147 : a107 ≠ a136 := fun e => absurd A111.lt (by rw [e, q138]; exact Nat.lt_irrefl _)
  have ge148 : Z.heap.size ≤ a136 := (Eq.symm q138) ▸ zs132
  have f149 : Sta Z h137 "com/example/interlace/interlace/engine/Floors" "NONE" "[J" (.ref r_NONE) := f119.ext E139
  have f150 : Exa Z h137 r_NONE "[J" := f120.ext E139
  have f151 : Arj Z h137 r_NONE [] := f121.ext E139
  have f152 : Exa Z h137 a5 "com/example/interlace/interlace/engine/Floors" := f122.ext E139
  have f153 : Fld Z h137 a5 "com/example/interlace/interlace/engine/Floors" "floors" "[J" (.ref a24) := f123.ext E139
  have f154 : Fld Z h137 a5 "com/example/interlace/interlace/engine/Floors" "hasFloor" "[Z" (.ref a25) := f124.ext E139
  have f155 : Fld Z h137 a5 "com/example/interlace/interlace/engine/Floors" "rests" "[[J" (.ref a26) := f125.ext E139
  have f156 : Fld Z h137 a5 "com/example/interlace/interlace/engine/Floors" "latest" "J" (.long i0) := f126.ext E139
  have f157 : Arz Z h137 a26 .long "[J" [.null, .null] := f127.ext E139
  have f158 : Exa Z h137 a24 "[J" := f128.ext E139
  have f159 : Exa Z h137 a25 "[Z" := f129.ext E139
  have f160 : Arj Z h137 a24 [(if v3 = (0 : Int32) then (if i4 < i0 then i4 else (if v1 = (0 : Int32) then (if i2 < i0 then i2 else 0) else 0)) else (if v1 = (0 : Int32) then (if i2 < i0 then i2 else 0) else 0)), (if v3 = (0 : Int32) then (if v1 = (0 : Int32) then 0 else (if i2 < i0 then i2 else 0)) else (if i4 < i0 then i4 else (if v1 = (0 : Int32) then 0 else (if i2 < i0 then i2 else 0))))] := f130.ext E139
  have f161 : Ari Z h137 a25 .boolean [(if v3 = (0 : Int32) then (if i4 < i0 then (1 : Int32) else (if v1 = (0 : Int32) then (if i2 < i0 then (1 : Int32) else 0) else 0)) else (if v1 = (0 : Int32) then (if i2 < i0 then (1 : Int32) else 0) else 0)), (if v3 = (0 : Int32) then (if v1 = (0 : Int32) then 0 else (if i2 < i0 then (1 : Int32) else 0)) else (if i4 < i0 then (1 : Int32) else (if v1 = (0 : Int32) then 0 else (if i2 < i0 then (1 : Int32) else 0))))] := f131.ext E139
  have f162 : Exa Z h137 a107 "com/example/interlace/interlace/engine/Plan$Required" := A111.ext E139
  have f163 : Fld Z h137 a107 "com/example/interlace/interlace/engine/Plan$Required" "operand" "Lcom/example/interlace/interlace/pattern/Structure;" (.null) := f133.ext E139
  have f164 : Fld Z h137 a107 "com/example/interlace/interlace/engine/Plan$Required" "before" "Z" (.int (0 : Int32)) := f134.ext E139
  have f165 : Fld Z h137 a107 "com/example/interlace/interlace/engine/Plan$Required" "rest" "Lcom/example/interlace/interlace/engine/Plan$Required;" (.null) := f135.ext E139
  have zs166 : Z.heap.size ≤ h137.size := Nat.le_trans zs132 E139.1
  have f167 : Fld Z h137 a136 "com/example/interlace/interlace/pattern/Structure$Leaf" "variable" "I" (.int (0 : Int32)) := D141 (Or.inr (tw54 hw)) (ty := .int) (by decide)
  refine Go.dup 52 at_51 rfl rfl ?_
  refine Go.iconst 53 (0) at_52 (by decide) rfl ?_
  refine Go.callC [.int (0 : Int32)] [.ref a136, .ref a107, .ref a107] 56 at_53 rfl (tw44 hw) (tw45 hw) (tw43 hw) (tw46 hw) pl7 (by decide) (lenOf pd7 rfl) rfl (fun m => ef_k_leaf m a136 (0 : Int32)) _ (k_leaf hw h137 zs166 a136 (0 : Int32) A140 f167 ge148) 3 rfl (Nat.le_of_eq rfl) (by decide) (by decide) (by decide) (by decide) rfl ?_
  rintro h169 ⟨K170, f171, f172⟩
  have f173 : Sta Z h169 "com/example/interlace/interlace/engine/Floors" "NONE" "[J" (.ref r_NONE) := own_staK f149 K170 (allS (own_nost A140) all0)
  have f174 : Exa Z h169 r_NONE "[J" := f150.keep K170
  have f175 : Arj Z h169 r_NONE [] := f151.keep K170 (ninS ne142 nin0)
  have f176 : Exa Z h169 a5 "com/example/interlace/interlace/engine/Floors" := f152.keep K170
  have f177 : Fld Z h169 a5 "com/example/interlace/interlace/engine/Floors" "floors" "[J" (.ref a24) := f153.keep K170 (ninS ne143 nin0)
  have f178 : Fld Z h169 a5 "com/example/interlace/interlace/engine/Floors" "hasFloor" "[Z" (.ref a25) := f154.keep K170 (ninS ne143 nin0)
  have f179 : Fld Z h169 a5 "com/example/interlace/interlace/engine/Floors" "rests" "[[J" (.ref a26) := f155.keep K170 (ninS ne143 nin0)
  have f180 : Fld Z h169 a5 "com/example/interlace/interlace/engine/Floors" "latest" "J" (.long i0) := f156.keep K170 (ninS ne143 nin0)
  have f181 : Arz Z h169 a26 .long "[J" [.null, .null] := f157.keep K170 (ninS ne144 nin0)
  have f182 : Exa Z h169 a24 "[J" := f158.keep K170
  have f183 : Exa Z h169 a25 "[Z" := f159.keep K170
  have f184 : Arj Z h169 a24 [(if v3 = (0 : Int32) then (if i4 < i0 then i4 else (if v1 = (0 : Int32) then (if i2 < i0 then i2 else 0) else 0)) else (if v1 = (0 : Int32) then (if i2 < i0 then i2 else 0) else 0)), (if v3 = (0 : Int32) then (if v1 = (0 : Int32) then 0 else (if i2 < i0 then i2 else 0)) else (if i4 < i0 then i4 else (if v1 = (0 : Int32) then 0 else (if i2 < i0 then i2 else 0))))] := f160.keep K170 (ninS ne145 nin0)
  have f185 : Ari Z h169 a25 .boolean [(if v3 = (0 : Int32) then (if i4 < i0 then (1 : Int32) else (if v1 = (0 : Int32) then (if i2 < i0 then (1 : Int32) else 0) else 0)) else (if v1 = (0 : Int32) then (if i2 < i0 then (1 : Int32) else 0) else 0)), (if v3 = (0 : Int32) then (if v1 = (0 : Int32) then 0 else (if i2 < i0 then (1 : Int32) else 0)) else (if i4 < i0 then (1 : Int32) else (if v1 = (0 : Int32) then 0 else (if i2 < i0 then (1 : Int32) else 0))))] := f161.keep K170 (ninS ne146 nin0)
  have f186 : Exa Z h169 a107 "com/example/interlace/interlace/engine/Plan$Required" := f162.keep K170
  have f187 : Fld Z h169 a107 "com/example/interlace/interlace/engine/Plan$Required" "operand" "Lcom/example/interlace/interlace/pattern/Structure;" (.null) := f163.keep K170 (ninS ne147 nin0)
  have f188 : Fld Z h169 a107 "com/example/interlace/interlace/engine/Plan$Required" "before" "Z" (.int (0 : Int32)) := f164.keep K170 (ninS ne147 nin0)
  have f189 : Fld Z h169 a107 "com/example/interlace/interlace/engine/Plan$Required" "rest" "Lcom/example/interlace/interlace/engine/Plan$Required;" (.null) := f165.keep K170 (ninS ne147 nin0)
  have zs190 : Z.heap.size ≤ h169.size := Nat.le_trans zs166 K170.1
  refine Go.iconst 57 (0) at_56 (by decide) rfl ?_
  refine Go.new 60 at_57 (tw38 hw) (tw39 hw) (tw40 hw) (by decide) (by decide) rfl (fun a191 h192 q193 E194 A195 D196 => ?_)
  have ne197 : r_NONE ≠ a191 := fun e => absurd f174.lt (by rw [e, q193]; exact Nat.lt_irrefl _)
  have ne198 : a5 ≠ a191 := fun e => absurd f176.lt (by rw [e, q193]; exact Nat.lt_irrefl _)
  have ne199 : a26 ≠ a191 := fun e => absurd f181.lt (by rw [e, q193]; exact Nat.lt_irrefl _)
  have ne200 : a24 ≠ a191 := fun e => absurd f182.lt (by rw [e, q193]; exact Nat.lt_irrefl _)
  have ne201 : a25 ≠ a191 := fun e => absurd f183.lt (by rw [e, q193]; exact Nat.lt_irrefl _)
  have ne202 : a107 ≠ a191 := fun e => absurd f186.lt (by rw [e, q193]; exact Nat.lt_irrefl _)
  have ne203 : a136 ≠ a191 := fun e => absurd f171.lt (by rw [e, q193]; exact Nat.lt_irrefl _)
  have ge204 : Z.heap.size ≤ a191 := (Eq.symm q193) ▸ zs190
  have f205 : Sta Z h192 "com/example/interlace/interlace/engine/Floors" "NONE" "[J" (.ref r_NONE) := f173.ext E194
  have f206 : Exa Z h192 r_NONE "[J" := f174.ext E194
  have f207 : Arj Z h192 r_NONE [] := f175.ext E194
  have f208 : Exa Z h192 a5 "com/example/interlace/interlace/engine/Floors" := f176.ext E194
  have f209 : Fld Z h192 a5 "com/example/interlace/interlace/engine/Floors" "floors" "[J" (.ref a24) := f177.ext E194
  have f210 : Fld Z h192 a5 "com/example/interlace/interlace/engine/Floors" "hasFloor" "[Z" (.ref a25) := f178.ext E194
  have f211 : Fld Z h192 a5 "com/example/interlace/interlace/engine/Floors" "rests" "[[J" (.ref a26) := f179.ext E194
  have f212 : Fld Z h192 a5 "com/example/interlace/interlace/engine/Floors" "latest" "J" (.long i0) := f180.ext E194
  have f213 : Arz Z h192 a26 .long "[J" [.null, .null] := f181.ext E194
  have f214 : Exa Z h192 a24 "[J" := f182.ext E194
  have f215 : Exa Z h192 a25 "[Z" := f183.ext E194
  have f216 : Arj Z h192 a24 [(if v3 = (0 : Int32) then (if i4 < i0 then i4 else (if v1 = (0 : Int32) then (if i2 < i0 then i2 else 0) else 0)) else (if v1 = (0 : Int32) then (if i2 < i0 then i2 else 0) else 0)), (if v3 = (0 : Int32) then (if v1 = (0 : Int32) then 0 else (if i2 < i0 then i2 else 0)) else (if i4 < i0 then i4 else (if v1 = (0 : Int32) then 0 else (if i2 < i0 then i2 else 0))))] := f184.ext E194
  have f217 : Ari Z h192 a25 .boolean [(if v3 = (0 : Int32) then (if i4 < i0 then (1 : Int32) else (if v1 = (0 : Int32) then (if i2 < i0 then (1 : Int32) else 0) else 0)) else (if v1 = (0 : Int32) then (if i2 < i0 then (1 : Int32) else 0) else 0)), (if v3 = (0 : Int32) then (if v1 = (0 : Int32) then 0 else (if i2 < i0 then (1 : Int32) else 0)) else (if i4 < i0 then (1 : Int32) else (if v1 = (0 : Int32) then 0 else (if i2 < i0 then (1 : Int32) else 0))))] := f185.ext E194
  have f218 : Exa Z h192 a107 "com/example/interlace/interlace/engine/Plan$Required" := f186.ext E194
  have f219 : Fld Z h192 a107 "com/example/interlace/interlace/engine/Plan$Required" "operand" "Lcom/example/interlace/interlace/pattern/Structure;" (.null) := f187.ext E194
  have f220 : Fld Z h192 a107 "com/example/interlace/interlace/engine/Plan$Required" "before" "Z" (.int (0 : Int32)) := f188.ext E194
  have f221 : Fld Z h192 a107 "com/example/interlace/interlace/engine/Plan$Required" "rest" "Lcom/example/interlace/interlace/engine/Plan$Required;" (.null) := f189.ext E194
  have f222 : Exa Z h192 a136 "com/example/interlace/interlace/pattern/Structure$Leaf" := f171.ext E194
  have f223 : Fld Z h192 a136 "com/example/interlace/interlace/pattern/Structure$Leaf" "variable" "I" (.int (0 : Int32)) := f172.ext E194
  have zs224 : Z.heap.size ≤ h192.size := Nat.le_trans zs190 E194.1
  have f225 : Fld Z h192 a191 "com/example/interlace/interlace/engine/Plan$Required" "operand" "Lcom/example/interlace/interlace/pattern/Structure;" (.null) := D196 (Or.inr (tw60 hw)) (ty := (.object "com/example/interlace/interlace/pattern/Structure")) (by decide)
  have f226 : Fld Z h192 a191 "com/example/interlace/interlace/engine/Plan$Required" "before" "Z" (.int (0 : Int32)) := D196 (Or.inr (tw62 hw)) (ty := .boolean) (by decide)
  have f227 : Fld Z h192 a191 "com/example/interlace/interlace/engine/Plan$Required" "rest" "Lcom/example/interlace/interlace/engine/Plan$Required;" (.null) := D196 (Or.inr (tw64 hw)) (ty := (.object "com/example/interlace/interlace/engine/Plan$Required")) (by decide)
  refine Go.dup 61 at_60 rfl rfl ?_
  refine Go.new 64 at_61 (tw41 hw) (tw42 hw) (tw43 hw) (by decide) (by decide) rfl (fun a228 h229 q230 E231 A232 D233 => ?_)
  have ne234 : r_NONE ≠ a228 := fun e => absurd f206.lt (by rw [e, q230]; exact Nat.lt_irrefl _)
  have ne235 : a5 ≠ a228 := fun e => absurd f208.lt (by rw [e, q230]; exact Nat.lt_irrefl _)
  have ne236 : a26 ≠ a228 := fun e => absurd f213.lt (by rw [e, q230]; exact Nat.lt_irrefl _)
  have ne237 : a24 ≠ a228 := fun e => absurd f214.lt (by rw [e, q230]; exact Nat.lt_irrefl _)
  have ne238 : a25 ≠ a228 := fun e => absurd f215.lt (by rw [e, q230]; exact Nat.lt_irrefl _)
  have ne239 : a107 ≠ a228 := fun e => absurd f218.lt (by rw [e, q230]; exact Nat.lt_irrefl _)
  have ne240 : a136 ≠ a228 := fun e => absurd f222.lt (by rw [e, q230]; exact Nat.lt_irrefl _)
  have ne241 : a191 ≠ a228 := fun e => absurd A195.lt (by rw [e, q230]; exact Nat.lt_irrefl _)
  have ge242 : Z.heap.size ≤ a228 := (Eq.symm q230) ▸ zs224
  have f243 : Sta Z h229 "com/example/interlace/interlace/engine/Floors" "NONE" "[J" (.ref r_NONE) := f205.ext E231
  have f244 : Exa Z h229 r_NONE "[J" := f206.ext E231
  have f245 : Arj Z h229 r_NONE [] := f207.ext E231
  have f246 : Exa Z h229 a5 "com/example/interlace/interlace/engine/Floors" := f208.ext E231
  have f247 : Fld Z h229 a5 "com/example/interlace/interlace/engine/Floors" "floors" "[J" (.ref a24) := f209.ext E231
  have f248 : Fld Z h229 a5 "com/example/interlace/interlace/engine/Floors" "hasFloor" "[Z" (.ref a25) := f210.ext E231
  have f249 : Fld Z h229 a5 "com/example/interlace/interlace/engine/Floors" "rests" "[[J" (.ref a26) := f211.ext E231
  have f250 : Fld Z h229 a5 "com/example/interlace/interlace/engine/Floors" "latest" "J" (.long i0) := f212.ext E231
  have f251 : Arz Z h229 a26 .long "[J" [.null, .null] := f213.ext E231
  have f252 : Exa Z h229 a24 "[J" := f214.ext E231
  have f253 : Exa Z h229 a25 "[Z" := f215.ext E231
  have f254 : Arj Z h229 a24 [(if v3 = (0 : Int32) then (if i4 < i0 then i4 else (if v1 = (0 : Int32) then (if i2 < i0 then i2 else 0) else 0)) else (if v1 = (0 : Int32) then (if i2 < i0 then i2 else 0) else 0)), (if v3 = (0 : Int32) then (if v1 = (0 : Int32) then 0 else (if i2 < i0 then i2 else 0)) else (if i4 < i0 then i4 else (if v1 = (0 : Int32) then 0 else (if i2 < i0 then i2 else 0))))] := f216.ext E231
  have f255 : Ari Z h229 a25 .boolean [(if v3 = (0 : Int32) then (if i4 < i0 then (1 : Int32) else (if v1 = (0 : Int32) then (if i2 < i0 then (1 : Int32) else 0) else 0)) else (if v1 = (0 : Int32) then (if i2 < i0 then (1 : Int32) else 0) else 0)), (if v3 = (0 : Int32) then (if v1 = (0 : Int32) then 0 else (if i2 < i0 then (1 : Int32) else 0)) else (if i4 < i0 then (1 : Int32) else (if v1 = (0 : Int32) then 0 else (if i2 < i0 then (1 : Int32) else 0))))] := f217.ext E231
  have f256 : Exa Z h229 a107 "com/example/interlace/interlace/engine/Plan$Required" := f218.ext E231
  have f257 : Fld Z h229 a107 "com/example/interlace/interlace/engine/Plan$Required" "operand" "Lcom/example/interlace/interlace/pattern/Structure;" (.null) := f219.ext E231
  have f258 : Fld Z h229 a107 "com/example/interlace/interlace/engine/Plan$Required" "before" "Z" (.int (0 : Int32)) := f220.ext E231
  have f259 : Fld Z h229 a107 "com/example/interlace/interlace/engine/Plan$Required" "rest" "Lcom/example/interlace/interlace/engine/Plan$Required;" (.null) := f221.ext E231
  have f260 : Exa Z h229 a136 "com/example/interlace/interlace/pattern/Structure$Leaf" := f222.ext E231
  have f261 : Fld Z h229 a136 "com/example/interlace/interlace/pattern/Structure$Leaf" "variable" "I" (.int (0 : Int32)) := f223.ext E231
  have f262 : Exa Z h229 a191 "com/example/interlace/interlace/engine/Plan$Required" := A195.ext E231
  have f263 : Fld Z h229 a191 "com/example/interlace/interlace/engine/Plan$Required" "operand" "Lcom/example/interlace/interlace/pattern/Structure;" (.null) := f225.ext E231
  have f264 : Fld Z h229 a191 "com/example/interlace/interlace/engine/Plan$Required" "before" "Z" (.int (0 : Int32)) := f226.ext E231
  have f265 : Fld Z h229 a191 "com/example/interlace/interlace/engine/Plan$Required" "rest" "Lcom/example/interlace/interlace/engine/Plan$Required;" (.null) := f227.ext E231
  have zs266 : Z.heap.size ≤ h229.size := Nat.le_trans zs224 E231.1
  have f267 : Fld Z h229 a228 "com/example/interlace/interlace/pattern/Structure$Leaf" "variable" "I" (.int (0 : Int32)) := D233 (Or.inr (tw54 hw)) (ty := .int) (by decide)
  refine Go.dup 65 at_64 rfl rfl ?_
  refine Go.iconst 66 (1) at_65 (by decide) rfl ?_
  refine Go.callC [.int (1 : Int32)] [.ref a228, .ref a191, .ref a191, .int (0 : Int32), .ref a136, .ref a107, .ref a107] 69 at_66 rfl (tw44 hw) (tw45 hw) (tw43 hw) (tw46 hw) pl7 (by decide) (lenOf pd7 rfl) rfl (fun m => ef_k_leaf m a228 (1 : Int32)) _ (k_leaf hw h229 zs266 a228 (1 : Int32) A232 f267 ge242) 7 rfl (Nat.le_of_eq rfl) (by decide) (by decide) (by decide) (by decide) rfl ?_
  rintro h269 ⟨K270, f271, f272⟩
  have f273 : Sta Z h269 "com/example/interlace/interlace/engine/Floors" "NONE" "[J" (.ref r_NONE) := own_staK f243 K270 (allS (own_nost A232) all0)
  have f274 : Exa Z h269 r_NONE "[J" := f244.keep K270
  have f275 : Arj Z h269 r_NONE [] := f245.keep K270 (ninS ne234 nin0)
  have f276 : Exa Z h269 a5 "com/example/interlace/interlace/engine/Floors" := f246.keep K270
  have f277 : Fld Z h269 a5 "com/example/interlace/interlace/engine/Floors" "floors" "[J" (.ref a24) := f247.keep K270 (ninS ne235 nin0)
  have f278 : Fld Z h269 a5 "com/example/interlace/interlace/engine/Floors" "hasFloor" "[Z" (.ref a25) := f248.keep K270 (ninS ne235 nin0)
  have f279 : Fld Z h269 a5 "com/example/interlace/interlace/engine/Floors" "rests" "[[J" (.ref a26) := f249.keep K270 (ninS ne235 nin0)
  have f280 : Fld Z h269 a5 "com/example/interlace/interlace/engine/Floors" "latest" "J" (.long i0) := f250.keep K270 (ninS ne235 nin0)
  have f281 : Arz Z h269 a26 .long "[J" [.null, .null] := f251.keep K270 (ninS ne236 nin0)
  have f282 : Exa Z h269 a24 "[J" := f252.keep K270
  have f283 : Exa Z h269 a25 "[Z" := f253.keep K270
  have f284 : Arj Z h269 a24 [(if v3 = (0 : Int32) then (if i4 < i0 then i4 else (if v1 = (0 : Int32) then (if i2 < i0 then i2 else 0) else 0)) else (if v1 = (0 : Int32) then (if i2 < i0 then i2 else 0) else 0)), (if v3 = (0 : Int32) then (if v1 = (0 : Int32) then 0 else (if i2 < i0 then i2 else 0)) else (if i4 < i0 then i4 else (if v1 = (0 : Int32) then 0 else (if i2 < i0 then i2 else 0))))] := f254.keep K270 (ninS ne237 nin0)
  have f285 : Ari Z h269 a25 .boolean [(if v3 = (0 : Int32) then (if i4 < i0 then (1 : Int32) else (if v1 = (0 : Int32) then (if i2 < i0 then (1 : Int32) else 0) else 0)) else (if v1 = (0 : Int32) then (if i2 < i0 then (1 : Int32) else 0) else 0)), (if v3 = (0 : Int32) then (if v1 = (0 : Int32) then 0 else (if i2 < i0 then (1 : Int32) else 0)) else (if i4 < i0 then (1 : Int32) else (if v1 = (0 : Int32) then 0 else (if i2 < i0 then (1 : Int32) else 0))))] := f255.keep K270 (ninS ne238 nin0)
  have f286 : Exa Z h269 a107 "com/example/interlace/interlace/engine/Plan$Required" := f256.keep K270
  have f287 : Fld Z h269 a107 "com/example/interlace/interlace/engine/Plan$Required" "operand" "Lcom/example/interlace/interlace/pattern/Structure;" (.null) := f257.keep K270 (ninS ne239 nin0)
  have f288 : Fld Z h269 a107 "com/example/interlace/interlace/engine/Plan$Required" "before" "Z" (.int (0 : Int32)) := f258.keep K270 (ninS ne239 nin0)
  have f289 : Fld Z h269 a107 "com/example/interlace/interlace/engine/Plan$Required" "rest" "Lcom/example/interlace/interlace/engine/Plan$Required;" (.null) := f259.keep K270 (ninS ne239 nin0)
  have f290 : Exa Z h269 a136 "com/example/interlace/interlace/pattern/Structure$Leaf" := f260.keep K270
  have f291 : Fld Z h269 a136 "com/example/interlace/interlace/pattern/Structure$Leaf" "variable" "I" (.int (0 : Int32)) := f261.keep K270 (ninS ne240 nin0)
  have f292 : Exa Z h269 a191 "com/example/interlace/interlace/engine/Plan$Required" := f262.keep K270
  have f293 : Fld Z h269 a191 "com/example/interlace/interlace/engine/Plan$Required" "operand" "Lcom/example/interlace/interlace/pattern/Structure;" (.null) := f263.keep K270 (ninS ne241 nin0)
  have f294 : Fld Z h269 a191 "com/example/interlace/interlace/engine/Plan$Required" "before" "Z" (.int (0 : Int32)) := f264.keep K270 (ninS ne241 nin0)
  have f295 : Fld Z h269 a191 "com/example/interlace/interlace/engine/Plan$Required" "rest" "Lcom/example/interlace/interlace/engine/Plan$Required;" (.null) := f265.keep K270 (ninS ne241 nin0)
  have zs296 : Z.heap.size ≤ h269.size := Nat.le_trans zs266 K270.1
  refine Go.iconst 70 (0) at_69 (by decide) rfl ?_
  refine Go.aconst_null 71 at_70 rfl ?_
  refine Go.callC [.ref a228, .int (0 : Int32), .null] [.ref a191, .int (0 : Int32), .ref a136, .ref a107, .ref a107] 74 at_71 rfl (tw55 hw) (tw56 hw) (tw40 hw) (tw57 hw) pl9 (by decide) (lenOf pd9 rfl) rfl (fun m => ef_k_reqN m a191 a228 (0 : Int32) ()) _ (k_reqN hw h269 zs296 a191 a228 () f292 f293 f294 f295 ge204) 5 rfl (Nat.le_of_eq rfl) (by decide) (by decide) (by decide) (by decide) rfl ?_
  rintro h298 ⟨K299, f300, f301, f302⟩
  have f303 : Sta Z h298 "com/example/interlace/interlace/engine/Floors" "NONE" "[J" (.ref r_NONE) := own_staK f273 K299 (allS (own_nost f292) all0)
  have f304 : Exa Z h298 r_NONE "[J" := f274.keep K299
  have f305 : Arj Z h298 r_NONE [] := f275.keep K299 (ninS ne197 nin0)
  have f306 : Exa Z h298 a5 "com/example/interlace/interlace/engine/Floors" := f276.keep K299
  have f307 : Fld Z h298 a5 "com/example/interlace/interlace/engine/Floors" "floors" "[J" (.ref a24) := f277.keep K299 (ninS ne198 nin0)
  have f308 : Fld Z h298 a5 "com/example/interlace/interlace/engine/Floors" "hasFloor" "[Z" (.ref a25) := f278.keep K299 (ninS ne198 nin0)
  have f309 : Fld Z h298 a5 "com/example/interlace/interlace/engine/Floors" "rests" "[[J" (.ref a26) := f279.keep K299 (ninS ne198 nin0)
  have f310 : Fld Z h298 a5 "com/example/interlace/interlace/engine/Floors" "latest" "J" (.long i0) := f280.keep K299 (ninS ne198 nin0)
  have f311 : Arz Z h298 a26 .long "[J" [.null, .null] := f281.keep K299 (ninS ne199 nin0)
  have f312 : Exa Z h298 a24 "[J" := f282.keep K299
  have f313 : Exa Z h298 a25 "[Z" := f283.keep K299
  have f314 : Arj Z h298 a24 [(if v3 = (0 : Int32) then (if i4 < i0 then i4 else (if v1 = (0 : Int32) then (if i2 < i0 then i2 else 0) else 0)) else (if v1 = (0 : Int32) then (if i2 < i0 then i2 else 0) else 0)), (if v3 = (0 : Int32) then (if v1 = (0 : Int32) then 0 else (if i2 < i0 then i2 else 0)) else (if i4 < i0 then i4 else (if v1 = (0 : Int32) then 0 else (if i2 < i0 then i2 else 0))))] := f284.keep K299 (ninS ne200 nin0)
  have f315 : Ari Z h298 a25 .boolean [(if v3 = (0 : Int32) then (if i4 < i0 then (1 : Int32) else (if v1 = (0 : Int32) then (if i2 < i0 then (1 : Int32) else 0) else 0)) else (if v1 = (0 : Int32) then (if i2 < i0 then (1 : Int32) else 0) else 0)), (if v3 = (0 : Int32) then (if v1 = (0 : Int32) then 0 else (if i2 < i0 then (1 : Int32) else 0)) else (if i4 < i0 then (1 : Int32) else (if v1 = (0 : Int32) then 0 else (if i2 < i0 then (1 : Int32) else 0))))] := f285.keep K299 (ninS ne201 nin0)
  have f316 : Exa Z h298 a107 "com/example/interlace/interlace/engine/Plan$Required" := f286.keep K299
  have f317 : Fld Z h298 a107 "com/example/interlace/interlace/engine/Plan$Required" "operand" "Lcom/example/interlace/interlace/pattern/Structure;" (.null) := f287.keep K299 (ninS ne202 nin0)
  have f318 : Fld Z h298 a107 "com/example/interlace/interlace/engine/Plan$Required" "before" "Z" (.int (0 : Int32)) := f288.keep K299 (ninS ne202 nin0)
  have f319 : Fld Z h298 a107 "com/example/interlace/interlace/engine/Plan$Required" "rest" "Lcom/example/interlace/interlace/engine/Plan$Required;" (.null) := f289.keep K299 (ninS ne202 nin0)
  have f320 : Exa Z h298 a136 "com/example/interlace/interlace/pattern/Structure$Leaf" := f290.keep K299
  have f321 : Fld Z h298 a136 "com/example/interlace/interlace/pattern/Structure$Leaf" "variable" "I" (.int (0 : Int32)) := f291.keep K299 (ninS ne203 nin0)
  have f322 : Exa Z h298 a228 "com/example/interlace/interlace/pattern/Structure$Leaf" := f271.keep K299
  have f323 : Fld Z h298 a228 "com/example/interlace/interlace/pattern/Structure$Leaf" "variable" "I" (.int (1 : Int32)) := f272.keep K299 (ninS (Ne.symm ne241) nin0)
  have zs324 : Z.heap.size ≤ h298.size := Nat.le_trans zs296 K299.1
  refine Go.callC [.ref a136, .int (0 : Int32), .ref a191] [.ref a107] 77 at_74 rfl (tw55 hw) (tw56 hw) (tw40 hw) (tw57 hw) pl9 (by decide) (lenOf pd9 rfl) rfl (fun m => ef_k_reqA m a107 a136 (0 : Int32) a191) _ (k_reqA hw h298 zs324 a107 a136 a191 f316 f317 f318 f319 ge118) 1 rfl (Nat.le_of_eq rfl) (by decide) (by decide) (by decide) (by decide) rfl ?_
  rintro h326 ⟨K327, f328, f329, f330⟩
  have f331 : Sta Z h326 "com/example/interlace/interlace/engine/Floors" "NONE" "[J" (.ref r_NONE) := own_staK f303 K327 (allS (own_nost f316) all0)
  have f332 : Exa Z h326 r_NONE "[J" := f304.keep K327
  have f333 : Arj Z h326 r_NONE [] := f305.keep K327 (ninS ne113 nin0)
  have f334 : Exa Z h326 a5 "com/example/interlace/interlace/engine/Floors" := f306.keep K327
  have f335 : Fld Z h326 a5 "com/example/interlace/interlace/engine/Floors" "floors" "[J" (.ref a24) := f307.keep K327 (ninS ne114 nin0)
  have f336 : Fld Z h326 a5 "com/example/interlace/interlace/engine/Floors" "hasFloor" "[Z" (.ref a25) := f308.keep K327 (ninS ne114 nin0)
  have f337 : Fld Z h326 a5 "com/example/interlace/interlace/engine/Floors" "rests" "[[J" (.ref a26) := f309.keep K327 (ninS ne114 nin0)
  have f338 : Fld Z h326 a5 "com/example/interlace/interlace/engine/Floors" "latest" "J" (.long i0) := f310.keep K327 (ninS ne114 nin0)
  have f339 : Arz Z h326 a26 .long "[J" [.null, .null] := f311.keep K327 (ninS ne115 nin0)
  have f340 : Exa Z h326 a24 "[J" := f312.keep K327
  have f341 : Exa Z h326 a25 "[Z" := f313.keep K327
  have f342 : Arj Z h326 a24 [(if v3 = (0 : Int32) then (if i4 < i0 then i4 else (if v1 = (0 : Int32) then (if i2 < i0 then i2 else 0) else 0)) else (if v1 = (0 : Int32) then (if i2 < i0 then i2 else 0) else 0)), (if v3 = (0 : Int32) then (if v1 = (0 : Int32) then 0 else (if i2 < i0 then i2 else 0)) else (if i4 < i0 then i4 else (if v1 = (0 : Int32) then 0 else (if i2 < i0 then i2 else 0))))] := f314.keep K327 (ninS ne116 nin0)
  have f343 : Ari Z h326 a25 .boolean [(if v3 = (0 : Int32) then (if i4 < i0 then (1 : Int32) else (if v1 = (0 : Int32) then (if i2 < i0 then (1 : Int32) else 0) else 0)) else (if v1 = (0 : Int32) then (if i2 < i0 then (1 : Int32) else 0) else 0)), (if v3 = (0 : Int32) then (if v1 = (0 : Int32) then 0 else (if i2 < i0 then (1 : Int32) else 0)) else (if i4 < i0 then (1 : Int32) else (if v1 = (0 : Int32) then 0 else (if i2 < i0 then (1 : Int32) else 0))))] := f315.keep K327 (ninS ne117 nin0)
  have f344 : Exa Z h326 a136 "com/example/interlace/interlace/pattern/Structure$Leaf" := f320.keep K327
  have f345 : Fld Z h326 a136 "com/example/interlace/interlace/pattern/Structure$Leaf" "variable" "I" (.int (0 : Int32)) := f321.keep K327 (ninS (Ne.symm ne147) nin0)
  have f346 : Exa Z h326 a228 "com/example/interlace/interlace/pattern/Structure$Leaf" := f322.keep K327
  have f347 : Fld Z h326 a228 "com/example/interlace/interlace/pattern/Structure$Leaf" "variable" "I" (.int (1 : Int32)) := f323.keep K327 (ninS (Ne.symm ne239) nin0)
  have f348 : Exa Z h326 a191 "com/example/interlace/interlace/engine/Plan$Required" := f300.keep K327
  have f349 : Fld Z h326 a191 "com/example/interlace/interlace/engine/Plan$Required" "operand" "Lcom/example/interlace/interlace/pattern/Structure;" (.ref a228) := f301.keep K327 (ninS (Ne.symm ne202) nin0)
  have f350 : Fld Z h326 a191 "com/example/interlace/interlace/engine/Plan$Required" "rest" "Lcom/example/interlace/interlace/engine/Plan$Required;" (.null) := f302.keep K327 (ninS (Ne.symm ne202) nin0)
  have zs351 : Z.heap.size ≤ h326.size := Nat.le_trans zs324 K327.1
  refine Go.astore 79 #[.val (.long i0), .second, .val (.int i1), .val (.long i2), .second, .val (.int i3), .val (.long i4), .second, .val (.int v1), .val (.int v3), .val (.ref a5), .val (.ref a107), .unset, .unset, .unset, .unset, .unset, .unset, .unset, .unset, .unset, .unset, .unset] at_77 rfl rfl rfl ?_
  refine Go.aload 81 at_79 rfl rfl rfl ?_
  refine Go.new 84 at_81 (tw65 hw) (tw66 hw) (tw67 hw) (by decide) (by decide) rfl (fun a352 h353 q354 E355 A356 D357 => ?_)
  have ne358 : r_NONE ≠ a352 := fun e => absurd f332.lt (by rw [e, q354]; exact Nat.lt_irrefl _)
  have ne359 : a5 ≠ a352 := fun e => absurd f334.lt (by rw [e, q354]; exact Nat.lt_irrefl _)
  have ne360 : a26 ≠ a352 := fun e => absurd f339.lt (by rw [e, q354]; exact Nat.lt_irrefl _)
  have ne361 : a24 ≠ a352 := fun e => absurd f340.lt (by rw [e, q354]; exact Nat.lt_irrefl _)
  have ne362 : a25 ≠ a352 := fun e => absurd f341.lt (by rw [e, q354]; exact Nat.lt_irrefl _)
  have ne363 : a136 ≠ a352 := fun e => absurd f344.lt (by rw [e, q354]; exact Nat.lt_irrefl _)
  have ne364 : a228 ≠ a352 := fun e => absurd f346.lt (by rw [e, q354]; exact Nat.lt_irrefl _)
  have ne365 : a191 ≠ a352 := fun e => absurd f348.lt (by rw [e, q354]; exact Nat.lt_irrefl _)
  have ne366 : a107 ≠ a352 := fun e => absurd f328.lt (by rw [e, q354]; exact Nat.lt_irrefl _)
  have ge367 : Z.heap.size ≤ a352 := (Eq.symm q354) ▸ zs351
  have f368 : Sta Z h353 "com/example/interlace/interlace/engine/Floors" "NONE" "[J" (.ref r_NONE) := f331.ext E355
  have f369 : Exa Z h353 r_NONE "[J" := f332.ext E355
  have f370 : Arj Z h353 r_NONE [] := f333.ext E355
  have f371 : Exa Z h353 a5 "com/example/interlace/interlace/engine/Floors" := f334.ext E355
  have f372 : Fld Z h353 a5 "com/example/interlace/interlace/engine/Floors" "floors" "[J" (.ref a24) := f335.ext E355
  have f373 : Fld Z h353 a5 "com/example/interlace/interlace/engine/Floors" "hasFloor" "[Z" (.ref a25) := f336.ext E355
  have f374 : Fld Z h353 a5 "com/example/interlace/interlace/engine/Floors" "rests" "[[J" (.ref a26) := f337.ext E355
  have f375 : Fld Z h353 a5 "com/example/interlace/interlace/engine/Floors" "latest" "J" (.long i0) := f338.ext E355
  have f376 : Arz Z h353 a26 .long "[J" [.null, .null] := f339.ext E355
  have f377 : Exa Z h353 a24 "[J" := f340.ext E355
  have f378 : Exa Z h353 a25 "[Z" := f341.ext E355
  have f379 : Arj Z h353 a24 [(if v3 = (0 : Int32) then (if i4 < i0 then i4 else (if v1 = (0 : Int32) then (if i2 < i0 then i2 else 0) else 0)) else (if v1 = (0 : Int32) then (if i2 < i0 then i2 else 0) else 0)), (if v3 = (0 : Int32) then (if v1 = (0 : Int32) then 0 else (if i2 < i0 then i2 else 0)) else (if i4 < i0 then i4 else (if v1 = (0 : Int32) then 0 else (if i2 < i0 then i2 else 0))))] := f342.ext E355
  have f380 : Ari Z h353 a25 .boolean [(if v3 = (0 : Int32) then (if i4 < i0 then (1 : Int32) else (if v1 = (0 : Int32) then (if i2 < i0 then (1 : Int32) else 0) else 0)) else (if v1 = (0 : Int32) then (if i2 < i0 then (1 : Int32) else 0) else 0)), (if v3 = (0 : Int32) then (if v1 = (0 : Int32) then 0 else (if i2 < i0 then (1 : Int32) else 0)) else (if i4 < i0 then (1 : Int32) else (if v1 = (0 : Int32) then 0 else (if i2 < i0 then (1 : Int32) else 0))))] := f343.ext E355
  have f381 : Exa Z h353 a136 "com/example/interlace/interlace/pattern/Structure$Leaf" := f344.ext E355
  have f382 : Fld Z h353 a136 "com/example/interlace/interlace/pattern/Structure$Leaf" "variable" "I" (.int (0 : Int32)) := f345.ext E355
  have f383 : Exa Z h353 a228 "com/example/interlace/interlace/pattern/Structure$Leaf" := f346.ext E355
  have f384 : Fld Z h353 a228 "com/example/interlace/interlace/pattern/Structure$Leaf" "variable" "I" (.int (1 : Int32)) := f347.ext E355
  have f385 : Exa Z h353 a191 "com/example/interlace/interlace/engine/Plan$Required" := f348.ext E355
  have f386 : Fld Z h353 a191 "com/example/interlace/interlace/engine/Plan$Required" "operand" "Lcom/example/interlace/interlace/pattern/Structure;" (.ref a228) := f349.ext E355
  have f387 : Fld Z h353 a191 "com/example/interlace/interlace/engine/Plan$Required" "rest" "Lcom/example/interlace/interlace/engine/Plan$Required;" (.null) := f350.ext E355
  have f388 : Exa Z h353 a107 "com/example/interlace/interlace/engine/Plan$Required" := f328.ext E355
  have f389 : Fld Z h353 a107 "com/example/interlace/interlace/engine/Plan$Required" "operand" "Lcom/example/interlace/interlace/pattern/Structure;" (.ref a136) := f329.ext E355
  have f390 : Fld Z h353 a107 "com/example/interlace/interlace/engine/Plan$Required" "rest" "Lcom/example/interlace/interlace/engine/Plan$Required;" (.ref a191) := f330.ext E355
  have zs391 : Z.heap.size ≤ h353.size := Nat.le_trans zs351 E355.1
  have f392 : Fld Z h353 a352 "com/example/interlace/interlace/engine/Plan$Bind" "variable" "I" (.int (0 : Int32)) := D357 (Or.inr (tw73 hw)) (ty := .int) (by decide)
  have f393 : Fld Z h353 a352 "com/example/interlace/interlace/engine/Plan$Bind" "nots" "[Lcom/example/interlace/interlace/engine/Plan$Absent;" (.null) := D357 (Or.inr (tw75 hw)) (ty := (.array (.object "com/example/interlace/interlace/engine/Plan$Absent"))) (by decide)
  have f394 : Fld Z h353 a352 "com/example/interlace/interlace/engine/Plan$Bind" "required" "Lcom/example/interlace/interlace/engine/Plan$Required;" (.null) := D357 (Or.inr (tw77 hw)) (ty := (.object "com/example/interlace/interlace/engine/Plan$Required")) (by decide)
  have f395 : Fld Z h353 a352 "com/example/interlace/interlace/engine/Plan$Bind" "next" "Lcom/example/interlace/interlace/engine/Plan$Step;" (.null) := D357 (Or.inr (tw79 hw)) (ty := (.object "com/example/interlace/interlace/engine/Plan$Step")) (by decide)
  refine Go.dup 85 at_84 rfl rfl ?_
  refine Go.iconst 86 (0) at_85 (by decide) rfl ?_
  refine Go.aconst_null 87 at_86 rfl ?_
  refine Go.aload 89 at_87 rfl rfl rfl ?_
  refine Go.aconst_null 90 at_89 rfl ?_
  refine Go.callC [.int (0 : Int32), .null, .ref a107, .null] [.ref a352, .ref a5] 93 at_90 rfl (tw68 hw) (tw69 hw) (tw67 hw) (tw70 hw) pl10 (by decide) (lenOf pd10 rfl) rfl (fun m => ef_k_bind m a352 (0 : Int32) () a107 ()) _ (k_bind hw h353 zs391 a352 () a107 () A356 f392 f393 f394 f395 ge367) 2 rfl (Nat.le_of_eq rfl) (by decide) (by decide) (by decide) (by decide) rfl ?_
  rintro h397 ⟨K398, f399, f400, f401⟩
  have f402 : Sta Z h397 "com/example/interlace/interlace/engine/Floors" "NONE" "[J" (.ref r_NONE) := own_staK f368 K398 (allS (own_nost A356) all0)
  have f403 : Exa Z h397 r_NONE "[J" := f369.keep K398
  have f404 : Arj Z h397 r_NONE [] := f370.keep K398 (ninS ne358 nin0)
  have f405 : Exa Z h397 a5 "com/example/interlace/interlace/engine/Floors" := f371.keep K398
  have f406 : Fld Z h397 a5 "com/example/interlace/interlace/engine/Floors" "floors" "[J" (.ref a24) := f372.keep K398 (ninS ne359 nin0)
  have f407 : Fld Z h397 a5 "com/example/interlace/interlace/engine/Floors" "hasFloor" "[Z" (.ref a25) := f373.keep K398 (ninS ne359 nin0)
  have f408 : Fld Z h397 a5 "com/example/interlace/interlace/engine/Floors" "rests" "[[J" (.ref a26) := f374.keep K398 (ninS ne359 nin0)
  have f409 : Fld Z h397 a5 "com/example/interlace/interlace/engine/Floors" "latest" "J" (.long i0) := f375.keep K398 (ninS ne359 nin0)
  have f410 : Arz Z h397 a26 .long "[J" [.null, .null] := f376.keep K398 (ninS ne360 nin0)
  have f411 : Exa Z h397 a24 "[J" := f377.keep K398
  have f412 : Exa Z h397 a25 "[Z" := f378.keep K398
  have f413 : Arj Z h397 a24 [(if v3 = (0 : Int32) then (if i4 < i0 then i4 else (if v1 = (0 : Int32) then (if i2 < i0 then i2 else 0) else 0)) else (if v1 = (0 : Int32) then (if i2 < i0 then i2 else 0) else 0)), (if v3 = (0 : Int32) then (if v1 = (0 : Int32) then 0 else (if i2 < i0 then i2 else 0)) else (if i4 < i0 then i4 else (if v1 = (0 : Int32) then 0 else (if i2 < i0 then i2 else 0))))] := f379.keep K398 (ninS ne361 nin0)
  have f414 : Ari Z h397 a25 .boolean [(if v3 = (0 : Int32) then (if i4 < i0 then (1 : Int32) else (if v1 = (0 : Int32) then (if i2 < i0 then (1 : Int32) else 0) else 0)) else (if v1 = (0 : Int32) then (if i2 < i0 then (1 : Int32) else 0) else 0)), (if v3 = (0 : Int32) then (if v1 = (0 : Int32) then 0 else (if i2 < i0 then (1 : Int32) else 0)) else (if i4 < i0 then (1 : Int32) else (if v1 = (0 : Int32) then 0 else (if i2 < i0 then (1 : Int32) else 0))))] := f380.keep K398 (ninS ne362 nin0)
  have f415 : Exa Z h397 a136 "com/example/interlace/interlace/pattern/Structure$Leaf" := f381.keep K398
  have f416 : Fld Z h397 a136 "com/example/interlace/interlace/pattern/Structure$Leaf" "variable" "I" (.int (0 : Int32)) := f382.keep K398 (ninS ne363 nin0)
  have f417 : Exa Z h397 a228 "com/example/interlace/interlace/pattern/Structure$Leaf" := f383.keep K398
  have f418 : Fld Z h397 a228 "com/example/interlace/interlace/pattern/Structure$Leaf" "variable" "I" (.int (1 : Int32)) := f384.keep K398 (ninS ne364 nin0)
  have f419 : Exa Z h397 a191 "com/example/interlace/interlace/engine/Plan$Required" := f385.keep K398
  have f420 : Fld Z h397 a191 "com/example/interlace/interlace/engine/Plan$Required" "operand" "Lcom/example/interlace/interlace/pattern/Structure;" (.ref a228) := f386.keep K398 (ninS ne365 nin0)
  have f421 : Fld Z h397 a191 "com/example/interlace/interlace/engine/Plan$Required" "rest" "Lcom/example/interlace/interlace/engine/Plan$Required;" (.null) := f387.keep K398 (ninS ne365 nin0)
  have f422 : Exa Z h397 a107 "com/example/interlace/interlace/engine/Plan$Required" := f388.keep K398
  have f423 : Fld Z h397 a107 "com/example/interlace/interlace/engine/Plan$Required" "operand" "Lcom/example/interlace/interlace/pattern/Structure;" (.ref a136) := f389.keep K398 (ninS ne366 nin0)
  have f424 : Fld Z h397 a107 "com/example/interlace/interlace/engine/Plan$Required" "rest" "Lcom/example/interlace/interlace/engine/Plan$Required;" (.ref a191) := f390.keep K398 (ninS ne366 nin0)
  have zs425 : Z.heap.size ≤ h397.size := Nat.le_trans zs391 K398.1
  rcases own_two e2 with hs | hs
  ·
    subst hs
    rcases own_two e4 with hs | hs
    ·
      subst hs
      rcases Decidable.em (i2 < i0) with c1 | c1
      ·
        rcases Decidable.em (i4 < i0) with c2 | c2
        ·
          have f426 : Arj Z h397 a24 [i4, 0] := by have q := f413; simp only [own_00, own_10, c1, c2, if_true, if_false] at q; exact q
          have f427 : Ari Z h397 a25 .boolean [(1 : Int32), 0] := by have q := f414; simp only [own_00, own_10, c1, c2, if_true, if_false] at q; exact q
          refine Go.callVR [.ref a352] [] 96 at_93 (tw80 hw) (tw81 hw) (tw83 hw) (tw82 hw) (tw2 hw) (tw84 hw) f405 pl11 (by decide) (lenOf pd11 rfl) rfl (fun m => ef_k_ra10 m a5 a352) _ (k_ra10 hw h397 zs425 a5 a352 f405 f406 f407 f408 f426 f427 f410 f399 f400 f401 f422 f423 f424 f419 f420 f421 f415 f416 f417 f418 f402 f404 f403 ge51 ne50 ne31 ne32 (Ne.symm ne360) (Ne.symm ne115) (Ne.symm ne199) (Ne.symm ne144) (Ne.symm ne236) ne49) 0 rfl (Nat.le_of_eq rfl) (by decide) (by decide) (by decide) (by decide) rfl ?_
          rintro z428 h429 ⟨a431, rfl, g432, K430, f433, f434⟩
          have ne435 : r_NONE ≠ a431 := Nat.ne_of_lt (Nat.lt_of_lt_of_le f403.lt g432)
          have ne436 : a5 ≠ a431 := Nat.ne_of_lt (Nat.lt_of_lt_of_le f405.lt g432)
          have ne437 : a26 ≠ a431 := Nat.ne_of_lt (Nat.lt_of_lt_of_le f410.lt g432)
          have ne438 : a24 ≠ a431 := Nat.ne_of_lt (Nat.lt_of_lt_of_le f411.lt g432)
          have ne439 : a25 ≠ a431 := Nat.ne_of_lt (Nat.lt_of_lt_of_le f412.lt g432)
          have ne440 : a136 ≠ a431 := Nat.ne_of_lt (Nat.lt_of_lt_of_le f415.lt g432)
          have ne441 : a228 ≠ a431 := Nat.ne_of_lt (Nat.lt_of_lt_of_le f417.lt g432)
          have ne442 : a191 ≠ a431 := Nat.ne_of_lt (Nat.lt_of_lt_of_le f419.lt g432)
          have ne443 : a107 ≠ a431 := Nat.ne_of_lt (Nat.lt_of_lt_of_le f422.lt g432)
          have ne444 : a352 ≠ a431 := Nat.ne_of_lt (Nat.lt_of_lt_of_le f399.lt g432)
          have ge445 : Z.heap.size ≤ a431 := Nat.le_trans zs425 g432
          have f446 : Sta Z h429 "com/example/interlace/interlace/engine/Floors" "NONE" "[J" (.ref r_NONE) := own_staK f402 K430 (allS (Arz.nostat f410) all0)
          have f447 : Exa Z h429 r_NONE "[J" := f403.keep K430
          have f448 : Arj Z h429 r_NONE [] := f404.keep K430 (ninS ne49 nin0)
          have f449 : Exa Z h429 a5 "com/example/interlace/interlace/engine/Floors" := f405.keep K430
          have f450 : Fld Z h429 a5 "com/example/interlace/interlace/engine/Floors" "floors" "[J" (.ref a24) := f406.keep K430 (ninS ne50 nin0)
          have f451 : Fld Z h429 a5 "com/example/interlace/interlace/engine/Floors" "hasFloor" "[Z" (.ref a25) := f407.keep K430 (ninS ne50 nin0)
          have f452 : Fld Z h429 a5 "com/example/interlace/interlace/engine/Floors" "rests" "[[J" (.ref a26) := f408.keep K430 (ninS ne50 nin0)
          have f453 : Fld Z h429 a5 "com/example/interlace/interlace/engine/Floors" "latest" "J" (.long i0) := f409.keep K430 (ninS ne50 nin0)
          have f454 : Exa Z h429 a24 "[J" := f411.keep K430
          have f455 : Exa Z h429 a25 "[Z" := f412.keep K430
          have f456 : Arj Z h429 a24 [i4, 0] := f426.keep K430 (ninS ne31 nin0)
          have f457 : Ari Z h429 a25 .boolean [(1 : Int32), 0] := f427.keep K430 (ninS ne32 nin0)
          have f458 : Exa Z h429 a136 "com/example/interlace/interlace/pattern/Structure$Leaf" := f415.keep K430
          have f459 : Fld Z h429 a136 "com/example/interlace/interlace/pattern/Structure$Leaf" "variable" "I" (.int (0 : Int32)) := f416.keep K430 (ninS (Ne.symm ne144) nin0)
          have f460 : Exa Z h429 a228 "com/example/interlace/interlace/pattern/Structure$Leaf" := f417.keep K430
          have f461 : Fld Z h429 a228 "com/example/interlace/interlace/pattern/Structure$Leaf" "variable" "I" (.int (1 : Int32)) := f418.keep K430 (ninS (Ne.symm ne236) nin0)
          have f462 : Exa Z h429 a191 "com/example/interlace/interlace/engine/Plan$Required" := f419.keep K430
          have f463 : Fld Z h429 a191 "com/example/interlace/interlace/engine/Plan$Required" "operand" "Lcom/example/interlace/interlace/pattern/Structure;" (.ref a228) := f420.keep K430 (ninS (Ne.symm ne199) nin0)
          have f464 : Fld Z h429 a191 "com/example/interlace/interlace/engine/Plan$Required" "rest" "Lcom/example/interlace/interlace/engine/Plan$Required;" (.null) := f421.keep K430 (ninS (Ne.symm ne199) nin0)
          have f465 : Exa Z h429 a107 "com/example/interlace/interlace/engine/Plan$Required" := f422.keep K430
          have f466 : Fld Z h429 a107 "com/example/interlace/interlace/engine/Plan$Required" "operand" "Lcom/example/interlace/interlace/pattern/Structure;" (.ref a136) := f423.keep K430 (ninS (Ne.symm ne115) nin0)
          have f467 : Fld Z h429 a107 "com/example/interlace/interlace/engine/Plan$Required" "rest" "Lcom/example/interlace/interlace/engine/Plan$Required;" (.ref a191) := f424.keep K430 (ninS (Ne.symm ne115) nin0)
          have f468 : Exa Z h429 a352 "com/example/interlace/interlace/engine/Plan$Bind" := f399.keep K430
          have f469 : Fld Z h429 a352 "com/example/interlace/interlace/engine/Plan$Bind" "variable" "I" (.int (0 : Int32)) := f400.keep K430 (ninS (Ne.symm ne360) nin0)
          have f470 : Fld Z h429 a352 "com/example/interlace/interlace/engine/Plan$Bind" "required" "Lcom/example/interlace/interlace/engine/Plan$Required;" (.ref a107) := f401.keep K430 (ninS (Ne.symm ne360) nin0)
          have zs471 : Z.heap.size ≤ h429.size := Nat.le_trans zs425 K430.1
          refine Go.astore 98 #[.val (.long i0), .second, .val (.int i1), .val (.long i2), .second, .val (.int i3), .val (.long i4), .second, .val (.int (0 : Int32)), .val (.int (0 : Int32)), .val (.ref a5), .val (.ref a107), .val (.ref a431), .unset, .unset, .unset, .unset, .unset, .unset, .unset, .unset, .unset, .unset] at_96 rfl rfl rfl ?_
          refine Go.iconst 99 (0) at_98 (by decide) rfl ?_
          refine Go.istore 101 #[.val (.long i0), .second, .val (.int i1), .val (.long i2), .second, .val (.int i3), .val (.long i4), .second, .val (.int (0 : Int32)), .val (.int (0 : Int32)), .val (.ref a5), .val (.ref a107), .val (.ref a431), .val (.int (0 : Int32)), .unset, .unset, .unset, .unset, .unset, .unset, .unset, .unset, .unset] at_99 rfl rfl ?_
          refine Go.iconst 102 (0) at_101 (by decide) rfl ?_
          refine Go.istore 104 #[.val (.long i0), .second, .val (.int i1), .val (.long i2), .second, .val (.int i3), .val (.long i4), .second, .val (.int (0 : Int32)), .val (.int (0 : Int32)), .val (.ref a5), .val (.ref a107), .val (.ref a431), .val (.int (0 : Int32)), .val (.int (0 : Int32)), .unset, .unset, .unset, .unset, .unset, .unset, .unset, .unset] at_102 rfl rfl ?_
          refine Go.lconst 105 (0) at_104 (by decide) rfl ?_
          refine Go.lstore 107 #[.val (.long i0), .second, .val (.int i1), .val (.long i2), .second, .val (.int i3), .val (.long i4), .second, .val (.int (0 : Int32)), .val (.int (0 : Int32)), .val (.ref a5), .val (.ref a107), .val (.ref a431), .val (.int (0 : Int32)), .val (.int (0 : Int32)), .val (.long (0 : Int64)), .second, .unset, .unset, .unset, .unset, .unset, .unset] at_105 rfl rfl ?_
          refine Go.lconst 108 (0) at_107 (by decide) rfl ?_
          refine Go.lstore 110 #[.val (.long i0), .second, .val (.int i1), .val (.long i2), .second, .val (.int i3), .val (.long i4), .second, .val (.int (0 : Int32)), .val (.int (0 : Int32)), .val (.ref a5), .val (.ref a107), .val (.ref a431), .val (.int (0 : Int32)), .val (.int (0 : Int32)), .val (.long (0 : Int64)), .second, .val (.long (0 : Int64)), .second, .unset, .unset, .unset, .unset] at_108 rfl rfl ?_
          refine Go.lload_n 111 at_110 rfl rfl ?_
          refine Go.lload_n 112 at_111 rfl rfl ?_
          refine Go.lcmp 113 at_112 rfl ?_
          refine Go.lcmp_ge 136 116 at_113 (by decide) (by decide) rfl (fun c => absurd c1 c) (fun _ => ?_)
          refine Go.iload 118 at_116 rfl rfl ?_
          refine Go.if_ne 130 121 at_118 (by decide) (by decide) rfl (fun c => absurd c (by decide)) (fun _ => ?_)
          refine Go.iconst 122 (1) at_121 (by decide) rfl ?_
          refine Go.istore 124 #[.val (.long i0), .second, .val (.int i1), .val (.long i2), .second, .val (.int i3), .val (.long i4), .second, .val (.int (0 : Int32)), .val (.int (0 : Int32)), .val (.ref a5), .val (.ref a107), .val (.ref a431), .val (.int (1 : Int32)), .val (.int (0 : Int32)), .val (.long (0 : Int64)), .second, .val (.long (0 : Int64)), .second, .unset, .unset, .unset, .unset] at_122 rfl rfl ?_
          refine Go.lload_n 125 at_124 rfl rfl ?_
          refine Go.lstore 127 #[.val (.long i0), .second, .val (.int i1), .val (.long i2), .second, .val (.int i3), .val (.long i4), .second, .val (.int (0 : Int32)), .val (.int (0 : Int32)), .val (.ref a5), .val (.ref a107), .val (.ref a431), .val (.int (1 : Int32)), .val (.int (0 : Int32)), .val (.long i2), .second, .val (.long (0 : Int64)), .second, .unset, .unset, .unset, .unset] at_125 rfl rfl ?_
          refine Go.goto 136 at_127 (by decide) (by decide) ?_
          refine Go.lload 138 at_136 rfl rfl ?_
          refine Go.lload_n 139 at_138 rfl rfl ?_
          refine Go.lcmp 140 at_139 rfl ?_
          refine Go.lcmp_ge 165 143 at_140 (by decide) (by decide) rfl (fun c => absurd c2 c) (fun _ => ?_)
          refine Go.iload 145 at_143 rfl rfl ?_
          refine Go.if_ne 158 148 at_145 (by decide) (by decide) rfl (fun c => absurd c (by decide)) (fun _ => ?_)
          refine Go.iconst 149 (1) at_148 (by decide) rfl ?_
          refine Go.istore 151 #[.val (.long i0), .second, .val (.int i1), .val (.long i2), .second, .val (.int i3), .val (.long i4), .second, .val (.int (0 : Int32)), .val (.int (0 : Int32)), .val (.ref a5), .val (.ref a107), .val (.ref a431), .val (.int (1 : Int32)), .val (.int (0 : Int32)), .val (.long i2), .second, .val (.long (0 : Int64)), .second, .unset, .unset, .unset, .unset] at_149 rfl rfl ?_
          refine Go.lload 153 at_151 rfl rfl ?_
          refine Go.lstore 155 #[.val (.long i0), .second, .val (.int i1), .val (.long i2), .second, .val (.int i3), .val (.long i4), .second, .val (.int (0 : Int32)), .val (.int (0 : Int32)), .val (.ref a5), .val (.ref a107), .val (.ref a431), .val (.int (1 : Int32)), .val (.int (0 : Int32)), .val (.long i4), .second, .val (.long (0 : Int64)), .second, .unset, .unset, .unset, .unset] at_153 rfl rfl ?_
          refine Go.goto 165 at_155 (by decide) (by decide) ?_
          refine Go.iload 167 at_165 rfl rfl ?_
          refine Go.if_eq 226 170 at_167 (by decide) (by decide) rfl (fun c => absurd c (by decide)) (fun _ => ?_)
          refine Go.iload 172 at_170 rfl rfl ?_
          refine Go.if_eq 226 175 at_172 (by decide) (by decide) rfl (fun _ => ?_) (fun c => absurd c (by decide))
          refine Go.iload 228 at_226 rfl rfl ?_
          refine Go.if_eq 254 231 at_228 (by decide) (by decide) rfl (fun c => absurd c (by decide)) (fun _ => ?_)
          refine Go.aload 233 at_231 rfl rfl rfl ?_
          refine Go.arraylengthJ (z := (1 : Int32)) 234 at_233 f433 (by decide : Nat.toInt32 1 = (1 : Int32)) rfl ?_
          refine Go.iconst 235 (1) at_234 (by decide) rfl ?_
          refine Go.icmp_ne 252 238 at_235 (by decide) (by decide) rfl (fun c => absurd c (by decide)) (fun _ => ?_)
          refine Go.aload 240 at_238 rfl rfl rfl ?_
          refine Go.iconst 241 (0) at_240 (by decide) rfl ?_
          refine Go.laload (x := i4) (0) 242 at_241 f433 (by decide) (by decide) rfl rfl ?_
          refine Go.lload 244 at_242 rfl rfl ?_
          refine Go.lcmp 245 at_244 rfl ?_
          refine Go.lcmp_ne 252 248 at_245 (by decide) (by decide) rfl (fun c480 => ?_) (fun c480 => ?_)
          ·
            refine Go.iconst 253 (0) at_252 (by decide) rfl ?_
            refine Go.nreturn (t := .boolean) (z' := (0 : Int32)) at_253 rfl (by simp) (by decide) (by decide) (by decide) ?_
            exact absurd (by first | rfl | exact own_mx _ _) c480
          ·
            refine Go.iconst 249 (1) at_248 (by decide) rfl ?_
            refine Go.goto 253 at_249 (by decide) (by decide) ?_
            refine Go.nreturn (t := .boolean) (z' := (1 : Int32)) at_253 rfl (by simp) (by decide) (by decide) (by decide) ?_
            rfl
        ·
          have f481 : Arj Z h397 a24 [i2, 0] := by have q := f413; simp only [own_00, own_10, c1, c2, if_true, if_false] at q; exact q
          have f482 : Ari Z h397 a25 .boolean [(1 : Int32), 0] := by have q := f414; simp only [own_00, own_10, c1, c2, if_true, if_false] at q; exact q
          refine Go.callVR [.ref a352] [] 96 at_93 (tw80 hw) (tw81 hw) (tw83 hw) (tw82 hw) (tw2 hw) (tw84 hw) f405 pl11 (by decide) (lenOf pd11 rfl) rfl (fun m => ef_k_ra10 m a5 a352) _ (k_ra10 hw h397 zs425 a5 a352 f405 f406 f407 f408 f481 f482 f410 f399 f400 f401 f422 f423 f424 f419 f420 f421 f415 f416 f417 f418 f402 f404 f403 ge51 ne50 ne31 ne32 (Ne.symm ne360) (Ne.symm ne115) (Ne.symm ne199) (Ne.symm ne144) (Ne.symm ne236) ne49) 0 rfl (Nat.le_of_eq rfl) (by decide) (by decide) (by decide) (by decide) rfl ?_
          rintro z483 h484 ⟨a486, rfl, g487, K485, f488, f489⟩
          have ne490 : r_NONE ≠ a486 := Nat.ne_of_lt (Nat.lt_of_lt_of_le f403.lt g487)
          have ne491 : a5 ≠ a486 := Nat.ne_of_lt (Nat.lt_of_lt_of_le f405.lt g487)
          have ne492 : a26 ≠ a486 := Nat.ne_of_lt (Nat.lt_of_lt_of_le f410.lt g487)
          have ne493 : a24 ≠ a486 := Nat.ne_of_lt (Nat.lt_of_lt_of_le f411.lt g487)
          have ne494 : a25 ≠ a486 := Nat.ne_of_lt (Nat.lt_of_lt_of_le f412.lt g487)
          have ne495 : a136 ≠ a486 := Nat.ne_of_lt (Nat.lt_of_lt_of_le f415.lt g487)
          have ne496 : a228 ≠ a486 := Nat.ne_of_lt (Nat.lt_of_lt_of_le f417.lt g487)
          have ne497 : a191 ≠ a486 := Nat.ne_of_lt (Nat.lt_of_lt_of_le f419.lt g487)
          have ne498 : a107 ≠ a486 := Nat.ne_of_lt (Nat.lt_of_lt_of_le f422.lt g487)
          have ne499 : a352 ≠ a486 := Nat.ne_of_lt (Nat.lt_of_lt_of_le f399.lt g487)
          have ge500 : Z.heap.size ≤ a486 := Nat.le_trans zs425 g487
          have f501 : Sta Z h484 "com/example/interlace/interlace/engine/Floors" "NONE" "[J" (.ref r_NONE) := own_staK f402 K485 (allS (Arz.nostat f410) all0)
          have f502 : Exa Z h484 r_NONE "[J" := f403.keep K485
          have f503 : Arj Z h484 r_NONE [] := f404.keep K485 (ninS ne49 nin0)
          have f504 : Exa Z h484 a5 "com/example/interlace/interlace/engine/Floors" := f405.keep K485
          have f505 : Fld Z h484 a5 "com/example/interlace/interlace/engine/Floors" "floors" "[J" (.ref a24) := f406.keep K485 (ninS ne50 nin0)
          have f506 : Fld Z h484 a5 "com/example/interlace/interlace/engine/Floors" "hasFloor" "[Z" (.ref a25) := f407.keep K485 (ninS ne50 nin0)
          have f507 : Fld Z h484 a5 "com/example/interlace/interlace/engine/Floors" "rests" "[[J" (.ref a26) := f408.keep K485 (ninS ne50 nin0)
          have f508 : Fld Z h484 a5 "com/example/interlace/interlace/engine/Floors" "latest" "J" (.long i0) := f409.keep K485 (ninS ne50 nin0)
          have f509 : Exa Z h484 a24 "[J" := f411.keep K485
          have f510 : Exa Z h484 a25 "[Z" := f412.keep K485
          have f511 : Arj Z h484 a24 [i2, 0] := f481.keep K485 (ninS ne31 nin0)
          have f512 : Ari Z h484 a25 .boolean [(1 : Int32), 0] := f482.keep K485 (ninS ne32 nin0)
          have f513 : Exa Z h484 a136 "com/example/interlace/interlace/pattern/Structure$Leaf" := f415.keep K485
          have f514 : Fld Z h484 a136 "com/example/interlace/interlace/pattern/Structure$Leaf" "variable" "I" (.int (0 : Int32)) := f416.keep K485 (ninS (Ne.symm ne144) nin0)
          have f515 : Exa Z h484 a228 "com/example/interlace/interlace/pattern/Structure$Leaf" := f417.keep K485
          have f516 : Fld Z h484 a228 "com/example/interlace/interlace/pattern/Structure$Leaf" "variable" "I" (.int (1 : Int32)) := f418.keep K485 (ninS (Ne.symm ne236) nin0)
          have f517 : Exa Z h484 a191 "com/example/interlace/interlace/engine/Plan$Required" := f419.keep K485
          have f518 : Fld Z h484 a191 "com/example/interlace/interlace/engine/Plan$Required" "operand" "Lcom/example/interlace/interlace/pattern/Structure;" (.ref a228) := f420.keep K485 (ninS (Ne.symm ne199) nin0)
          have f519 : Fld Z h484 a191 "com/example/interlace/interlace/engine/Plan$Required" "rest" "Lcom/example/interlace/interlace/engine/Plan$Required;" (.null) := f421.keep K485 (ninS (Ne.symm ne199) nin0)
          have f520 : Exa Z h484 a107 "com/example/interlace/interlace/engine/Plan$Required" := f422.keep K485
          have f521 : Fld Z h484 a107 "com/example/interlace/interlace/engine/Plan$Required" "operand" "Lcom/example/interlace/interlace/pattern/Structure;" (.ref a136) := f423.keep K485 (ninS (Ne.symm ne115) nin0)
          have f522 : Fld Z h484 a107 "com/example/interlace/interlace/engine/Plan$Required" "rest" "Lcom/example/interlace/interlace/engine/Plan$Required;" (.ref a191) := f424.keep K485 (ninS (Ne.symm ne115) nin0)
          have f523 : Exa Z h484 a352 "com/example/interlace/interlace/engine/Plan$Bind" := f399.keep K485
          have f524 : Fld Z h484 a352 "com/example/interlace/interlace/engine/Plan$Bind" "variable" "I" (.int (0 : Int32)) := f400.keep K485 (ninS (Ne.symm ne360) nin0)
          have f525 : Fld Z h484 a352 "com/example/interlace/interlace/engine/Plan$Bind" "required" "Lcom/example/interlace/interlace/engine/Plan$Required;" (.ref a107) := f401.keep K485 (ninS (Ne.symm ne360) nin0)
          have zs526 : Z.heap.size ≤ h484.size := Nat.le_trans zs425 K485.1
          refine Go.astore 98 #[.val (.long i0), .second, .val (.int i1), .val (.long i2), .second, .val (.int i3), .val (.long i4), .second, .val (.int (0 : Int32)), .val (.int (0 : Int32)), .val (.ref a5), .val (.ref a107), .val (.ref a486), .unset, .unset, .unset, .unset, .unset, .unset, .unset, .unset, .unset, .unset] at_96 rfl rfl rfl ?_
          refine Go.iconst 99 (0) at_98 (by decide) rfl ?_
          refine Go.istore 101 #[.val (.long i0), .second, .val (.int i1), .val (.long i2), .second, .val (.int i3), .val (.long i4), .second, .val (.int (0 : Int32)), .val (.int (0 : Int32)), .val (.ref a5), .val (.ref a107), .val (.ref a486), .val (.int (0 : Int32)), .unset, .unset, .unset, .unset, .unset, .unset, .unset, .unset, .unset] at_99 rfl rfl ?_
          refine Go.iconst 102 (0) at_101 (by decide) rfl ?_
          refine Go.istore 104 #[.val (.long i0), .second, .val (.int i1), .val (.long i2), .second, .val (.int i3), .val (.long i4), .second, .val (.int (0 : Int32)), .val (.int (0 : Int32)), .val (.ref a5), .val (.ref a107), .val (.ref a486), .val (.int (0 : Int32)), .val (.int (0 : Int32)), .unset, .unset, .unset, .unset, .unset, .unset, .unset, .unset] at_102 rfl rfl ?_
          refine Go.lconst 105 (0) at_104 (by decide) rfl ?_
          refine Go.lstore 107 #[.val (.long i0), .second, .val (.int i1), .val (.long i2), .second, .val (.int i3), .val (.long i4), .second, .val (.int (0 : Int32)), .val (.int (0 : Int32)), .val (.ref a5), .val (.ref a107), .val (.ref a486), .val (.int (0 : Int32)), .val (.int (0 : Int32)), .val (.long (0 : Int64)), .second, .unset, .unset, .unset, .unset, .unset, .unset] at_105 rfl rfl ?_
          refine Go.lconst 108 (0) at_107 (by decide) rfl ?_
          refine Go.lstore 110 #[.val (.long i0), .second, .val (.int i1), .val (.long i2), .second, .val (.int i3), .val (.long i4), .second, .val (.int (0 : Int32)), .val (.int (0 : Int32)), .val (.ref a5), .val (.ref a107), .val (.ref a486), .val (.int (0 : Int32)), .val (.int (0 : Int32)), .val (.long (0 : Int64)), .second, .val (.long (0 : Int64)), .second, .unset, .unset, .unset, .unset] at_108 rfl rfl ?_
          refine Go.lload_n 111 at_110 rfl rfl ?_
          refine Go.lload_n 112 at_111 rfl rfl ?_
          refine Go.lcmp 113 at_112 rfl ?_
          refine Go.lcmp_ge 136 116 at_113 (by decide) (by decide) rfl (fun c => absurd c1 c) (fun _ => ?_)
          refine Go.iload 118 at_116 rfl rfl ?_
          refine Go.if_ne 130 121 at_118 (by decide) (by decide) rfl (fun c => absurd c (by decide)) (fun _ => ?_)
          refine Go.iconst 122 (1) at_121 (by decide) rfl ?_
          refine Go.istore 124 #[.val (.long i0), .second, .val (.int i1), .val (.long i2), .second, .val (.int i3), .val (.long i4), .second, .val (.int (0 : Int32)), .val (.int (0 : Int32)), .val (.ref a5), .val (.ref a107), .val (.ref a486), .val (.int (1 : Int32)), .val (.int (0 : Int32)), .val (.long (0 : Int64)), .second, .val (.long (0 : Int64)), .second, .unset, .unset, .unset, .unset] at_122 rfl rfl ?_
          refine Go.lload_n 125 at_124 rfl rfl ?_
          refine Go.lstore 127 #[.val (.long i0), .second, .val (.int i1), .val (.long i2), .second, .val (.int i3), .val (.long i4), .second, .val (.int (0 : Int32)), .val (.int (0 : Int32)), .val (.ref a5), .val (.ref a107), .val (.ref a486), .val (.int (1 : Int32)), .val (.int (0 : Int32)), .val (.long i2), .second, .val (.long (0 : Int64)), .second, .unset, .unset, .unset, .unset] at_125 rfl rfl ?_
          refine Go.goto 136 at_127 (by decide) (by decide) ?_
          refine Go.lload 138 at_136 rfl rfl ?_
          refine Go.lload_n 139 at_138 rfl rfl ?_
          refine Go.lcmp 140 at_139 rfl ?_
          refine Go.lcmp_ge 165 143 at_140 (by decide) (by decide) rfl (fun _ => ?_) (fun c => absurd c c2)
          refine Go.iload 167 at_165 rfl rfl ?_
          refine Go.if_eq 226 170 at_167 (by decide) (by decide) rfl (fun c => absurd c (by decide)) (fun _ => ?_)
          refine Go.iload 172 at_170 rfl rfl ?_
          refine Go.if_eq 226 175 at_172 (by decide) (by decide) rfl (fun _ => ?_) (fun c => absurd c (by decide))
          refine Go.iload 228 at_226 rfl rfl ?_
          refine Go.if_eq 254 231 at_228 (by decide) (by decide) rfl (fun c => absurd c (by decide)) (fun _ => ?_)
          refine Go.aload 233 at_231 rfl rfl rfl ?_
          refine Go.arraylengthJ (z := (1 : Int32)) 234 at_233 f488 (by decide : Nat.toInt32 1 = (1 : Int32)) rfl ?_
          refine Go.iconst 235 (1) at_234 (by decide) rfl ?_
          refine Go.icmp_ne 252 238 at_235 (by decide) (by decide) rfl (fun c => absurd c (by decide)) (fun _ => ?_)
          refine Go.aload 240 at_238 rfl rfl rfl ?_
          refine Go.iconst 241 (0) at_240 (by decide) rfl ?_
          refine Go.laload (x := i2) (0) 242 at_241 f488 (by decide) (by decide) rfl rfl ?_
          refine Go.lload 244 at_242 rfl rfl ?_
          refine Go.lcmp 245 at_244 rfl ?_
          refine Go.lcmp_ne 252 248 at_245 (by decide) (by decide) rfl (fun c534 => ?_) (fun c534 => ?_)
          ·
            refine Go.iconst 253 (0) at_252 (by decide) rfl ?_
            refine Go.nreturn (t := .boolean) (z' := (0 : Int32)) at_253 rfl (by simp) (by decide) (by decide) (by decide) ?_
            exact absurd (by first | rfl | exact own_mx _ _) c534
          ·
            refine Go.iconst 249 (1) at_248 (by decide) rfl ?_
            refine Go.goto 253 at_249 (by decide) (by decide) ?_
            refine Go.nreturn (t := .boolean) (z' := (1 : Int32)) at_253 rfl (by simp) (by decide) (by decide) (by decide) ?_
            rfl
      ·
        rcases Decidable.em (i4 < i0) with c2 | c2
        ·
          have f535 : Arj Z h397 a24 [i4, 0] := by have q := f413; simp only [own_00, own_10, c1, c2, if_true, if_false] at q; exact q
          have f536 : Ari Z h397 a25 .boolean [(1 : Int32), 0] := by have q := f414; simp only [own_00, own_10, c1, c2, if_true, if_false] at q; exact q
          refine Go.callVR [.ref a352] [] 96 at_93 (tw80 hw) (tw81 hw) (tw83 hw) (tw82 hw) (tw2 hw) (tw84 hw) f405 pl11 (by decide) (lenOf pd11 rfl) rfl (fun m => ef_k_ra10 m a5 a352) _ (k_ra10 hw h397 zs425 a5 a352 f405 f406 f407 f408 f535 f536 f410 f399 f400 f401 f422 f423 f424 f419 f420 f421 f415 f416 f417 f418 f402 f404 f403 ge51 ne50 ne31 ne32 (Ne.symm ne360) (Ne.symm ne115) (Ne.symm ne199) (Ne.symm ne144) (Ne.symm ne236) ne49) 0 rfl (Nat.le_of_eq rfl) (by decide) (by decide) (by decide) (by decide) rfl ?_
          rintro z537 h538 ⟨a540, rfl, g541, K539, f542, f543⟩
          have ne544 : r_NONE ≠ a540 := Nat.ne_of_lt (Nat.lt_of_lt_of_le f403.lt g541)
          have ne545 : a5 ≠ a540 := Nat.ne_of_lt (Nat.lt_of_lt_of_le f405.lt g541)
          have ne546 : a26 ≠ a540 := Nat.ne_of_lt (Nat.lt_of_lt_of_le f410.lt g541)
          have ne547 : a24 ≠ a540 := Nat.ne_of_lt (Nat.lt_of_lt_of_le f411.lt g541)
          have ne548 : a25 ≠ a540 := Nat.ne_of_lt (Nat.lt_of_lt_of_le f412.lt g541)
          have ne549 : a136 ≠ a540 := Nat.ne_of_lt (Nat.lt_of_lt_of_le f415.lt g541)
          have ne550 : a228 ≠ a540 := Nat.ne_of_lt (Nat.lt_of_lt_of_le f417.lt g541)
          have ne551 : a191 ≠ a540 := Nat.ne_of_lt (Nat.lt_of_lt_of_le f419.lt g541)
          have ne552 : a107 ≠ a540 := Nat.ne_of_lt (Nat.lt_of_lt_of_le f422.lt g541)
          have ne553 : a352 ≠ a540 := Nat.ne_of_lt (Nat.lt_of_lt_of_le f399.lt g541)
          have ge554 : Z.heap.size ≤ a540 := Nat.le_trans zs425 g541
          have f555 : Sta Z h538 "com/example/interlace/interlace/engine/Floors" "NONE" "[J" (.ref r_NONE) := own_staK f402 K539 (allS (Arz.nostat f410) all0)
          have f556 : Exa Z h538 r_NONE "[J" := f403.keep K539
          have f557 : Arj Z h538 r_NONE [] := f404.keep K539 (ninS ne49 nin0)
          have f558 : Exa Z h538 a5 "com/example/interlace/interlace/engine/Floors" := f405.keep K539
          have f559 : Fld Z h538 a5 "com/example/interlace/interlace/engine/Floors" "floors" "[J" (.ref a24) := f406.keep K539 (ninS ne50 nin0)
          have f560 : Fld Z h538 a5 "com/example/interlace/interlace/engine/Floors" "hasFloor" "[Z" (.ref a25) := f407.keep K539 (ninS ne50 nin0)
          have f561 : Fld Z h538 a5 "com/example/interlace/interlace/engine/Floors" "rests" "[[J" (.ref a26) := f408.keep K539 (ninS ne50 nin0)
          have f562 : Fld Z h538 a5 "com/example/interlace/interlace/engine/Floors" "latest" "J" (.long i0) := f409.keep K539 (ninS ne50 nin0)
          have f563 : Exa Z h538 a24 "[J" := f411.keep K539
          have f564 : Exa Z h538 a25 "[Z" := f412.keep K539
          have f565 : Arj Z h538 a24 [i4, 0] := f535.keep K539 (ninS ne31 nin0)
          have f566 : Ari Z h538 a25 .boolean [(1 : Int32), 0] := f536.keep K539 (ninS ne32 nin0)
          have f567 : Exa Z h538 a136 "com/example/interlace/interlace/pattern/Structure$Leaf" := f415.keep K539
          have f568 : Fld Z h538 a136 "com/example/interlace/interlace/pattern/Structure$Leaf" "variable" "I" (.int (0 : Int32)) := f416.keep K539 (ninS (Ne.symm ne144) nin0)
          have f569 : Exa Z h538 a228 "com/example/interlace/interlace/pattern/Structure$Leaf" := f417.keep K539
          have f570 : Fld Z h538 a228 "com/example/interlace/interlace/pattern/Structure$Leaf" "variable" "I" (.int (1 : Int32)) := f418.keep K539 (ninS (Ne.symm ne236) nin0)
          have f571 : Exa Z h538 a191 "com/example/interlace/interlace/engine/Plan$Required" := f419.keep K539
          have f572 : Fld Z h538 a191 "com/example/interlace/interlace/engine/Plan$Required" "operand" "Lcom/example/interlace/interlace/pattern/Structure;" (.ref a228) := f420.keep K539 (ninS (Ne.symm ne199) nin0)
          have f573 : Fld Z h538 a191 "com/example/interlace/interlace/engine/Plan$Required" "rest" "Lcom/example/interlace/interlace/engine/Plan$Required;" (.null) := f421.keep K539 (ninS (Ne.symm ne199) nin0)
          have f574 : Exa Z h538 a107 "com/example/interlace/interlace/engine/Plan$Required" := f422.keep K539
          have f575 : Fld Z h538 a107 "com/example/interlace/interlace/engine/Plan$Required" "operand" "Lcom/example/interlace/interlace/pattern/Structure;" (.ref a136) := f423.keep K539 (ninS (Ne.symm ne115) nin0)
          have f576 : Fld Z h538 a107 "com/example/interlace/interlace/engine/Plan$Required" "rest" "Lcom/example/interlace/interlace/engine/Plan$Required;" (.ref a191) := f424.keep K539 (ninS (Ne.symm ne115) nin0)
          have f577 : Exa Z h538 a352 "com/example/interlace/interlace/engine/Plan$Bind" := f399.keep K539
          have f578 : Fld Z h538 a352 "com/example/interlace/interlace/engine/Plan$Bind" "variable" "I" (.int (0 : Int32)) := f400.keep K539 (ninS (Ne.symm ne360) nin0)
          have f579 : Fld Z h538 a352 "com/example/interlace/interlace/engine/Plan$Bind" "required" "Lcom/example/interlace/interlace/engine/Plan$Required;" (.ref a107) := f401.keep K539 (ninS (Ne.symm ne360) nin0)
          have zs580 : Z.heap.size ≤ h538.size := Nat.le_trans zs425 K539.1
          refine Go.astore 98 #[.val (.long i0), .second, .val (.int i1), .val (.long i2), .second, .val (.int i3), .val (.long i4), .second, .val (.int (0 : Int32)), .val (.int (0 : Int32)), .val (.ref a5), .val (.ref a107), .val (.ref a540), .unset, .unset, .unset, .unset, .unset, .unset, .unset, .unset, .unset, .unset] at_96 rfl rfl rfl ?_
          refine Go.iconst 99 (0) at_98 (by decide) rfl ?_
          refine Go.istore 101 #[.val (.long i0), .second, .val (.int i1), .val (.long i2), .second, .val (.int i3), .val (.long i4), .second, .val (.int (0 : Int32)), .val (.int (0 : Int32)), .val (.ref a5), .val (.ref a107), .val (.ref a540), .val (.int (0 : Int32)), .unset, .unset, .unset, .unset, .unset, .unset, .unset, .unset, .unset] at_99 rfl rfl ?_
          refine Go.iconst 102 (0) at_101 (by decide) rfl ?_
          refine Go.istore 104 #[.val (.long i0), .second, .val (.int i1), .val (.long i2), .second, .val (.int i3), .val (.long i4), .second, .val (.int (0 : Int32)), .val (.int (0 : Int32)), .val (.ref a5), .val (.ref a107), .val (.ref a540), .val (.int (0 : Int32)), .val (.int (0 : Int32)), .unset, .unset, .unset, .unset, .unset, .unset, .unset, .unset] at_102 rfl rfl ?_
          refine Go.lconst 105 (0) at_104 (by decide) rfl ?_
          refine Go.lstore 107 #[.val (.long i0), .second, .val (.int i1), .val (.long i2), .second, .val (.int i3), .val (.long i4), .second, .val (.int (0 : Int32)), .val (.int (0 : Int32)), .val (.ref a5), .val (.ref a107), .val (.ref a540), .val (.int (0 : Int32)), .val (.int (0 : Int32)), .val (.long (0 : Int64)), .second, .unset, .unset, .unset, .unset, .unset, .unset] at_105 rfl rfl ?_
          refine Go.lconst 108 (0) at_107 (by decide) rfl ?_
          refine Go.lstore 110 #[.val (.long i0), .second, .val (.int i1), .val (.long i2), .second, .val (.int i3), .val (.long i4), .second, .val (.int (0 : Int32)), .val (.int (0 : Int32)), .val (.ref a5), .val (.ref a107), .val (.ref a540), .val (.int (0 : Int32)), .val (.int (0 : Int32)), .val (.long (0 : Int64)), .second, .val (.long (0 : Int64)), .second, .unset, .unset, .unset, .unset] at_108 rfl rfl ?_
          refine Go.lload_n 111 at_110 rfl rfl ?_
          refine Go.lload_n 112 at_111 rfl rfl ?_
          refine Go.lcmp 113 at_112 rfl ?_
          refine Go.lcmp_ge 136 116 at_113 (by decide) (by decide) rfl (fun _ => ?_) (fun c => absurd c c1)
          refine Go.lload 138 at_136 rfl rfl ?_
          refine Go.lload_n 139 at_138 rfl rfl ?_
          refine Go.lcmp 140 at_139 rfl ?_
          refine Go.lcmp_ge 165 143 at_140 (by decide) (by decide) rfl (fun c => absurd c2 c) (fun _ => ?_)
          refine Go.iload 145 at_143 rfl rfl ?_
          refine Go.if_ne 158 148 at_145 (by decide) (by decide) rfl (fun c => absurd c (by decide)) (fun _ => ?_)
          refine Go.iconst 149 (1) at_148 (by decide) rfl ?_
          refine Go.istore 151 #[.val (.long i0), .second, .val (.int i1), .val (.long i2), .second, .val (.int i3), .val (.long i4), .second, .val (.int (0 : Int32)), .val (.int (0 : Int32)), .val (.ref a5), .val (.ref a107), .val (.ref a540), .val (.int (1 : Int32)), .val (.int (0 : Int32)), .val (.long (0 : Int64)), .second, .val (.long (0 : Int64)), .second, .unset, .unset, .unset, .unset] at_149 rfl rfl ?_
          refine Go.lload 153 at_151 rfl rfl ?_
          refine Go.lstore 155 #[.val (.long i0), .second, .val (.int i1), .val (.long i2), .second, .val (.int i3), .val (.long i4), .second, .val (.int (0 : Int32)), .val (.int (0 : Int32)), .val (.ref a5), .val (.ref a107), .val (.ref a540), .val (.int (1 : Int32)), .val (.int (0 : Int32)), .val (.long i4), .second, .val (.long (0 : Int64)), .second, .unset, .unset, .unset, .unset] at_153 rfl rfl ?_
          refine Go.goto 165 at_155 (by decide) (by decide) ?_
          refine Go.iload 167 at_165 rfl rfl ?_
          refine Go.if_eq 226 170 at_167 (by decide) (by decide) rfl (fun c => absurd c (by decide)) (fun _ => ?_)
          refine Go.iload 172 at_170 rfl rfl ?_
          refine Go.if_eq 226 175 at_172 (by decide) (by decide) rfl (fun _ => ?_) (fun c => absurd c (by decide))
          refine Go.iload 228 at_226 rfl rfl ?_
          refine Go.if_eq 254 231 at_228 (by decide) (by decide) rfl (fun c => absurd c (by decide)) (fun _ => ?_)
          refine Go.aload 233 at_231 rfl rfl rfl ?_
          refine Go.arraylengthJ (z := (1 : Int32)) 234 at_233 f542 (by decide : Nat.toInt32 1 = (1 : Int32)) rfl ?_
          refine Go.iconst 235 (1) at_234 (by decide) rfl ?_
          refine Go.icmp_ne 252 238 at_235 (by decide) (by decide) rfl (fun c => absurd c (by decide)) (fun _ => ?_)
          refine Go.aload 240 at_238 rfl rfl rfl ?_
          refine Go.iconst 241 (0) at_240 (by decide) rfl ?_
          refine Go.laload (x := i4) (0) 242 at_241 f542 (by decide) (by decide) rfl rfl ?_
          refine Go.lload 244 at_242 rfl rfl ?_
          refine Go.lcmp 245 at_244 rfl ?_
          refine Go.lcmp_ne 252 248 at_245 (by decide) (by decide) rfl (fun c588 => ?_) (fun c588 => ?_)
          ·
            refine Go.iconst 253 (0) at_252 (by decide) rfl ?_
            refine Go.nreturn (t := .boolean) (z' := (0 : Int32)) at_253 rfl (by simp) (by decide) (by decide) (by decide) ?_
            exact absurd (by first | rfl | exact own_mx _ _) c588
          ·
            refine Go.iconst 249 (1) at_248 (by decide) rfl ?_
            refine Go.goto 253 at_249 (by decide) (by decide) ?_
            refine Go.nreturn (t := .boolean) (z' := (1 : Int32)) at_253 rfl (by simp) (by decide) (by decide) (by decide) ?_
            rfl
        ·
          have f589 : Arj Z h397 a24 [0, 0] := by have q := f413; simp only [own_00, own_10, c1, c2, if_true, if_false] at q; exact q
          have f590 : Ari Z h397 a25 .boolean [0, 0] := by have q := f414; simp only [own_00, own_10, c1, c2, if_true, if_false] at q; exact q
          refine Go.callVR [.ref a352] [] 96 at_93 (tw80 hw) (tw81 hw) (tw83 hw) (tw82 hw) (tw2 hw) (tw84 hw) f405 pl11 (by decide) (lenOf pd11 rfl) rfl (fun m => ef_k_ra00 m a5 a352) _ (k_ra00 hw h397 zs425 a5 a352 f405 f406 f407 f408 f589 f590 f410 f399 f400 f401 f422 f423 f424 f419 f420 f421 f415 f416 f417 f418 f402 f404 f403 ge51 ne50 ne31 ne32 (Ne.symm ne360) (Ne.symm ne115) (Ne.symm ne199) (Ne.symm ne144) (Ne.symm ne236) ne49) 0 rfl (Nat.le_of_eq rfl) (by decide) (by decide) (by decide) (by decide) rfl ?_
          rintro z591 h592 ⟨a594, rfl, g595, K593, f596, f597⟩
          have ne598 : r_NONE ≠ a594 := Nat.ne_of_lt (Nat.lt_of_lt_of_le f403.lt g595)
          have ne599 : a5 ≠ a594 := Nat.ne_of_lt (Nat.lt_of_lt_of_le f405.lt g595)
          have ne600 : a26 ≠ a594 := Nat.ne_of_lt (Nat.lt_of_lt_of_le f410.lt g595)
          have ne601 : a24 ≠ a594 := Nat.ne_of_lt (Nat.lt_of_lt_of_le f411.lt g595)
          have ne602 : a25 ≠ a594 := Nat.ne_of_lt (Nat.lt_of_lt_of_le f412.lt g595)
          have ne603 : a136 ≠ a594 := Nat.ne_of_lt (Nat.lt_of_lt_of_le f415.lt g595)
          have ne604 : a228 ≠ a594 := Nat.ne_of_lt (Nat.lt_of_lt_of_le f417.lt g595)
          have ne605 : a191 ≠ a594 := Nat.ne_of_lt (Nat.lt_of_lt_of_le f419.lt g595)
          have ne606 : a107 ≠ a594 := Nat.ne_of_lt (Nat.lt_of_lt_of_le f422.lt g595)
          have ne607 : a352 ≠ a594 := Nat.ne_of_lt (Nat.lt_of_lt_of_le f399.lt g595)
          have ge608 : Z.heap.size ≤ a594 := Nat.le_trans zs425 g595
          have f609 : Sta Z h592 "com/example/interlace/interlace/engine/Floors" "NONE" "[J" (.ref r_NONE) := own_staK f402 K593 (allS (Arz.nostat f410) all0)
          have f610 : Exa Z h592 r_NONE "[J" := f403.keep K593
          have f611 : Arj Z h592 r_NONE [] := f404.keep K593 (ninS ne49 nin0)
          have f612 : Exa Z h592 a5 "com/example/interlace/interlace/engine/Floors" := f405.keep K593
          have f613 : Fld Z h592 a5 "com/example/interlace/interlace/engine/Floors" "floors" "[J" (.ref a24) := f406.keep K593 (ninS ne50 nin0)
          have f614 : Fld Z h592 a5 "com/example/interlace/interlace/engine/Floors" "hasFloor" "[Z" (.ref a25) := f407.keep K593 (ninS ne50 nin0)
          have f615 : Fld Z h592 a5 "com/example/interlace/interlace/engine/Floors" "rests" "[[J" (.ref a26) := f408.keep K593 (ninS ne50 nin0)
          have f616 : Fld Z h592 a5 "com/example/interlace/interlace/engine/Floors" "latest" "J" (.long i0) := f409.keep K593 (ninS ne50 nin0)
          have f617 : Exa Z h592 a24 "[J" := f411.keep K593
          have f618 : Exa Z h592 a25 "[Z" := f412.keep K593
          have f619 : Arj Z h592 a24 [0, 0] := f589.keep K593 (ninS ne31 nin0)
          have f620 : Ari Z h592 a25 .boolean [0, 0] := f590.keep K593 (ninS ne32 nin0)
          have f621 : Exa Z h592 a136 "com/example/interlace/interlace/pattern/Structure$Leaf" := f415.keep K593
          have f622 : Fld Z h592 a136 "com/example/interlace/interlace/pattern/Structure$Leaf" "variable" "I" (.int (0 : Int32)) := f416.keep K593 (ninS (Ne.symm ne144) nin0)
          have f623 : Exa Z h592 a228 "com/example/interlace/interlace/pattern/Structure$Leaf" := f417.keep K593
          have f624 : Fld Z h592 a228 "com/example/interlace/interlace/pattern/Structure$Leaf" "variable" "I" (.int (1 : Int32)) := f418.keep K593 (ninS (Ne.symm ne236) nin0)
          have f625 : Exa Z h592 a191 "com/example/interlace/interlace/engine/Plan$Required" := f419.keep K593
          have f626 : Fld Z h592 a191 "com/example/interlace/interlace/engine/Plan$Required" "operand" "Lcom/example/interlace/interlace/pattern/Structure;" (.ref a228) := f420.keep K593 (ninS (Ne.symm ne199) nin0)
          have f627 : Fld Z h592 a191 "com/example/interlace/interlace/engine/Plan$Required" "rest" "Lcom/example/interlace/interlace/engine/Plan$Required;" (.null) := f421.keep K593 (ninS (Ne.symm ne199) nin0)
          have f628 : Exa Z h592 a107 "com/example/interlace/interlace/engine/Plan$Required" := f422.keep K593
          have f629 : Fld Z h592 a107 "com/example/interlace/interlace/engine/Plan$Required" "operand" "Lcom/example/interlace/interlace/pattern/Structure;" (.ref a136) := f423.keep K593 (ninS (Ne.symm ne115) nin0)
          have f630 : Fld Z h592 a107 "com/example/interlace/interlace/engine/Plan$Required" "rest" "Lcom/example/interlace/interlace/engine/Plan$Required;" (.ref a191) := f424.keep K593 (ninS (Ne.symm ne115) nin0)
          have f631 : Exa Z h592 a352 "com/example/interlace/interlace/engine/Plan$Bind" := f399.keep K593
          have f632 : Fld Z h592 a352 "com/example/interlace/interlace/engine/Plan$Bind" "variable" "I" (.int (0 : Int32)) := f400.keep K593 (ninS (Ne.symm ne360) nin0)
          have f633 : Fld Z h592 a352 "com/example/interlace/interlace/engine/Plan$Bind" "required" "Lcom/example/interlace/interlace/engine/Plan$Required;" (.ref a107) := f401.keep K593 (ninS (Ne.symm ne360) nin0)
          have zs634 : Z.heap.size ≤ h592.size := Nat.le_trans zs425 K593.1
          refine Go.astore 98 #[.val (.long i0), .second, .val (.int i1), .val (.long i2), .second, .val (.int i3), .val (.long i4), .second, .val (.int (0 : Int32)), .val (.int (0 : Int32)), .val (.ref a5), .val (.ref a107), .val (.ref a594), .unset, .unset, .unset, .unset, .unset, .unset, .unset, .unset, .unset, .unset] at_96 rfl rfl rfl ?_
          refine Go.iconst 99 (0) at_98 (by decide) rfl ?_
          refine Go.istore 101 #[.val (.long i0), .second, .val (.int i1), .val (.long i2), .second, .val (.int i3), .val (.long i4), .second, .val (.int (0 : Int32)), .val (.int (0 : Int32)), .val (.ref a5), .val (.ref a107), .val (.ref a594), .val (.int (0 : Int32)), .unset, .unset, .unset, .unset, .unset, .unset, .unset, .unset, .unset] at_99 rfl rfl ?_
          refine Go.iconst 102 (0) at_101 (by decide) rfl ?_
          refine Go.istore 104 #[.val (.long i0), .second, .val (.int i1), .val (.long i2), .second, .val (.int i3), .val (.long i4), .second, .val (.int (0 : Int32)), .val (.int (0 : Int32)), .val (.ref a5), .val (.ref a107), .val (.ref a594), .val (.int (0 : Int32)), .val (.int (0 : Int32)), .unset, .unset, .unset, .unset, .unset, .unset, .unset, .unset] at_102 rfl rfl ?_
          refine Go.lconst 105 (0) at_104 (by decide) rfl ?_
          refine Go.lstore 107 #[.val (.long i0), .second, .val (.int i1), .val (.long i2), .second, .val (.int i3), .val (.long i4), .second, .val (.int (0 : Int32)), .val (.int (0 : Int32)), .val (.ref a5), .val (.ref a107), .val (.ref a594), .val (.int (0 : Int32)), .val (.int (0 : Int32)), .val (.long (0 : Int64)), .second, .unset, .unset, .unset, .unset, .unset, .unset] at_105 rfl rfl ?_
          refine Go.lconst 108 (0) at_107 (by decide) rfl ?_
          refine Go.lstore 110 #[.val (.long i0), .second, .val (.int i1), .val (.long i2), .second, .val (.int i3), .val (.long i4), .second, .val (.int (0 : Int32)), .val (.int (0 : Int32)), .val (.ref a5), .val (.ref a107), .val (.ref a594), .val (.int (0 : Int32)), .val (.int (0 : Int32)), .val (.long (0 : Int64)), .second, .val (.long (0 : Int64)), .second, .unset, .unset, .unset, .unset] at_108 rfl rfl ?_
          refine Go.lload_n 111 at_110 rfl rfl ?_
          refine Go.lload_n 112 at_111 rfl rfl ?_
          refine Go.lcmp 113 at_112 rfl ?_
          refine Go.lcmp_ge 136 116 at_113 (by decide) (by decide) rfl (fun _ => ?_) (fun c => absurd c c1)
          refine Go.lload 138 at_136 rfl rfl ?_
          refine Go.lload_n 139 at_138 rfl rfl ?_
          refine Go.lcmp 140 at_139 rfl ?_
          refine Go.lcmp_ge 165 143 at_140 (by decide) (by decide) rfl (fun _ => ?_) (fun c => absurd c c2)
          refine Go.iload 167 at_165 rfl rfl ?_
          refine Go.if_eq 226 170 at_167 (by decide) (by decide) rfl (fun _ => ?_) (fun c => absurd c (by decide))
          refine Go.iload 228 at_226 rfl rfl ?_
          refine Go.if_eq 254 231 at_228 (by decide) (by decide) rfl (fun _ => ?_) (fun c => absurd c (by decide))
          refine Go.iload 256 at_254 rfl rfl ?_
          refine Go.if_eq 282 259 at_256 (by decide) (by decide) rfl (fun _ => ?_) (fun c => absurd c (by decide))
          refine Go.aload 284 at_282 rfl rfl rfl ?_
          refine Go.arraylengthJ (z := (0 : Int32)) 285 at_284 f596 (by decide : Nat.toInt32 0 = (0 : Int32)) rfl ?_
          refine Go.if_ne 292 288 at_285 (by decide) (by decide) rfl (fun c => absurd c (by decide)) (fun _ => ?_)
          refine Go.iconst 289 (1) at_288 (by decide) rfl ?_
          refine Go.goto 293 at_289 (by decide) (by decide) ?_
          refine Go.nreturn (t := .boolean) (z' := (1 : Int32)) at_293 rfl (by simp) (by decide) (by decide) (by decide) ?_
          rfl
    ·
      subst hs
      rcases Decidable.em (i2 < i0) with c1 | c1
      ·
        rcases Decidable.em (i4 < i0) with c2 | c2
        ·
          have f641 : Arj Z h397 a24 [i2, i4] := by have q := f413; simp only [own_00, own_10, c1, c2, if_true, if_false] at q; exact q
          have f642 : Ari Z h397 a25 .boolean [(1 : Int32), (1 : Int32)] := by have q := f414; simp only [own_00, own_10, c1, c2, if_true, if_false] at q; exact q
          refine Go.callVR [.ref a352] [] 96 at_93 (tw80 hw) (tw81 hw) (tw83 hw) (tw82 hw) (tw2 hw) (tw84 hw) f405 pl11 (by decide) (lenOf pd11 rfl) rfl (fun m => ef_k_ra11 m a5 a352) _ (k_ra11 hw h397 zs425 a5 a352 f405 f406 f407 f408 f641 f642 f410 f399 f400 f401 f422 f423 f424 f419 f420 f421 f415 f416 f417 f418 f402 f404 f403 ge51 ne50 ne31 ne32 (Ne.symm ne360) (Ne.symm ne115) (Ne.symm ne199) (Ne.symm ne144) (Ne.symm ne236) ne49) 0 rfl (Nat.le_of_eq rfl) (by decide) (by decide) (by decide) (by decide) rfl ?_
          rintro z643 h644 ⟨a646, rfl, g647, K645, f648, f649⟩
          have ne650 : r_NONE ≠ a646 := Nat.ne_of_lt (Nat.lt_of_lt_of_le f403.lt g647)
          have ne651 : a5 ≠ a646 := Nat.ne_of_lt (Nat.lt_of_lt_of_le f405.lt g647)
          have ne652 : a26 ≠ a646 := Nat.ne_of_lt (Nat.lt_of_lt_of_le f410.lt g647)
          have ne653 : a24 ≠ a646 := Nat.ne_of_lt (Nat.lt_of_lt_of_le f411.lt g647)
          have ne654 : a25 ≠ a646 := Nat.ne_of_lt (Nat.lt_of_lt_of_le f412.lt g647)
          have ne655 : a136 ≠ a646 := Nat.ne_of_lt (Nat.lt_of_lt_of_le f415.lt g647)
          have ne656 : a228 ≠ a646 := Nat.ne_of_lt (Nat.lt_of_lt_of_le f417.lt g647)
          have ne657 : a191 ≠ a646 := Nat.ne_of_lt (Nat.lt_of_lt_of_le f419.lt g647)
          have ne658 : a107 ≠ a646 := Nat.ne_of_lt (Nat.lt_of_lt_of_le f422.lt g647)
          have ne659 : a352 ≠ a646 := Nat.ne_of_lt (Nat.lt_of_lt_of_le f399.lt g647)
          have ge660 : Z.heap.size ≤ a646 := Nat.le_trans zs425 g647
          have f661 : Sta Z h644 "com/example/interlace/interlace/engine/Floors" "NONE" "[J" (.ref r_NONE) := own_staK f402 K645 (allS (Arz.nostat f410) all0)
          have f662 : Exa Z h644 r_NONE "[J" := f403.keep K645
          have f663 : Arj Z h644 r_NONE [] := f404.keep K645 (ninS ne49 nin0)
          have f664 : Exa Z h644 a5 "com/example/interlace/interlace/engine/Floors" := f405.keep K645
          have f665 : Fld Z h644 a5 "com/example/interlace/interlace/engine/Floors" "floors" "[J" (.ref a24) := f406.keep K645 (ninS ne50 nin0)
          have f666 : Fld Z h644 a5 "com/example/interlace/interlace/engine/Floors" "hasFloor" "[Z" (.ref a25) := f407.keep K645 (ninS ne50 nin0)
          have f667 : Fld Z h644 a5 "com/example/interlace/interlace/engine/Floors" "rests" "[[J" (.ref a26) := f408.keep K645 (ninS ne50 nin0)
          have f668 : Fld Z h644 a5 "com/example/interlace/interlace/engine/Floors" "latest" "J" (.long i0) := f409.keep K645 (ninS ne50 nin0)
          have f669 : Exa Z h644 a24 "[J" := f411.keep K645
          have f670 : Exa Z h644 a25 "[Z" := f412.keep K645
          have f671 : Arj Z h644 a24 [i2, i4] := f641.keep K645 (ninS ne31 nin0)
          have f672 : Ari Z h644 a25 .boolean [(1 : Int32), (1 : Int32)] := f642.keep K645 (ninS ne32 nin0)
          have f673 : Exa Z h644 a136 "com/example/interlace/interlace/pattern/Structure$Leaf" := f415.keep K645
          have f674 : Fld Z h644 a136 "com/example/interlace/interlace/pattern/Structure$Leaf" "variable" "I" (.int (0 : Int32)) := f416.keep K645 (ninS (Ne.symm ne144) nin0)
          have f675 : Exa Z h644 a228 "com/example/interlace/interlace/pattern/Structure$Leaf" := f417.keep K645
          have f676 : Fld Z h644 a228 "com/example/interlace/interlace/pattern/Structure$Leaf" "variable" "I" (.int (1 : Int32)) := f418.keep K645 (ninS (Ne.symm ne236) nin0)
          have f677 : Exa Z h644 a191 "com/example/interlace/interlace/engine/Plan$Required" := f419.keep K645
          have f678 : Fld Z h644 a191 "com/example/interlace/interlace/engine/Plan$Required" "operand" "Lcom/example/interlace/interlace/pattern/Structure;" (.ref a228) := f420.keep K645 (ninS (Ne.symm ne199) nin0)
          have f679 : Fld Z h644 a191 "com/example/interlace/interlace/engine/Plan$Required" "rest" "Lcom/example/interlace/interlace/engine/Plan$Required;" (.null) := f421.keep K645 (ninS (Ne.symm ne199) nin0)
          have f680 : Exa Z h644 a107 "com/example/interlace/interlace/engine/Plan$Required" := f422.keep K645
          have f681 : Fld Z h644 a107 "com/example/interlace/interlace/engine/Plan$Required" "operand" "Lcom/example/interlace/interlace/pattern/Structure;" (.ref a136) := f423.keep K645 (ninS (Ne.symm ne115) nin0)
          have f682 : Fld Z h644 a107 "com/example/interlace/interlace/engine/Plan$Required" "rest" "Lcom/example/interlace/interlace/engine/Plan$Required;" (.ref a191) := f424.keep K645 (ninS (Ne.symm ne115) nin0)
          have f683 : Exa Z h644 a352 "com/example/interlace/interlace/engine/Plan$Bind" := f399.keep K645
          have f684 : Fld Z h644 a352 "com/example/interlace/interlace/engine/Plan$Bind" "variable" "I" (.int (0 : Int32)) := f400.keep K645 (ninS (Ne.symm ne360) nin0)
          have f685 : Fld Z h644 a352 "com/example/interlace/interlace/engine/Plan$Bind" "required" "Lcom/example/interlace/interlace/engine/Plan$Required;" (.ref a107) := f401.keep K645 (ninS (Ne.symm ne360) nin0)
          have zs686 : Z.heap.size ≤ h644.size := Nat.le_trans zs425 K645.1
          refine Go.astore 98 #[.val (.long i0), .second, .val (.int i1), .val (.long i2), .second, .val (.int i3), .val (.long i4), .second, .val (.int (0 : Int32)), .val (.int (1 : Int32)), .val (.ref a5), .val (.ref a107), .val (.ref a646), .unset, .unset, .unset, .unset, .unset, .unset, .unset, .unset, .unset, .unset] at_96 rfl rfl rfl ?_
          refine Go.iconst 99 (0) at_98 (by decide) rfl ?_
          refine Go.istore 101 #[.val (.long i0), .second, .val (.int i1), .val (.long i2), .second, .val (.int i3), .val (.long i4), .second, .val (.int (0 : Int32)), .val (.int (1 : Int32)), .val (.ref a5), .val (.ref a107), .val (.ref a646), .val (.int (0 : Int32)), .unset, .unset, .unset, .unset, .unset, .unset, .unset, .unset, .unset] at_99 rfl rfl ?_
          refine Go.iconst 102 (0) at_101 (by decide) rfl ?_
          refine Go.istore 104 #[.val (.long i0), .second, .val (.int i1), .val (.long i2), .second, .val (.int i3), .val (.long i4), .second, .val (.int (0 : Int32)), .val (.int (1 : Int32)), .val (.ref a5), .val (.ref a107), .val (.ref a646), .val (.int (0 : Int32)), .val (.int (0 : Int32)), .unset, .unset, .unset, .unset, .unset, .unset, .unset, .unset] at_102 rfl rfl ?_
          refine Go.lconst 105 (0) at_104 (by decide) rfl ?_
          refine Go.lstore 107 #[.val (.long i0), .second, .val (.int i1), .val (.long i2), .second, .val (.int i3), .val (.long i4), .second, .val (.int (0 : Int32)), .val (.int (1 : Int32)), .val (.ref a5), .val (.ref a107), .val (.ref a646), .val (.int (0 : Int32)), .val (.int (0 : Int32)), .val (.long (0 : Int64)), .second, .unset, .unset, .unset, .unset, .unset, .unset] at_105 rfl rfl ?_
          refine Go.lconst 108 (0) at_107 (by decide) rfl ?_
          refine Go.lstore 110 #[.val (.long i0), .second, .val (.int i1), .val (.long i2), .second, .val (.int i3), .val (.long i4), .second, .val (.int (0 : Int32)), .val (.int (1 : Int32)), .val (.ref a5), .val (.ref a107), .val (.ref a646), .val (.int (0 : Int32)), .val (.int (0 : Int32)), .val (.long (0 : Int64)), .second, .val (.long (0 : Int64)), .second, .unset, .unset, .unset, .unset] at_108 rfl rfl ?_
          refine Go.lload_n 111 at_110 rfl rfl ?_
          refine Go.lload_n 112 at_111 rfl rfl ?_
          refine Go.lcmp 113 at_112 rfl ?_
          refine Go.lcmp_ge 136 116 at_113 (by decide) (by decide) rfl (fun c => absurd c1 c) (fun _ => ?_)
          refine Go.iload 118 at_116 rfl rfl ?_
          refine Go.if_ne 130 121 at_118 (by decide) (by decide) rfl (fun c => absurd c (by decide)) (fun _ => ?_)
          refine Go.iconst 122 (1) at_121 (by decide) rfl ?_
          refine Go.istore 124 #[.val (.long i0), .second, .val (.int i1), .val (.long i2), .second, .val (.int i3), .val (.long i4), .second, .val (.int (0 : Int32)), .val (.int (1 : Int32)), .val (.ref a5), .val (.ref a107), .val (.ref a646), .val (.int (1 : Int32)), .val (.int (0 : Int32)), .val (.long (0 : Int64)), .second, .val (.long (0 : Int64)), .second, .unset, .unset, .unset, .unset] at_122 rfl rfl ?_
          refine Go.lload_n 125 at_124 rfl rfl ?_
          refine Go.lstore 127 #[.val (.long i0), .second, .val (.int i1), .val (.long i2), .second, .val (.int i3), .val (.long i4), .second, .val (.int (0 : Int32)), .val (.int (1 : Int32)), .val (.ref a5), .val (.ref a107), .val (.ref a646), .val (.int (1 : Int32)), .val (.int (0 : Int32)), .val (.long i2), .second, .val (.long (0 : Int64)), .second, .unset, .unset, .unset, .unset] at_125 rfl rfl ?_
          refine Go.goto 136 at_127 (by decide) (by decide) ?_
          refine Go.lload 138 at_136 rfl rfl ?_
          refine Go.lload_n 139 at_138 rfl rfl ?_
          refine Go.lcmp 140 at_139 rfl ?_
          refine Go.lcmp_ge 165 143 at_140 (by decide) (by decide) rfl (fun c => absurd c2 c) (fun _ => ?_)
          refine Go.iload 145 at_143 rfl rfl ?_
          refine Go.if_ne 158 148 at_145 (by decide) (by decide) rfl (fun _ => ?_) (fun c => absurd c (by decide))
          refine Go.iconst 159 (1) at_158 (by decide) rfl ?_
          refine Go.istore 161 #[.val (.long i0), .second, .val (.int i1), .val (.long i2), .second, .val (.int i3), .val (.long i4), .second, .val (.int (0 : Int32)), .val (.int (1 : Int32)), .val (.ref a5), .val (.ref a107), .val (.ref a646), .val (.int (1 : Int32)), .val (.int (1 : Int32)), .val (.long i2), .second, .val (.long (0 : Int64)), .second, .unset, .unset, .unset, .unset] at_159 rfl rfl ?_
          refine Go.lload 163 at_161 rfl rfl ?_
          refine Go.lstore 165 #[.val (.long i0), .second, .val (.int i1), .val (.long i2), .second, .val (.int i3), .val (.long i4), .second, .val (.int (0 : Int32)), .val (.int (1 : Int32)), .val (.ref a5), .val (.ref a107), .val (.ref a646), .val (.int (1 : Int32)), .val (.int (1 : Int32)), .val (.long i2), .second, .val (.long i4), .second, .unset, .unset, .unset, .unset] at_163 rfl rfl ?_
          refine Go.iload 167 at_165 rfl rfl ?_
          refine Go.if_eq 226 170 at_167 (by decide) (by decide) rfl (fun c => absurd c (by decide)) (fun _ => ?_)
          refine Go.iload 172 at_170 rfl rfl ?_
          refine Go.if_eq 226 175 at_172 (by decide) (by decide) rfl (fun c => absurd c (by decide)) (fun _ => ?_)
          refine Go.lload 177 at_175 rfl rfl ?_
          refine Go.lload 179 at_177 rfl rfl ?_
          refine Go.callSJp [.long i2, .long i4] [] 182 at_179 (tw189 hw) (tw190 hw) (tw155 hw) (tw191 hw) pl29 (by decide) (lenOf pd29 rfl) rfl (fun m => ef_k_min m i2 i4) _ (k_min hw h644 zs686 i2 i4) 0 rfl (Nat.le_of_eq rfl) (by decide) (by decide) (by decide) (by decide) rfl ?_
          refine Go.lstore 184 #[.val (.long i0), .second, .val (.int i1), .val (.long i2), .second, .val (.int i3), .val (.long i4), .second, .val (.int (0 : Int32)), .val (.int (1 : Int32)), .val (.ref a5), .val (.ref a107), .val (.ref a646), .val (.int (1 : Int32)), .val (.int (1 : Int32)), .val (.long i2), .second, .val (.long i4), .second, .val (.long (if i4 < i2 then i4 else i2)), .second, .unset, .unset] at_182 rfl rfl ?_
          refine Go.lload 186 at_184 rfl rfl ?_
          refine Go.lload 188 at_186 rfl rfl ?_
          refine Go.callSJp [.long i2, .long i4] [] 191 at_188 (tw192 hw) (tw193 hw) (tw155 hw) (tw194 hw) pl30 (by decide) (lenOf pd30 rfl) rfl (fun m => ef_k_max m i2 i4) _ (k_max hw h644 zs686 i2 i4) 0 rfl (Nat.le_of_eq rfl) (by decide) (by decide) (by decide) (by decide) rfl ?_
          refine Go.lstore 193 #[.val (.long i0), .second, .val (.int i1), .val (.long i2), .second, .val (.int i3), .val (.long i4), .second, .val (.int (0 : Int32)), .val (.int (1 : Int32)), .val (.ref a5), .val (.ref a107), .val (.ref a646), .val (.int (1 : Int32)), .val (.int (1 : Int32)), .val (.long i2), .second, .val (.long i4), .second, .val (.long (if i4 < i2 then i4 else i2)), .second, .val (.long (if i2 < i4 then i4 else i2)), .second] at_191 rfl rfl ?_
          refine Go.aload 195 at_193 rfl rfl rfl ?_
          refine Go.arraylengthJ (z := (2 : Int32)) 196 at_195 f648 (by decide : Nat.toInt32 2 = (2 : Int32)) rfl ?_
          refine Go.iconst 197 (2) at_196 (by decide) rfl ?_
          refine Go.icmp_ne 224 200 at_197 (by decide) (by decide) rfl (fun c => absurd c (by decide)) (fun _ => ?_)
          refine Go.aload 202 at_200 rfl rfl rfl ?_
          refine Go.iconst 203 (0) at_202 (by decide) rfl ?_
          refine Go.laload (x := (if i4 < i2 then i4 else i2)) (0) 204 at_203 f648 (by decide) (by decide) rfl rfl ?_
          refine Go.lload 206 at_204 rfl rfl ?_
          refine Go.lcmp 207 at_206 rfl ?_
          refine Go.lcmp_ne 224 210 at_207 (by decide) (by decide) rfl (fun c700 => ?_) (fun c700 => ?_)
          ·
            refine Go.iconst 225 (0) at_224 (by decide) rfl ?_
            refine Go.nreturn (t := .boolean) (z' := (0 : Int32)) at_225 rfl (by simp) (by decide) (by decide) (by decide) ?_
            exact absurd (by first | rfl | exact own_mx _ _) c700
          ·
            refine Go.aload 212 at_210 rfl rfl rfl ?_
            refine Go.iconst 213 (1) at_212 (by decide) rfl ?_
            refine Go.laload (x := (if i4 < i2 then i2 else i4)) (1) 214 at_213 f648 (by decide) (by decide) rfl rfl ?_
            refine Go.lload 216 at_214 rfl rfl ?_
            refine Go.lcmp 217 at_216 rfl ?_
            refine Go.lcmp_ne 224 220 at_217 (by decide) (by decide) rfl (fun c701 => ?_) (fun c701 => ?_)
            ·
              refine Go.iconst 225 (0) at_224 (by decide) rfl ?_
              refine Go.nreturn (t := .boolean) (z' := (0 : Int32)) at_225 rfl (by simp) (by decide) (by decide) (by decide) ?_
              exact absurd (by first | rfl | exact own_mx _ _) c701
            ·
              refine Go.iconst 221 (1) at_220 (by decide) rfl ?_
              refine Go.goto 225 at_221 (by decide) (by decide) ?_
              refine Go.nreturn (t := .boolean) (z' := (1 : Int32)) at_225 rfl (by simp) (by decide) (by decide) (by decide) ?_
              rfl
        ·
          have f702 : Arj Z h397 a24 [i2, 0] := by have q := f413; simp only [own_00, own_10, c1, c2, if_true, if_false] at q; exact q
          have f703 : Ari Z h397 a25 .boolean [(1 : Int32), 0] := by have q := f414; simp only [own_00, own_10, c1, c2, if_true, if_false] at q; exact q
          refine Go.callVR [.ref a352] [] 96 at_93 (tw80 hw) (tw81 hw) (tw83 hw) (tw82 hw) (tw2 hw) (tw84 hw) f405 pl11 (by decide) (lenOf pd11 rfl) rfl (fun m => ef_k_ra10 m a5 a352) _ (k_ra10 hw h397 zs425 a5 a352 f405 f406 f407 f408 f702 f703 f410 f399 f400 f401 f422 f423 f424 f419 f420 f421 f415 f416 f417 f418 f402 f404 f403 ge51 ne50 ne31 ne32 (Ne.symm ne360) (Ne.symm ne115) (Ne.symm ne199) (Ne.symm ne144) (Ne.symm ne236) ne49) 0 rfl (Nat.le_of_eq rfl) (by decide) (by decide) (by decide) (by decide) rfl ?_
          rintro z704 h705 ⟨a707, rfl, g708, K706, f709, f710⟩
          have ne711 : r_NONE ≠ a707 := Nat.ne_of_lt (Nat.lt_of_lt_of_le f403.lt g708)
          have ne712 : a5 ≠ a707 := Nat.ne_of_lt (Nat.lt_of_lt_of_le f405.lt g708)
          have ne713 : a26 ≠ a707 := Nat.ne_of_lt (Nat.lt_of_lt_of_le f410.lt g708)
          have ne714 : a24 ≠ a707 := Nat.ne_of_lt (Nat.lt_of_lt_of_le f411.lt g708)
          have ne715 : a25 ≠ a707 := Nat.ne_of_lt (Nat.lt_of_lt_of_le f412.lt g708)
          have ne716 : a136 ≠ a707 := Nat.ne_of_lt (Nat.lt_of_lt_of_le f415.lt g708)
          have ne717 : a228 ≠ a707 := Nat.ne_of_lt (Nat.lt_of_lt_of_le f417.lt g708)
          have ne718 : a191 ≠ a707 := Nat.ne_of_lt (Nat.lt_of_lt_of_le f419.lt g708)
          have ne719 : a107 ≠ a707 := Nat.ne_of_lt (Nat.lt_of_lt_of_le f422.lt g708)
          have ne720 : a352 ≠ a707 := Nat.ne_of_lt (Nat.lt_of_lt_of_le f399.lt g708)
          have ge721 : Z.heap.size ≤ a707 := Nat.le_trans zs425 g708
          have f722 : Sta Z h705 "com/example/interlace/interlace/engine/Floors" "NONE" "[J" (.ref r_NONE) := own_staK f402 K706 (allS (Arz.nostat f410) all0)
          have f723 : Exa Z h705 r_NONE "[J" := f403.keep K706
          have f724 : Arj Z h705 r_NONE [] := f404.keep K706 (ninS ne49 nin0)
          have f725 : Exa Z h705 a5 "com/example/interlace/interlace/engine/Floors" := f405.keep K706
          have f726 : Fld Z h705 a5 "com/example/interlace/interlace/engine/Floors" "floors" "[J" (.ref a24) := f406.keep K706 (ninS ne50 nin0)
          have f727 : Fld Z h705 a5 "com/example/interlace/interlace/engine/Floors" "hasFloor" "[Z" (.ref a25) := f407.keep K706 (ninS ne50 nin0)
          have f728 : Fld Z h705 a5 "com/example/interlace/interlace/engine/Floors" "rests" "[[J" (.ref a26) := f408.keep K706 (ninS ne50 nin0)
          have f729 : Fld Z h705 a5 "com/example/interlace/interlace/engine/Floors" "latest" "J" (.long i0) := f409.keep K706 (ninS ne50 nin0)
          have f730 : Exa Z h705 a24 "[J" := f411.keep K706
          have f731 : Exa Z h705 a25 "[Z" := f412.keep K706
          have f732 : Arj Z h705 a24 [i2, 0] := f702.keep K706 (ninS ne31 nin0)
          have f733 : Ari Z h705 a25 .boolean [(1 : Int32), 0] := f703.keep K706 (ninS ne32 nin0)
          have f734 : Exa Z h705 a136 "com/example/interlace/interlace/pattern/Structure$Leaf" := f415.keep K706
          have f735 : Fld Z h705 a136 "com/example/interlace/interlace/pattern/Structure$Leaf" "variable" "I" (.int (0 : Int32)) := f416.keep K706 (ninS (Ne.symm ne144) nin0)
          have f736 : Exa Z h705 a228 "com/example/interlace/interlace/pattern/Structure$Leaf" := f417.keep K706
          have f737 : Fld Z h705 a228 "com/example/interlace/interlace/pattern/Structure$Leaf" "variable" "I" (.int (1 : Int32)) := f418.keep K706 (ninS (Ne.symm ne236) nin0)
          have f738 : Exa Z h705 a191 "com/example/interlace/interlace/engine/Plan$Required" := f419.keep K706
          have f739 : Fld Z h705 a191 "com/example/interlace/interlace/engine/Plan$Required" "operand" "Lcom/example/interlace/interlace/pattern/Structure;" (.ref a228) := f420.keep K706 (ninS (Ne.symm ne199) nin0)
          have f740 : Fld Z h705 a191 "com/example/interlace/interlace/engine/Plan$Required" "rest" "Lcom/example/interlace/interlace/engine/Plan$Required;" (.null) := f421.keep K706 (ninS (Ne.symm ne199) nin0)
          have f741 : Exa Z h705 a107 "com/example/interlace/interlace/engine/Plan$Required" := f422.keep K706
          have f742 : Fld Z h705 a107 "com/example/interlace/interlace/engine/Plan$Required" "operand" "Lcom/example/interlace/interlace/pattern/Structure;" (.ref a136) := f423.keep K706 (ninS (Ne.symm ne115) nin0)
          have f743 : Fld Z h705 a107 "com/example/interlace/interlace/engine/Plan$Required" "rest" "Lcom/example/interlace/interlace/engine/Plan$Required;" (.ref a191) := f424.keep K706 (ninS (Ne.symm ne115) nin0)
          have f744 : Exa Z h705 a352 "com/example/interlace/interlace/engine/Plan$Bind" := f399.keep K706
          have f745 : Fld Z h705 a352 "com/example/interlace/interlace/engine/Plan$Bind" "variable" "I" (.int (0 : Int32)) := f400.keep K706 (ninS (Ne.symm ne360) nin0)
          have f746 : Fld Z h705 a352 "com/example/interlace/interlace/engine/Plan$Bind" "required" "Lcom/example/interlace/interlace/engine/Plan$Required;" (.ref a107) := f401.keep K706 (ninS (Ne.symm ne360) nin0)
          have zs747 : Z.heap.size ≤ h705.size := Nat.le_trans zs425 K706.1
          refine Go.astore 98 #[.val (.long i0), .second, .val (.int i1), .val (.long i2), .second, .val (.int i3), .val (.long i4), .second, .val (.int (0 : Int32)), .val (.int (1 : Int32)), .val (.ref a5), .val (.ref a107), .val (.ref a707), .unset, .unset, .unset, .unset, .unset, .unset, .unset, .unset, .unset, .unset] at_96 rfl rfl rfl ?_
          refine Go.iconst 99 (0) at_98 (by decide) rfl ?_
          refine Go.istore 101 #[.val (.long i0), .second, .val (.int i1), .val (.long i2), .second, .val (.int i3), .val (.long i4), .second, .val (.int (0 : Int32)), .val (.int (1 : Int32)), .val (.ref a5), .val (.ref a107), .val (.ref a707), .val (.int (0 : Int32)), .unset, .unset, .unset, .unset, .unset, .unset, .unset, .unset, .unset] at_99 rfl rfl ?_
          refine Go.iconst 102 (0) at_101 (by decide) rfl ?_
          refine Go.istore 104 #[.val (.long i0), .second, .val (.int i1), .val (.long i2), .second, .val (.int i3), .val (.long i4), .second, .val (.int (0 : Int32)), .val (.int (1 : Int32)), .val (.ref a5), .val (.ref a107), .val (.ref a707), .val (.int (0 : Int32)), .val (.int (0 : Int32)), .unset, .unset, .unset, .unset, .unset, .unset, .unset, .unset] at_102 rfl rfl ?_
          refine Go.lconst 105 (0) at_104 (by decide) rfl ?_
          refine Go.lstore 107 #[.val (.long i0), .second, .val (.int i1), .val (.long i2), .second, .val (.int i3), .val (.long i4), .second, .val (.int (0 : Int32)), .val (.int (1 : Int32)), .val (.ref a5), .val (.ref a107), .val (.ref a707), .val (.int (0 : Int32)), .val (.int (0 : Int32)), .val (.long (0 : Int64)), .second, .unset, .unset, .unset, .unset, .unset, .unset] at_105 rfl rfl ?_
          refine Go.lconst 108 (0) at_107 (by decide) rfl ?_
          refine Go.lstore 110 #[.val (.long i0), .second, .val (.int i1), .val (.long i2), .second, .val (.int i3), .val (.long i4), .second, .val (.int (0 : Int32)), .val (.int (1 : Int32)), .val (.ref a5), .val (.ref a107), .val (.ref a707), .val (.int (0 : Int32)), .val (.int (0 : Int32)), .val (.long (0 : Int64)), .second, .val (.long (0 : Int64)), .second, .unset, .unset, .unset, .unset] at_108 rfl rfl ?_
          refine Go.lload_n 111 at_110 rfl rfl ?_
          refine Go.lload_n 112 at_111 rfl rfl ?_
          refine Go.lcmp 113 at_112 rfl ?_
          refine Go.lcmp_ge 136 116 at_113 (by decide) (by decide) rfl (fun c => absurd c1 c) (fun _ => ?_)
          refine Go.iload 118 at_116 rfl rfl ?_
          refine Go.if_ne 130 121 at_118 (by decide) (by decide) rfl (fun c => absurd c (by decide)) (fun _ => ?_)
          refine Go.iconst 122 (1) at_121 (by decide) rfl ?_
          refine Go.istore 124 #[.val (.long i0), .second, .val (.int i1), .val (.long i2), .second, .val (.int i3), .val (.long i4), .second, .val (.int (0 : Int32)), .val (.int (1 : Int32)), .val (.ref a5), .val (.ref a107), .val (.ref a707), .val (.int (1 : Int32)), .val (.int (0 : Int32)), .val (.long (0 : Int64)), .second, .val (.long (0 : Int64)), .second, .unset, .unset, .unset, .unset] at_122 rfl rfl ?_
          refine Go.lload_n 125 at_124 rfl rfl ?_
          refine Go.lstore 127 #[.val (.long i0), .second, .val (.int i1), .val (.long i2), .second, .val (.int i3), .val (.long i4), .second, .val (.int (0 : Int32)), .val (.int (1 : Int32)), .val (.ref a5), .val (.ref a107), .val (.ref a707), .val (.int (1 : Int32)), .val (.int (0 : Int32)), .val (.long i2), .second, .val (.long (0 : Int64)), .second, .unset, .unset, .unset, .unset] at_125 rfl rfl ?_
          refine Go.goto 136 at_127 (by decide) (by decide) ?_
          refine Go.lload 138 at_136 rfl rfl ?_
          refine Go.lload_n 139 at_138 rfl rfl ?_
          refine Go.lcmp 140 at_139 rfl ?_
          refine Go.lcmp_ge 165 143 at_140 (by decide) (by decide) rfl (fun _ => ?_) (fun c => absurd c c2)
          refine Go.iload 167 at_165 rfl rfl ?_
          refine Go.if_eq 226 170 at_167 (by decide) (by decide) rfl (fun c => absurd c (by decide)) (fun _ => ?_)
          refine Go.iload 172 at_170 rfl rfl ?_
          refine Go.if_eq 226 175 at_172 (by decide) (by decide) rfl (fun _ => ?_) (fun c => absurd c (by decide))
          refine Go.iload 228 at_226 rfl rfl ?_
          refine Go.if_eq 254 231 at_228 (by decide) (by decide) rfl (fun c => absurd c (by decide)) (fun _ => ?_)
          refine Go.aload 233 at_231 rfl rfl rfl ?_
          refine Go.arraylengthJ (z := (1 : Int32)) 234 at_233 f709 (by decide : Nat.toInt32 1 = (1 : Int32)) rfl ?_
          refine Go.iconst 235 (1) at_234 (by decide) rfl ?_
          refine Go.icmp_ne 252 238 at_235 (by decide) (by decide) rfl (fun c => absurd c (by decide)) (fun _ => ?_)
          refine Go.aload 240 at_238 rfl rfl rfl ?_
          refine Go.iconst 241 (0) at_240 (by decide) rfl ?_
          refine Go.laload (x := i2) (0) 242 at_241 f709 (by decide) (by decide) rfl rfl ?_
          refine Go.lload 244 at_242 rfl rfl ?_
          refine Go.lcmp 245 at_244 rfl ?_
          refine Go.lcmp_ne 252 248 at_245 (by decide) (by decide) rfl (fun c755 => ?_) (fun c755 => ?_)
          ·
            refine Go.iconst 253 (0) at_252 (by decide) rfl ?_
            refine Go.nreturn (t := .boolean) (z' := (0 : Int32)) at_253 rfl (by simp) (by decide) (by decide) (by decide) ?_
            exact absurd (by first | rfl | exact own_mx _ _) c755
          ·
            refine Go.iconst 249 (1) at_248 (by decide) rfl ?_
            refine Go.goto 253 at_249 (by decide) (by decide) ?_
            refine Go.nreturn (t := .boolean) (z' := (1 : Int32)) at_253 rfl (by simp) (by decide) (by decide) (by decide) ?_
            rfl
      ·
        rcases Decidable.em (i4 < i0) with c2 | c2
        ·
          have f756 : Arj Z h397 a24 [0, i4] := by have q := f413; simp only [own_00, own_10, c1, c2, if_true, if_false] at q; exact q
          have f757 : Ari Z h397 a25 .boolean [0, (1 : Int32)] := by have q := f414; simp only [own_00, own_10, c1, c2, if_true, if_false] at q; exact q
          refine Go.callVR [.ref a352] [] 96 at_93 (tw80 hw) (tw81 hw) (tw83 hw) (tw82 hw) (tw2 hw) (tw84 hw) f405 pl11 (by decide) (lenOf pd11 rfl) rfl (fun m => ef_k_ra01 m a5 a352) _ (k_ra01 hw h397 zs425 a5 a352 f405 f406 f407 f408 f756 f757 f410 f399 f400 f401 f422 f423 f424 f419 f420 f421 f415 f416 f417 f418 f402 f404 f403 ge51 ne50 ne31 ne32 (Ne.symm ne360) (Ne.symm ne115) (Ne.symm ne199) (Ne.symm ne144) (Ne.symm ne236) ne49) 0 rfl (Nat.le_of_eq rfl) (by decide) (by decide) (by decide) (by decide) rfl ?_
          rintro z758 h759 ⟨a761, rfl, g762, K760, f763, f764⟩
          have ne765 : r_NONE ≠ a761 := Nat.ne_of_lt (Nat.lt_of_lt_of_le f403.lt g762)
          have ne766 : a5 ≠ a761 := Nat.ne_of_lt (Nat.lt_of_lt_of_le f405.lt g762)
          have ne767 : a26 ≠ a761 := Nat.ne_of_lt (Nat.lt_of_lt_of_le f410.lt g762)
          have ne768 : a24 ≠ a761 := Nat.ne_of_lt (Nat.lt_of_lt_of_le f411.lt g762)
          have ne769 : a25 ≠ a761 := Nat.ne_of_lt (Nat.lt_of_lt_of_le f412.lt g762)
          have ne770 : a136 ≠ a761 := Nat.ne_of_lt (Nat.lt_of_lt_of_le f415.lt g762)
          have ne771 : a228 ≠ a761 := Nat.ne_of_lt (Nat.lt_of_lt_of_le f417.lt g762)
          have ne772 : a191 ≠ a761 := Nat.ne_of_lt (Nat.lt_of_lt_of_le f419.lt g762)
          have ne773 : a107 ≠ a761 := Nat.ne_of_lt (Nat.lt_of_lt_of_le f422.lt g762)
          have ne774 : a352 ≠ a761 := Nat.ne_of_lt (Nat.lt_of_lt_of_le f399.lt g762)
          have ge775 : Z.heap.size ≤ a761 := Nat.le_trans zs425 g762
          have f776 : Sta Z h759 "com/example/interlace/interlace/engine/Floors" "NONE" "[J" (.ref r_NONE) := own_staK f402 K760 (allS (Arz.nostat f410) all0)
          have f777 : Exa Z h759 r_NONE "[J" := f403.keep K760
          have f778 : Arj Z h759 r_NONE [] := f404.keep K760 (ninS ne49 nin0)
          have f779 : Exa Z h759 a5 "com/example/interlace/interlace/engine/Floors" := f405.keep K760
          have f780 : Fld Z h759 a5 "com/example/interlace/interlace/engine/Floors" "floors" "[J" (.ref a24) := f406.keep K760 (ninS ne50 nin0)
          have f781 : Fld Z h759 a5 "com/example/interlace/interlace/engine/Floors" "hasFloor" "[Z" (.ref a25) := f407.keep K760 (ninS ne50 nin0)
          have f782 : Fld Z h759 a5 "com/example/interlace/interlace/engine/Floors" "rests" "[[J" (.ref a26) := f408.keep K760 (ninS ne50 nin0)
          have f783 : Fld Z h759 a5 "com/example/interlace/interlace/engine/Floors" "latest" "J" (.long i0) := f409.keep K760 (ninS ne50 nin0)
          have f784 : Exa Z h759 a24 "[J" := f411.keep K760
          have f785 : Exa Z h759 a25 "[Z" := f412.keep K760
          have f786 : Arj Z h759 a24 [0, i4] := f756.keep K760 (ninS ne31 nin0)
          have f787 : Ari Z h759 a25 .boolean [0, (1 : Int32)] := f757.keep K760 (ninS ne32 nin0)
          have f788 : Exa Z h759 a136 "com/example/interlace/interlace/pattern/Structure$Leaf" := f415.keep K760
          have f789 : Fld Z h759 a136 "com/example/interlace/interlace/pattern/Structure$Leaf" "variable" "I" (.int (0 : Int32)) := f416.keep K760 (ninS (Ne.symm ne144) nin0)
          have f790 : Exa Z h759 a228 "com/example/interlace/interlace/pattern/Structure$Leaf" := f417.keep K760
          have f791 : Fld Z h759 a228 "com/example/interlace/interlace/pattern/Structure$Leaf" "variable" "I" (.int (1 : Int32)) := f418.keep K760 (ninS (Ne.symm ne236) nin0)
          have f792 : Exa Z h759 a191 "com/example/interlace/interlace/engine/Plan$Required" := f419.keep K760
          have f793 : Fld Z h759 a191 "com/example/interlace/interlace/engine/Plan$Required" "operand" "Lcom/example/interlace/interlace/pattern/Structure;" (.ref a228) := f420.keep K760 (ninS (Ne.symm ne199) nin0)
          have f794 : Fld Z h759 a191 "com/example/interlace/interlace/engine/Plan$Required" "rest" "Lcom/example/interlace/interlace/engine/Plan$Required;" (.null) := f421.keep K760 (ninS (Ne.symm ne199) nin0)
          have f795 : Exa Z h759 a107 "com/example/interlace/interlace/engine/Plan$Required" := f422.keep K760
          have f796 : Fld Z h759 a107 "com/example/interlace/interlace/engine/Plan$Required" "operand" "Lcom/example/interlace/interlace/pattern/Structure;" (.ref a136) := f423.keep K760 (ninS (Ne.symm ne115) nin0)
          have f797 : Fld Z h759 a107 "com/example/interlace/interlace/engine/Plan$Required" "rest" "Lcom/example/interlace/interlace/engine/Plan$Required;" (.ref a191) := f424.keep K760 (ninS (Ne.symm ne115) nin0)
          have f798 : Exa Z h759 a352 "com/example/interlace/interlace/engine/Plan$Bind" := f399.keep K760
          have f799 : Fld Z h759 a352 "com/example/interlace/interlace/engine/Plan$Bind" "variable" "I" (.int (0 : Int32)) := f400.keep K760 (ninS (Ne.symm ne360) nin0)
          have f800 : Fld Z h759 a352 "com/example/interlace/interlace/engine/Plan$Bind" "required" "Lcom/example/interlace/interlace/engine/Plan$Required;" (.ref a107) := f401.keep K760 (ninS (Ne.symm ne360) nin0)
          have zs801 : Z.heap.size ≤ h759.size := Nat.le_trans zs425 K760.1
          refine Go.astore 98 #[.val (.long i0), .second, .val (.int i1), .val (.long i2), .second, .val (.int i3), .val (.long i4), .second, .val (.int (0 : Int32)), .val (.int (1 : Int32)), .val (.ref a5), .val (.ref a107), .val (.ref a761), .unset, .unset, .unset, .unset, .unset, .unset, .unset, .unset, .unset, .unset] at_96 rfl rfl rfl ?_
          refine Go.iconst 99 (0) at_98 (by decide) rfl ?_
          refine Go.istore 101 #[.val (.long i0), .second, .val (.int i1), .val (.long i2), .second, .val (.int i3), .val (.long i4), .second, .val (.int (0 : Int32)), .val (.int (1 : Int32)), .val (.ref a5), .val (.ref a107), .val (.ref a761), .val (.int (0 : Int32)), .unset, .unset, .unset, .unset, .unset, .unset, .unset, .unset, .unset] at_99 rfl rfl ?_
          refine Go.iconst 102 (0) at_101 (by decide) rfl ?_
          refine Go.istore 104 #[.val (.long i0), .second, .val (.int i1), .val (.long i2), .second, .val (.int i3), .val (.long i4), .second, .val (.int (0 : Int32)), .val (.int (1 : Int32)), .val (.ref a5), .val (.ref a107), .val (.ref a761), .val (.int (0 : Int32)), .val (.int (0 : Int32)), .unset, .unset, .unset, .unset, .unset, .unset, .unset, .unset] at_102 rfl rfl ?_
          refine Go.lconst 105 (0) at_104 (by decide) rfl ?_
          refine Go.lstore 107 #[.val (.long i0), .second, .val (.int i1), .val (.long i2), .second, .val (.int i3), .val (.long i4), .second, .val (.int (0 : Int32)), .val (.int (1 : Int32)), .val (.ref a5), .val (.ref a107), .val (.ref a761), .val (.int (0 : Int32)), .val (.int (0 : Int32)), .val (.long (0 : Int64)), .second, .unset, .unset, .unset, .unset, .unset, .unset] at_105 rfl rfl ?_
          refine Go.lconst 108 (0) at_107 (by decide) rfl ?_
          refine Go.lstore 110 #[.val (.long i0), .second, .val (.int i1), .val (.long i2), .second, .val (.int i3), .val (.long i4), .second, .val (.int (0 : Int32)), .val (.int (1 : Int32)), .val (.ref a5), .val (.ref a107), .val (.ref a761), .val (.int (0 : Int32)), .val (.int (0 : Int32)), .val (.long (0 : Int64)), .second, .val (.long (0 : Int64)), .second, .unset, .unset, .unset, .unset] at_108 rfl rfl ?_
          refine Go.lload_n 111 at_110 rfl rfl ?_
          refine Go.lload_n 112 at_111 rfl rfl ?_
          refine Go.lcmp 113 at_112 rfl ?_
          refine Go.lcmp_ge 136 116 at_113 (by decide) (by decide) rfl (fun _ => ?_) (fun c => absurd c c1)
          refine Go.lload 138 at_136 rfl rfl ?_
          refine Go.lload_n 139 at_138 rfl rfl ?_
          refine Go.lcmp 140 at_139 rfl ?_
          refine Go.lcmp_ge 165 143 at_140 (by decide) (by decide) rfl (fun c => absurd c2 c) (fun _ => ?_)
          refine Go.iload 145 at_143 rfl rfl ?_
          refine Go.if_ne 158 148 at_145 (by decide) (by decide) rfl (fun _ => ?_) (fun c => absurd c (by decide))
          refine Go.iconst 159 (1) at_158 (by decide) rfl ?_
          refine Go.istore 161 #[.val (.long i0), .second, .val (.int i1), .val (.long i2), .second, .val (.int i3), .val (.long i4), .second, .val (.int (0 : Int32)), .val (.int (1 : Int32)), .val (.ref a5), .val (.ref a107), .val (.ref a761), .val (.int (0 : Int32)), .val (.int (1 : Int32)), .val (.long (0 : Int64)), .second, .val (.long (0 : Int64)), .second, .unset, .unset, .unset, .unset] at_159 rfl rfl ?_
          refine Go.lload 163 at_161 rfl rfl ?_
          refine Go.lstore 165 #[.val (.long i0), .second, .val (.int i1), .val (.long i2), .second, .val (.int i3), .val (.long i4), .second, .val (.int (0 : Int32)), .val (.int (1 : Int32)), .val (.ref a5), .val (.ref a107), .val (.ref a761), .val (.int (0 : Int32)), .val (.int (1 : Int32)), .val (.long (0 : Int64)), .second, .val (.long i4), .second, .unset, .unset, .unset, .unset] at_163 rfl rfl ?_
          refine Go.iload 167 at_165 rfl rfl ?_
          refine Go.if_eq 226 170 at_167 (by decide) (by decide) rfl (fun _ => ?_) (fun c => absurd c (by decide))
          refine Go.iload 228 at_226 rfl rfl ?_
          refine Go.if_eq 254 231 at_228 (by decide) (by decide) rfl (fun _ => ?_) (fun c => absurd c (by decide))
          refine Go.iload 256 at_254 rfl rfl ?_
          refine Go.if_eq 282 259 at_256 (by decide) (by decide) rfl (fun c => absurd c (by decide)) (fun _ => ?_)
          refine Go.aload 261 at_259 rfl rfl rfl ?_
          refine Go.arraylengthJ (z := (1 : Int32)) 262 at_261 f763 (by decide : Nat.toInt32 1 = (1 : Int32)) rfl ?_
          refine Go.iconst 263 (1) at_262 (by decide) rfl ?_
          refine Go.icmp_ne 280 266 at_263 (by decide) (by decide) rfl (fun c => absurd c (by decide)) (fun _ => ?_)
          refine Go.aload 268 at_266 rfl rfl rfl ?_
          refine Go.iconst 269 (0) at_268 (by decide) rfl ?_
          refine Go.laload (x := i4) (0) 270 at_269 f763 (by decide) (by decide) rfl rfl ?_
          refine Go.lload 272 at_270 rfl rfl ?_
          refine Go.lcmp 273 at_272 rfl ?_
          refine Go.lcmp_ne 280 276 at_273 (by decide) (by decide) rfl (fun c809 => ?_) (fun c809 => ?_)
          ·
            refine Go.iconst 281 (0) at_280 (by decide) rfl ?_
            refine Go.nreturn (t := .boolean) (z' := (0 : Int32)) at_281 rfl (by simp) (by decide) (by decide) (by decide) ?_
            exact absurd (by first | rfl | exact own_mx _ _) c809
          ·
            refine Go.iconst 277 (1) at_276 (by decide) rfl ?_
            refine Go.goto 281 at_277 (by decide) (by decide) ?_
            refine Go.nreturn (t := .boolean) (z' := (1 : Int32)) at_281 rfl (by simp) (by decide) (by decide) (by decide) ?_
            rfl
        ·
          have f810 : Arj Z h397 a24 [0, 0] := by have q := f413; simp only [own_00, own_10, c1, c2, if_true, if_false] at q; exact q
          have f811 : Ari Z h397 a25 .boolean [0, 0] := by have q := f414; simp only [own_00, own_10, c1, c2, if_true, if_false] at q; exact q
          refine Go.callVR [.ref a352] [] 96 at_93 (tw80 hw) (tw81 hw) (tw83 hw) (tw82 hw) (tw2 hw) (tw84 hw) f405 pl11 (by decide) (lenOf pd11 rfl) rfl (fun m => ef_k_ra00 m a5 a352) _ (k_ra00 hw h397 zs425 a5 a352 f405 f406 f407 f408 f810 f811 f410 f399 f400 f401 f422 f423 f424 f419 f420 f421 f415 f416 f417 f418 f402 f404 f403 ge51 ne50 ne31 ne32 (Ne.symm ne360) (Ne.symm ne115) (Ne.symm ne199) (Ne.symm ne144) (Ne.symm ne236) ne49) 0 rfl (Nat.le_of_eq rfl) (by decide) (by decide) (by decide) (by decide) rfl ?_
          rintro z812 h813 ⟨a815, rfl, g816, K814, f817, f818⟩
          have ne819 : r_NONE ≠ a815 := Nat.ne_of_lt (Nat.lt_of_lt_of_le f403.lt g816)
          have ne820 : a5 ≠ a815 := Nat.ne_of_lt (Nat.lt_of_lt_of_le f405.lt g816)
          have ne821 : a26 ≠ a815 := Nat.ne_of_lt (Nat.lt_of_lt_of_le f410.lt g816)
          have ne822 : a24 ≠ a815 := Nat.ne_of_lt (Nat.lt_of_lt_of_le f411.lt g816)
          have ne823 : a25 ≠ a815 := Nat.ne_of_lt (Nat.lt_of_lt_of_le f412.lt g816)
          have ne824 : a136 ≠ a815 := Nat.ne_of_lt (Nat.lt_of_lt_of_le f415.lt g816)
          have ne825 : a228 ≠ a815 := Nat.ne_of_lt (Nat.lt_of_lt_of_le f417.lt g816)
          have ne826 : a191 ≠ a815 := Nat.ne_of_lt (Nat.lt_of_lt_of_le f419.lt g816)
          have ne827 : a107 ≠ a815 := Nat.ne_of_lt (Nat.lt_of_lt_of_le f422.lt g816)
          have ne828 : a352 ≠ a815 := Nat.ne_of_lt (Nat.lt_of_lt_of_le f399.lt g816)
          have ge829 : Z.heap.size ≤ a815 := Nat.le_trans zs425 g816
          have f830 : Sta Z h813 "com/example/interlace/interlace/engine/Floors" "NONE" "[J" (.ref r_NONE) := own_staK f402 K814 (allS (Arz.nostat f410) all0)
          have f831 : Exa Z h813 r_NONE "[J" := f403.keep K814
          have f832 : Arj Z h813 r_NONE [] := f404.keep K814 (ninS ne49 nin0)
          have f833 : Exa Z h813 a5 "com/example/interlace/interlace/engine/Floors" := f405.keep K814
          have f834 : Fld Z h813 a5 "com/example/interlace/interlace/engine/Floors" "floors" "[J" (.ref a24) := f406.keep K814 (ninS ne50 nin0)
          have f835 : Fld Z h813 a5 "com/example/interlace/interlace/engine/Floors" "hasFloor" "[Z" (.ref a25) := f407.keep K814 (ninS ne50 nin0)
          have f836 : Fld Z h813 a5 "com/example/interlace/interlace/engine/Floors" "rests" "[[J" (.ref a26) := f408.keep K814 (ninS ne50 nin0)
          have f837 : Fld Z h813 a5 "com/example/interlace/interlace/engine/Floors" "latest" "J" (.long i0) := f409.keep K814 (ninS ne50 nin0)
          have f838 : Exa Z h813 a24 "[J" := f411.keep K814
          have f839 : Exa Z h813 a25 "[Z" := f412.keep K814
          have f840 : Arj Z h813 a24 [0, 0] := f810.keep K814 (ninS ne31 nin0)
          have f841 : Ari Z h813 a25 .boolean [0, 0] := f811.keep K814 (ninS ne32 nin0)
          have f842 : Exa Z h813 a136 "com/example/interlace/interlace/pattern/Structure$Leaf" := f415.keep K814
          have f843 : Fld Z h813 a136 "com/example/interlace/interlace/pattern/Structure$Leaf" "variable" "I" (.int (0 : Int32)) := f416.keep K814 (ninS (Ne.symm ne144) nin0)
          have f844 : Exa Z h813 a228 "com/example/interlace/interlace/pattern/Structure$Leaf" := f417.keep K814
          have f845 : Fld Z h813 a228 "com/example/interlace/interlace/pattern/Structure$Leaf" "variable" "I" (.int (1 : Int32)) := f418.keep K814 (ninS (Ne.symm ne236) nin0)
          have f846 : Exa Z h813 a191 "com/example/interlace/interlace/engine/Plan$Required" := f419.keep K814
          have f847 : Fld Z h813 a191 "com/example/interlace/interlace/engine/Plan$Required" "operand" "Lcom/example/interlace/interlace/pattern/Structure;" (.ref a228) := f420.keep K814 (ninS (Ne.symm ne199) nin0)
          have f848 : Fld Z h813 a191 "com/example/interlace/interlace/engine/Plan$Required" "rest" "Lcom/example/interlace/interlace/engine/Plan$Required;" (.null) := f421.keep K814 (ninS (Ne.symm ne199) nin0)
          have f849 : Exa Z h813 a107 "com/example/interlace/interlace/engine/Plan$Required" := f422.keep K814
          have f850 : Fld Z h813 a107 "com/example/interlace/interlace/engine/Plan$Required" "operand" "Lcom/example/interlace/interlace/pattern/Structure;" (.ref a136) := f423.keep K814 (ninS (Ne.symm ne115) nin0)
          have f851 : Fld Z h813 a107 "com/example/interlace/interlace/engine/Plan$Required" "rest" "Lcom/example/interlace/interlace/engine/Plan$Required;" (.ref a191) := f424.keep K814 (ninS (Ne.symm ne115) nin0)
          have f852 : Exa Z h813 a352 "com/example/interlace/interlace/engine/Plan$Bind" := f399.keep K814
          have f853 : Fld Z h813 a352 "com/example/interlace/interlace/engine/Plan$Bind" "variable" "I" (.int (0 : Int32)) := f400.keep K814 (ninS (Ne.symm ne360) nin0)
          have f854 : Fld Z h813 a352 "com/example/interlace/interlace/engine/Plan$Bind" "required" "Lcom/example/interlace/interlace/engine/Plan$Required;" (.ref a107) := f401.keep K814 (ninS (Ne.symm ne360) nin0)
          have zs855 : Z.heap.size ≤ h813.size := Nat.le_trans zs425 K814.1
          refine Go.astore 98 #[.val (.long i0), .second, .val (.int i1), .val (.long i2), .second, .val (.int i3), .val (.long i4), .second, .val (.int (0 : Int32)), .val (.int (1 : Int32)), .val (.ref a5), .val (.ref a107), .val (.ref a815), .unset, .unset, .unset, .unset, .unset, .unset, .unset, .unset, .unset, .unset] at_96 rfl rfl rfl ?_
          refine Go.iconst 99 (0) at_98 (by decide) rfl ?_
          refine Go.istore 101 #[.val (.long i0), .second, .val (.int i1), .val (.long i2), .second, .val (.int i3), .val (.long i4), .second, .val (.int (0 : Int32)), .val (.int (1 : Int32)), .val (.ref a5), .val (.ref a107), .val (.ref a815), .val (.int (0 : Int32)), .unset, .unset, .unset, .unset, .unset, .unset, .unset, .unset, .unset] at_99 rfl rfl ?_
          refine Go.iconst 102 (0) at_101 (by decide) rfl ?_
          refine Go.istore 104 #[.val (.long i0), .second, .val (.int i1), .val (.long i2), .second, .val (.int i3), .val (.long i4), .second, .val (.int (0 : Int32)), .val (.int (1 : Int32)), .val (.ref a5), .val (.ref a107), .val (.ref a815), .val (.int (0 : Int32)), .val (.int (0 : Int32)), .unset, .unset, .unset, .unset, .unset, .unset, .unset, .unset] at_102 rfl rfl ?_
          refine Go.lconst 105 (0) at_104 (by decide) rfl ?_
          refine Go.lstore 107 #[.val (.long i0), .second, .val (.int i1), .val (.long i2), .second, .val (.int i3), .val (.long i4), .second, .val (.int (0 : Int32)), .val (.int (1 : Int32)), .val (.ref a5), .val (.ref a107), .val (.ref a815), .val (.int (0 : Int32)), .val (.int (0 : Int32)), .val (.long (0 : Int64)), .second, .unset, .unset, .unset, .unset, .unset, .unset] at_105 rfl rfl ?_
          refine Go.lconst 108 (0) at_107 (by decide) rfl ?_
          refine Go.lstore 110 #[.val (.long i0), .second, .val (.int i1), .val (.long i2), .second, .val (.int i3), .val (.long i4), .second, .val (.int (0 : Int32)), .val (.int (1 : Int32)), .val (.ref a5), .val (.ref a107), .val (.ref a815), .val (.int (0 : Int32)), .val (.int (0 : Int32)), .val (.long (0 : Int64)), .second, .val (.long (0 : Int64)), .second, .unset, .unset, .unset, .unset] at_108 rfl rfl ?_
          refine Go.lload_n 111 at_110 rfl rfl ?_
          refine Go.lload_n 112 at_111 rfl rfl ?_
          refine Go.lcmp 113 at_112 rfl ?_
          refine Go.lcmp_ge 136 116 at_113 (by decide) (by decide) rfl (fun _ => ?_) (fun c => absurd c c1)
          refine Go.lload 138 at_136 rfl rfl ?_
          refine Go.lload_n 139 at_138 rfl rfl ?_
          refine Go.lcmp 140 at_139 rfl ?_
          refine Go.lcmp_ge 165 143 at_140 (by decide) (by decide) rfl (fun _ => ?_) (fun c => absurd c c2)
          refine Go.iload 167 at_165 rfl rfl ?_
          refine Go.if_eq 226 170 at_167 (by decide) (by decide) rfl (fun _ => ?_) (fun c => absurd c (by decide))
          refine Go.iload 228 at_226 rfl rfl ?_
          refine Go.if_eq 254 231 at_228 (by decide) (by decide) rfl (fun _ => ?_) (fun c => absurd c (by decide))
          refine Go.iload 256 at_254 rfl rfl ?_
          refine Go.if_eq 282 259 at_256 (by decide) (by decide) rfl (fun _ => ?_) (fun c => absurd c (by decide))
          refine Go.aload 284 at_282 rfl rfl rfl ?_
          refine Go.arraylengthJ (z := (0 : Int32)) 285 at_284 f817 (by decide : Nat.toInt32 0 = (0 : Int32)) rfl ?_
          refine Go.if_ne 292 288 at_285 (by decide) (by decide) rfl (fun c => absurd c (by decide)) (fun _ => ?_)
          refine Go.iconst 289 (1) at_288 (by decide) rfl ?_
          refine Go.goto 293 at_289 (by decide) (by decide) ?_
          refine Go.nreturn (t := .boolean) (z' := (1 : Int32)) at_293 rfl (by simp) (by decide) (by decide) (by decide) ?_
          rfl
  ·
    subst hs
    rcases own_two e4 with hs | hs
    ·
      subst hs
      rcases Decidable.em (i2 < i0) with c1 | c1
      ·
        rcases Decidable.em (i4 < i0) with c2 | c2
        ·
          have f862 : Arj Z h397 a24 [i4, i2] := by have q := f413; simp only [own_00, own_10, c1, c2, if_true, if_false] at q; exact q
          have f863 : Ari Z h397 a25 .boolean [(1 : Int32), (1 : Int32)] := by have q := f414; simp only [own_00, own_10, c1, c2, if_true, if_false] at q; exact q
          refine Go.callVR [.ref a352] [] 96 at_93 (tw80 hw) (tw81 hw) (tw83 hw) (tw82 hw) (tw2 hw) (tw84 hw) f405 pl11 (by decide) (lenOf pd11 rfl) rfl (fun m => ef_k_ra11 m a5 a352) _ (k_ra11 hw h397 zs425 a5 a352 f405 f406 f407 f408 f862 f863 f410 f399 f400 f401 f422 f423 f424 f419 f420 f421 f415 f416 f417 f418 f402 f404 f403 ge51 ne50 ne31 ne32 (Ne.symm ne360) (Ne.symm ne115) (Ne.symm ne199) (Ne.symm ne144) (Ne.symm ne236) ne49) 0 rfl (Nat.le_of_eq rfl) (by decide) (by decide) (by decide) (by decide) rfl ?_
          rintro z864 h865 ⟨a867, rfl, g868, K866, f869, f870⟩
          have ne871 : r_NONE ≠ a867 := Nat.ne_of_lt (Nat.lt_of_lt_of_le f403.lt g868)
          have ne872 : a5 ≠ a867 := Nat.ne_of_lt (Nat.lt_of_lt_of_le f405.lt g868)
          have ne873 : a26 ≠ a867 := Nat.ne_of_lt (Nat.lt_of_lt_of_le f410.lt g868)
          have ne874 : a24 ≠ a867 := Nat.ne_of_lt (Nat.lt_of_lt_of_le f411.lt g868)
          have ne875 : a25 ≠ a867 := Nat.ne_of_lt (Nat.lt_of_lt_of_le f412.lt g868)
          have ne876 : a136 ≠ a867 := Nat.ne_of_lt (Nat.lt_of_lt_of_le f415.lt g868)
          have ne877 : a228 ≠ a867 := Nat.ne_of_lt (Nat.lt_of_lt_of_le f417.lt g868)
          have ne878 : a191 ≠ a867 := Nat.ne_of_lt (Nat.lt_of_lt_of_le f419.lt g868)
          have ne879 : a107 ≠ a867 := Nat.ne_of_lt (Nat.lt_of_lt_of_le f422.lt g868)
          have ne880 : a352 ≠ a867 := Nat.ne_of_lt (Nat.lt_of_lt_of_le f399.lt g868)
          have ge881 : Z.heap.size ≤ a867 := Nat.le_trans zs425 g868
          have f882 : Sta Z h865 "com/example/interlace/interlace/engine/Floors" "NONE" "[J" (.ref r_NONE) := own_staK f402 K866 (allS (Arz.nostat f410) all0)
          have f883 : Exa Z h865 r_NONE "[J" := f403.keep K866
          have f884 : Arj Z h865 r_NONE [] := f404.keep K866 (ninS ne49 nin0)
          have f885 : Exa Z h865 a5 "com/example/interlace/interlace/engine/Floors" := f405.keep K866
          have f886 : Fld Z h865 a5 "com/example/interlace/interlace/engine/Floors" "floors" "[J" (.ref a24) := f406.keep K866 (ninS ne50 nin0)
          have f887 : Fld Z h865 a5 "com/example/interlace/interlace/engine/Floors" "hasFloor" "[Z" (.ref a25) := f407.keep K866 (ninS ne50 nin0)
          have f888 : Fld Z h865 a5 "com/example/interlace/interlace/engine/Floors" "rests" "[[J" (.ref a26) := f408.keep K866 (ninS ne50 nin0)
          have f889 : Fld Z h865 a5 "com/example/interlace/interlace/engine/Floors" "latest" "J" (.long i0) := f409.keep K866 (ninS ne50 nin0)
          have f890 : Exa Z h865 a24 "[J" := f411.keep K866
          have f891 : Exa Z h865 a25 "[Z" := f412.keep K866
          have f892 : Arj Z h865 a24 [i4, i2] := f862.keep K866 (ninS ne31 nin0)
          have f893 : Ari Z h865 a25 .boolean [(1 : Int32), (1 : Int32)] := f863.keep K866 (ninS ne32 nin0)
          have f894 : Exa Z h865 a136 "com/example/interlace/interlace/pattern/Structure$Leaf" := f415.keep K866
          have f895 : Fld Z h865 a136 "com/example/interlace/interlace/pattern/Structure$Leaf" "variable" "I" (.int (0 : Int32)) := f416.keep K866 (ninS (Ne.symm ne144) nin0)
          have f896 : Exa Z h865 a228 "com/example/interlace/interlace/pattern/Structure$Leaf" := f417.keep K866
          have f897 : Fld Z h865 a228 "com/example/interlace/interlace/pattern/Structure$Leaf" "variable" "I" (.int (1 : Int32)) := f418.keep K866 (ninS (Ne.symm ne236) nin0)
          have f898 : Exa Z h865 a191 "com/example/interlace/interlace/engine/Plan$Required" := f419.keep K866
          have f899 : Fld Z h865 a191 "com/example/interlace/interlace/engine/Plan$Required" "operand" "Lcom/example/interlace/interlace/pattern/Structure;" (.ref a228) := f420.keep K866 (ninS (Ne.symm ne199) nin0)
          have f900 : Fld Z h865 a191 "com/example/interlace/interlace/engine/Plan$Required" "rest" "Lcom/example/interlace/interlace/engine/Plan$Required;" (.null) := f421.keep K866 (ninS (Ne.symm ne199) nin0)
          have f901 : Exa Z h865 a107 "com/example/interlace/interlace/engine/Plan$Required" := f422.keep K866
          have f902 : Fld Z h865 a107 "com/example/interlace/interlace/engine/Plan$Required" "operand" "Lcom/example/interlace/interlace/pattern/Structure;" (.ref a136) := f423.keep K866 (ninS (Ne.symm ne115) nin0)
          have f903 : Fld Z h865 a107 "com/example/interlace/interlace/engine/Plan$Required" "rest" "Lcom/example/interlace/interlace/engine/Plan$Required;" (.ref a191) := f424.keep K866 (ninS (Ne.symm ne115) nin0)
          have f904 : Exa Z h865 a352 "com/example/interlace/interlace/engine/Plan$Bind" := f399.keep K866
          have f905 : Fld Z h865 a352 "com/example/interlace/interlace/engine/Plan$Bind" "variable" "I" (.int (0 : Int32)) := f400.keep K866 (ninS (Ne.symm ne360) nin0)
          have f906 : Fld Z h865 a352 "com/example/interlace/interlace/engine/Plan$Bind" "required" "Lcom/example/interlace/interlace/engine/Plan$Required;" (.ref a107) := f401.keep K866 (ninS (Ne.symm ne360) nin0)
          have zs907 : Z.heap.size ≤ h865.size := Nat.le_trans zs425 K866.1
          refine Go.astore 98 #[.val (.long i0), .second, .val (.int i1), .val (.long i2), .second, .val (.int i3), .val (.long i4), .second, .val (.int (1 : Int32)), .val (.int (0 : Int32)), .val (.ref a5), .val (.ref a107), .val (.ref a867), .unset, .unset, .unset, .unset, .unset, .unset, .unset, .unset, .unset, .unset] at_96 rfl rfl rfl ?_
          refine Go.iconst 99 (0) at_98 (by decide) rfl ?_
          refine Go.istore 101 #[.val (.long i0), .second, .val (.int i1), .val (.long i2), .second, .val (.int i3), .val (.long i4), .second, .val (.int (1 : Int32)), .val (.int (0 : Int32)), .val (.ref a5), .val (.ref a107), .val (.ref a867), .val (.int (0 : Int32)), .unset, .unset, .unset, .unset, .unset, .unset, .unset, .unset, .unset] at_99 rfl rfl ?_
          refine Go.iconst 102 (0) at_101 (by decide) rfl ?_
          refine Go.istore 104 #[.val (.long i0), .second, .val (.int i1), .val (.long i2), .second, .val (.int i3), .val (.long i4), .second, .val (.int (1 : Int32)), .val (.int (0 : Int32)), .val (.ref a5), .val (.ref a107), .val (.ref a867), .val (.int (0 : Int32)), .val (.int (0 : Int32)), .unset, .unset, .unset, .unset, .unset, .unset, .unset, .unset] at_102 rfl rfl ?_
          refine Go.lconst 105 (0) at_104 (by decide) rfl ?_
          refine Go.lstore 107 #[.val (.long i0), .second, .val (.int i1), .val (.long i2), .second, .val (.int i3), .val (.long i4), .second, .val (.int (1 : Int32)), .val (.int (0 : Int32)), .val (.ref a5), .val (.ref a107), .val (.ref a867), .val (.int (0 : Int32)), .val (.int (0 : Int32)), .val (.long (0 : Int64)), .second, .unset, .unset, .unset, .unset, .unset, .unset] at_105 rfl rfl ?_
          refine Go.lconst 108 (0) at_107 (by decide) rfl ?_
          refine Go.lstore 110 #[.val (.long i0), .second, .val (.int i1), .val (.long i2), .second, .val (.int i3), .val (.long i4), .second, .val (.int (1 : Int32)), .val (.int (0 : Int32)), .val (.ref a5), .val (.ref a107), .val (.ref a867), .val (.int (0 : Int32)), .val (.int (0 : Int32)), .val (.long (0 : Int64)), .second, .val (.long (0 : Int64)), .second, .unset, .unset, .unset, .unset] at_108 rfl rfl ?_
          refine Go.lload_n 111 at_110 rfl rfl ?_
          refine Go.lload_n 112 at_111 rfl rfl ?_
          refine Go.lcmp 113 at_112 rfl ?_
          refine Go.lcmp_ge 136 116 at_113 (by decide) (by decide) rfl (fun c => absurd c1 c) (fun _ => ?_)
          refine Go.iload 118 at_116 rfl rfl ?_
          refine Go.if_ne 130 121 at_118 (by decide) (by decide) rfl (fun _ => ?_) (fun c => absurd c (by decide))
          refine Go.iconst 131 (1) at_130 (by decide) rfl ?_
          refine Go.istore 133 #[.val (.long i0), .second, .val (.int i1), .val (.long i2), .second, .val (.int i3), .val (.long i4), .second, .val (.int (1 : Int32)), .val (.int (0 : Int32)), .val (.ref a5), .val (.ref a107), .val (.ref a867), .val (.int (0 : Int32)), .val (.int (1 : Int32)), .val (.long (0 : Int64)), .second, .val (.long (0 : Int64)), .second, .unset, .unset, .unset, .unset] at_131 rfl rfl ?_
          refine Go.lload_n 134 at_133 rfl rfl ?_
          refine Go.lstore 136 #[.val (.long i0), .second, .val (.int i1), .val (.long i2), .second, .val (.int i3), .val (.long i4), .second, .val (.int (1 : Int32)), .val (.int (0 : Int32)), .val (.ref a5), .val (.ref a107), .val (.ref a867), .val (.int (0 : Int32)), .val (.int (1 : Int32)), .val (.long (0 : Int64)), .second, .val (.long i2), .second, .unset, .unset, .unset, .unset] at_134 rfl rfl ?_
          refine Go.lload 138 at_136 rfl rfl ?_
          refine Go.lload_n 139 at_138 rfl rfl ?_
          refine Go.lcmp 140 at_139 rfl ?_
          refine Go.lcmp_ge 165 143 at_140 (by decide) (by decide) rfl (fun c => absurd c2 c) (fun _ => ?_)
          refine Go.iload 145 at_143 rfl rfl ?_
          refine Go.if_ne 158 148 at_145 (by decide) (by decide) rfl (fun c => absurd c (by decide)) (fun _ => ?_)
          refine Go.iconst 149 (1) at_148 (by decide) rfl ?_
          refine Go.istore 151 #[.val (.long i0), .second, .val (.int i1), .val (.long i2), .second, .val (.int i3), .val (.long i4), .second, .val (.int (1 : Int32)), .val (.int (0 : Int32)), .val (.ref a5), .val (.ref a107), .val (.ref a867), .val (.int (1 : Int32)), .val (.int (1 : Int32)), .val (.long (0 : Int64)), .second, .val (.long i2), .second, .unset, .unset, .unset, .unset] at_149 rfl rfl ?_
          refine Go.lload 153 at_151 rfl rfl ?_
          refine Go.lstore 155 #[.val (.long i0), .second, .val (.int i1), .val (.long i2), .second, .val (.int i3), .val (.long i4), .second, .val (.int (1 : Int32)), .val (.int (0 : Int32)), .val (.ref a5), .val (.ref a107), .val (.ref a867), .val (.int (1 : Int32)), .val (.int (1 : Int32)), .val (.long i4), .second, .val (.long i2), .second, .unset, .unset, .unset, .unset] at_153 rfl rfl ?_
          refine Go.goto 165 at_155 (by decide) (by decide) ?_
          refine Go.iload 167 at_165 rfl rfl ?_
          refine Go.if_eq 226 170 at_167 (by decide) (by decide) rfl (fun c => absurd c (by decide)) (fun _ => ?_)
          refine Go.iload 172 at_170 rfl rfl ?_
          refine Go.if_eq 226 175 at_172 (by decide) (by decide) rfl (fun c => absurd c (by decide)) (fun _ => ?_)
          refine Go.lload 177 at_175 rfl rfl ?_
          refine Go.lload 179 at_177 rfl rfl ?_
          refine Go.callSJp [.long i4, .long i2] [] 182 at_179 (tw189 hw) (tw190 hw) (tw155 hw) (tw191 hw) pl29 (by decide) (lenOf pd29 rfl) rfl (fun m => ef_k_min m i4 i2) _ (k_min hw h865 zs907 i4 i2) 0 rfl (Nat.le_of_eq rfl) (by decide) (by decide) (by decide) (by decide) rfl ?_
          refine Go.lstore 184 #[.val (.long i0), .second, .val (.int i1), .val (.long i2), .second, .val (.int i3), .val (.long i4), .second, .val (.int (1 : Int32)), .val (.int (0 : Int32)), .val (.ref a5), .val (.ref a107), .val (.ref a867), .val (.int (1 : Int32)), .val (.int (1 : Int32)), .val (.long i4), .second, .val (.long i2), .second, .val (.long (if i2 < i4 then i2 else i4)), .second, .unset, .unset] at_182 rfl rfl ?_
          refine Go.lload 186 at_184 rfl rfl ?_
          refine Go.lload 188 at_186 rfl rfl ?_
          refine Go.callSJp [.long i4, .long i2] [] 191 at_188 (tw192 hw) (tw193 hw) (tw155 hw) (tw194 hw) pl30 (by decide) (lenOf pd30 rfl) rfl (fun m => ef_k_max m i4 i2) _ (k_max hw h865 zs907 i4 i2) 0 rfl (Nat.le_of_eq rfl) (by decide) (by decide) (by decide) (by decide) rfl ?_
          refine Go.lstore 193 #[.val (.long i0), .second, .val (.int i1), .val (.long i2), .second, .val (.int i3), .val (.long i4), .second, .val (.int (1 : Int32)), .val (.int (0 : Int32)), .val (.ref a5), .val (.ref a107), .val (.ref a867), .val (.int (1 : Int32)), .val (.int (1 : Int32)), .val (.long i4), .second, .val (.long i2), .second, .val (.long (if i2 < i4 then i2 else i4)), .second, .val (.long (if i4 < i2 then i2 else i4)), .second] at_191 rfl rfl ?_
          refine Go.aload 195 at_193 rfl rfl rfl ?_
          refine Go.arraylengthJ (z := (2 : Int32)) 196 at_195 f869 (by decide : Nat.toInt32 2 = (2 : Int32)) rfl ?_
          refine Go.iconst 197 (2) at_196 (by decide) rfl ?_
          refine Go.icmp_ne 224 200 at_197 (by decide) (by decide) rfl (fun c => absurd c (by decide)) (fun _ => ?_)
          refine Go.aload 202 at_200 rfl rfl rfl ?_
          refine Go.iconst 203 (0) at_202 (by decide) rfl ?_
          refine Go.laload (x := (if i2 < i4 then i2 else i4)) (0) 204 at_203 f869 (by decide) (by decide) rfl rfl ?_
          refine Go.lload 206 at_204 rfl rfl ?_
          refine Go.lcmp 207 at_206 rfl ?_
          refine Go.lcmp_ne 224 210 at_207 (by decide) (by decide) rfl (fun c921 => ?_) (fun c921 => ?_)
          ·
            refine Go.iconst 225 (0) at_224 (by decide) rfl ?_
            refine Go.nreturn (t := .boolean) (z' := (0 : Int32)) at_225 rfl (by simp) (by decide) (by decide) (by decide) ?_
            exact absurd (by first | rfl | exact own_mx _ _) c921
          ·
            refine Go.aload 212 at_210 rfl rfl rfl ?_
            refine Go.iconst 213 (1) at_212 (by decide) rfl ?_
            refine Go.laload (x := (if i2 < i4 then i4 else i2)) (1) 214 at_213 f869 (by decide) (by decide) rfl rfl ?_
            refine Go.lload 216 at_214 rfl rfl ?_
            refine Go.lcmp 217 at_216 rfl ?_
            refine Go.lcmp_ne 224 220 at_217 (by decide) (by decide) rfl (fun c922 => ?_) (fun c922 => ?_)
            ·
              refine Go.iconst 225 (0) at_224 (by decide) rfl ?_
              refine Go.nreturn (t := .boolean) (z' := (0 : Int32)) at_225 rfl (by simp) (by decide) (by decide) (by decide) ?_
              exact absurd (by first | rfl | exact own_mx _ _) c922
            ·
              refine Go.iconst 221 (1) at_220 (by decide) rfl ?_
              refine Go.goto 225 at_221 (by decide) (by decide) ?_
              refine Go.nreturn (t := .boolean) (z' := (1 : Int32)) at_225 rfl (by simp) (by decide) (by decide) (by decide) ?_
              rfl
        ·
          have f923 : Arj Z h397 a24 [0, i2] := by have q := f413; simp only [own_00, own_10, c1, c2, if_true, if_false] at q; exact q
          have f924 : Ari Z h397 a25 .boolean [0, (1 : Int32)] := by have q := f414; simp only [own_00, own_10, c1, c2, if_true, if_false] at q; exact q
          refine Go.callVR [.ref a352] [] 96 at_93 (tw80 hw) (tw81 hw) (tw83 hw) (tw82 hw) (tw2 hw) (tw84 hw) f405 pl11 (by decide) (lenOf pd11 rfl) rfl (fun m => ef_k_ra01 m a5 a352) _ (k_ra01 hw h397 zs425 a5 a352 f405 f406 f407 f408 f923 f924 f410 f399 f400 f401 f422 f423 f424 f419 f420 f421 f415 f416 f417 f418 f402 f404 f403 ge51 ne50 ne31 ne32 (Ne.symm ne360) (Ne.symm ne115) (Ne.symm ne199) (Ne.symm ne144) (Ne.symm ne236) ne49) 0 rfl (Nat.le_of_eq rfl) (by decide) (by decide) (by decide) (by decide) rfl ?_
          rintro z925 h926 ⟨a928, rfl, g929, K927, f930, f931⟩
          have ne932 : r_NONE ≠ a928 := Nat.ne_of_lt (Nat.lt_of_lt_of_le f403.lt g929)
          have ne933 : a5 ≠ a928 := Nat.ne_of_lt (Nat.lt_of_lt_of_le f405.lt g929)
          have ne934 : a26 ≠ a928 := Nat.ne_of_lt (Nat.lt_of_lt_of_le f410.lt g929)
          have ne935 : a24 ≠ a928 := Nat.ne_of_lt (Nat.lt_of_lt_of_le f411.lt g929)
          have ne936 : a25 ≠ a928 := Nat.ne_of_lt (Nat.lt_of_lt_of_le f412.lt g929)
          have ne937 : a136 ≠ a928 := Nat.ne_of_lt (Nat.lt_of_lt_of_le f415.lt g929)
          have ne938 : a228 ≠ a928 := Nat.ne_of_lt (Nat.lt_of_lt_of_le f417.lt g929)
          have ne939 : a191 ≠ a928 := Nat.ne_of_lt (Nat.lt_of_lt_of_le f419.lt g929)
          have ne940 : a107 ≠ a928 := Nat.ne_of_lt (Nat.lt_of_lt_of_le f422.lt g929)
          have ne941 : a352 ≠ a928 := Nat.ne_of_lt (Nat.lt_of_lt_of_le f399.lt g929)
          have ge942 : Z.heap.size ≤ a928 := Nat.le_trans zs425 g929
          have f943 : Sta Z h926 "com/example/interlace/interlace/engine/Floors" "NONE" "[J" (.ref r_NONE) := own_staK f402 K927 (allS (Arz.nostat f410) all0)
          have f944 : Exa Z h926 r_NONE "[J" := f403.keep K927
          have f945 : Arj Z h926 r_NONE [] := f404.keep K927 (ninS ne49 nin0)
          have f946 : Exa Z h926 a5 "com/example/interlace/interlace/engine/Floors" := f405.keep K927
          have f947 : Fld Z h926 a5 "com/example/interlace/interlace/engine/Floors" "floors" "[J" (.ref a24) := f406.keep K927 (ninS ne50 nin0)
          have f948 : Fld Z h926 a5 "com/example/interlace/interlace/engine/Floors" "hasFloor" "[Z" (.ref a25) := f407.keep K927 (ninS ne50 nin0)
          have f949 : Fld Z h926 a5 "com/example/interlace/interlace/engine/Floors" "rests" "[[J" (.ref a26) := f408.keep K927 (ninS ne50 nin0)
          have f950 : Fld Z h926 a5 "com/example/interlace/interlace/engine/Floors" "latest" "J" (.long i0) := f409.keep K927 (ninS ne50 nin0)
          have f951 : Exa Z h926 a24 "[J" := f411.keep K927
          have f952 : Exa Z h926 a25 "[Z" := f412.keep K927
          have f953 : Arj Z h926 a24 [0, i2] := f923.keep K927 (ninS ne31 nin0)
          have f954 : Ari Z h926 a25 .boolean [0, (1 : Int32)] := f924.keep K927 (ninS ne32 nin0)
          have f955 : Exa Z h926 a136 "com/example/interlace/interlace/pattern/Structure$Leaf" := f415.keep K927
          have f956 : Fld Z h926 a136 "com/example/interlace/interlace/pattern/Structure$Leaf" "variable" "I" (.int (0 : Int32)) := f416.keep K927 (ninS (Ne.symm ne144) nin0)
          have f957 : Exa Z h926 a228 "com/example/interlace/interlace/pattern/Structure$Leaf" := f417.keep K927
          have f958 : Fld Z h926 a228 "com/example/interlace/interlace/pattern/Structure$Leaf" "variable" "I" (.int (1 : Int32)) := f418.keep K927 (ninS (Ne.symm ne236) nin0)
          have f959 : Exa Z h926 a191 "com/example/interlace/interlace/engine/Plan$Required" := f419.keep K927
          have f960 : Fld Z h926 a191 "com/example/interlace/interlace/engine/Plan$Required" "operand" "Lcom/example/interlace/interlace/pattern/Structure;" (.ref a228) := f420.keep K927 (ninS (Ne.symm ne199) nin0)
          have f961 : Fld Z h926 a191 "com/example/interlace/interlace/engine/Plan$Required" "rest" "Lcom/example/interlace/interlace/engine/Plan$Required;" (.null) := f421.keep K927 (ninS (Ne.symm ne199) nin0)
          have f962 : Exa Z h926 a107 "com/example/interlace/interlace/engine/Plan$Required" := f422.keep K927
          have f963 : Fld Z h926 a107 "com/example/interlace/interlace/engine/Plan$Required" "operand" "Lcom/example/interlace/interlace/pattern/Structure;" (.ref a136) := f423.keep K927 (ninS (Ne.symm ne115) nin0)
          have f964 : Fld Z h926 a107 "com/example/interlace/interlace/engine/Plan$Required" "rest" "Lcom/example/interlace/interlace/engine/Plan$Required;" (.ref a191) := f424.keep K927 (ninS (Ne.symm ne115) nin0)
          have f965 : Exa Z h926 a352 "com/example/interlace/interlace/engine/Plan$Bind" := f399.keep K927
          have f966 : Fld Z h926 a352 "com/example/interlace/interlace/engine/Plan$Bind" "variable" "I" (.int (0 : Int32)) := f400.keep K927 (ninS (Ne.symm ne360) nin0)
          have f967 : Fld Z h926 a352 "com/example/interlace/interlace/engine/Plan$Bind" "required" "Lcom/example/interlace/interlace/engine/Plan$Required;" (.ref a107) := f401.keep K927 (ninS (Ne.symm ne360) nin0)
          have zs968 : Z.heap.size ≤ h926.size := Nat.le_trans zs425 K927.1
          refine Go.astore 98 #[.val (.long i0), .second, .val (.int i1), .val (.long i2), .second, .val (.int i3), .val (.long i4), .second, .val (.int (1 : Int32)), .val (.int (0 : Int32)), .val (.ref a5), .val (.ref a107), .val (.ref a928), .unset, .unset, .unset, .unset, .unset, .unset, .unset, .unset, .unset, .unset] at_96 rfl rfl rfl ?_
          refine Go.iconst 99 (0) at_98 (by decide) rfl ?_
          refine Go.istore 101 #[.val (.long i0), .second, .val (.int i1), .val (.long i2), .second, .val (.int i3), .val (.long i4), .second, .val (.int (1 : Int32)), .val (.int (0 : Int32)), .val (.ref a5), .val (.ref a107), .val (.ref a928), .val (.int (0 : Int32)), .unset, .unset, .unset, .unset, .unset, .unset, .unset, .unset, .unset] at_99 rfl rfl ?_
          refine Go.iconst 102 (0) at_101 (by decide) rfl ?_
          refine Go.istore 104 #[.val (.long i0), .second, .val (.int i1), .val (.long i2), .second, .val (.int i3), .val (.long i4), .second, .val (.int (1 : Int32)), .val (.int (0 : Int32)), .val (.ref a5), .val (.ref a107), .val (.ref a928), .val (.int (0 : Int32)), .val (.int (0 : Int32)), .unset, .unset, .unset, .unset, .unset, .unset, .unset, .unset] at_102 rfl rfl ?_
          refine Go.lconst 105 (0) at_104 (by decide) rfl ?_
          refine Go.lstore 107 #[.val (.long i0), .second, .val (.int i1), .val (.long i2), .second, .val (.int i3), .val (.long i4), .second, .val (.int (1 : Int32)), .val (.int (0 : Int32)), .val (.ref a5), .val (.ref a107), .val (.ref a928), .val (.int (0 : Int32)), .val (.int (0 : Int32)), .val (.long (0 : Int64)), .second, .unset, .unset, .unset, .unset, .unset, .unset] at_105 rfl rfl ?_
          refine Go.lconst 108 (0) at_107 (by decide) rfl ?_
          refine Go.lstore 110 #[.val (.long i0), .second, .val (.int i1), .val (.long i2), .second, .val (.int i3), .val (.long i4), .second, .val (.int (1 : Int32)), .val (.int (0 : Int32)), .val (.ref a5), .val (.ref a107), .val (.ref a928), .val (.int (0 : Int32)), .val (.int (0 : Int32)), .val (.long (0 : Int64)), .second, .val (.long (0 : Int64)), .second, .unset, .unset, .unset, .unset] at_108 rfl rfl ?_
          refine Go.lload_n 111 at_110 rfl rfl ?_
          refine Go.lload_n 112 at_111 rfl rfl ?_
          refine Go.lcmp 113 at_112 rfl ?_
          refine Go.lcmp_ge 136 116 at_113 (by decide) (by decide) rfl (fun c => absurd c1 c) (fun _ => ?_)
          refine Go.iload 118 at_116 rfl rfl ?_
          refine Go.if_ne 130 121 at_118 (by decide) (by decide) rfl (fun _ => ?_) (fun c => absurd c (by decide))
          refine Go.iconst 131 (1) at_130 (by decide) rfl ?_
          refine Go.istore 133 #[.val (.long i0), .second, .val (.int i1), .val (.long i2), .second, .val (.int i3), .val (.long i4), .second, .val (.int (1 : Int32)), .val (.int (0 : Int32)), .val (.ref a5), .val (.ref a107), .val (.ref a928), .val (.int (0 : Int32)), .val (.int (1 : Int32)), .val (.long (0 : Int64)), .second, .val (.long (0 : Int64)), .second, .unset, .unset, .unset, .unset] at_131 rfl rfl ?_
          refine Go.lload_n 134 at_133 rfl rfl ?_
          refine Go.lstore 136 #[.val (.long i0), .second, .val (.int i1), .val (.long i2), .second, .val (.int i3), .val (.long i4), .second, .val (.int (1 : Int32)), .val (.int (0 : Int32)), .val (.ref a5), .val (.ref a107), .val (.ref a928), .val (.int (0 : Int32)), .val (.int (1 : Int32)), .val (.long (0 : Int64)), .second, .val (.long i2), .second, .unset, .unset, .unset, .unset] at_134 rfl rfl ?_
          refine Go.lload 138 at_136 rfl rfl ?_
          refine Go.lload_n 139 at_138 rfl rfl ?_
          refine Go.lcmp 140 at_139 rfl ?_
          refine Go.lcmp_ge 165 143 at_140 (by decide) (by decide) rfl (fun _ => ?_) (fun c => absurd c c2)
          refine Go.iload 167 at_165 rfl rfl ?_
          refine Go.if_eq 226 170 at_167 (by decide) (by decide) rfl (fun _ => ?_) (fun c => absurd c (by decide))
          refine Go.iload 228 at_226 rfl rfl ?_
          refine Go.if_eq 254 231 at_228 (by decide) (by decide) rfl (fun _ => ?_) (fun c => absurd c (by decide))
          refine Go.iload 256 at_254 rfl rfl ?_
          refine Go.if_eq 282 259 at_256 (by decide) (by decide) rfl (fun c => absurd c (by decide)) (fun _ => ?_)
          refine Go.aload 261 at_259 rfl rfl rfl ?_
          refine Go.arraylengthJ (z := (1 : Int32)) 262 at_261 f930 (by decide : Nat.toInt32 1 = (1 : Int32)) rfl ?_
          refine Go.iconst 263 (1) at_262 (by decide) rfl ?_
          refine Go.icmp_ne 280 266 at_263 (by decide) (by decide) rfl (fun c => absurd c (by decide)) (fun _ => ?_)
          refine Go.aload 268 at_266 rfl rfl rfl ?_
          refine Go.iconst 269 (0) at_268 (by decide) rfl ?_
          refine Go.laload (x := i2) (0) 270 at_269 f930 (by decide) (by decide) rfl rfl ?_
          refine Go.lload 272 at_270 rfl rfl ?_
          refine Go.lcmp 273 at_272 rfl ?_
          refine Go.lcmp_ne 280 276 at_273 (by decide) (by decide) rfl (fun c976 => ?_) (fun c976 => ?_)
          ·
            refine Go.iconst 281 (0) at_280 (by decide) rfl ?_
            refine Go.nreturn (t := .boolean) (z' := (0 : Int32)) at_281 rfl (by simp) (by decide) (by decide) (by decide) ?_
            exact absurd (by first | rfl | exact own_mx _ _) c976
          ·
            refine Go.iconst 277 (1) at_276 (by decide) rfl ?_
            refine Go.goto 281 at_277 (by decide) (by decide) ?_
            refine Go.nreturn (t := .boolean) (z' := (1 : Int32)) at_281 rfl (by simp) (by decide) (by decide) (by decide) ?_
            rfl
      ·
        rcases Decidable.em (i4 < i0) with c2 | c2
        ·
          have f977 : Arj Z h397 a24 [i4, 0] := by have q := f413; simp only [own_00, own_10, c1, c2, if_true, if_false] at q; exact q
          have f978 : Ari Z h397 a25 .boolean [(1 : Int32), 0] := by have q := f414; simp only [own_00, own_10, c1, c2, if_true, if_false] at q; exact q
          refine Go.callVR [.ref a352] [] 96 at_93 (tw80 hw) (tw81 hw) (tw83 hw) (tw82 hw) (tw2 hw) (tw84 hw) f405 pl11 (by decide) (lenOf pd11 rfl) rfl (fun m => ef_k_ra10 m a5 a352) _ (k_ra10 hw h397 zs425 a5 a352 f405 f406 f407 f408 f977 f978 f410 f399 f400 f401 f422 f423 f424 f419 f420 f421 f415 f416 f417 f418 f402 f404 f403 ge51 ne50 ne31 ne32 (Ne.symm ne360) (Ne.symm ne115) (Ne.symm ne199) (Ne.symm ne144) (Ne.symm ne236) ne49) 0 rfl (Nat.le_of_eq rfl) (by decide) (by decide) (by decide) (by decide) rfl ?_
          rintro z979 h980 ⟨a982, rfl, g983, K981, f984, f985⟩
          have ne986 : r_NONE ≠ a982 := Nat.ne_of_lt (Nat.lt_of_lt_of_le f403.lt g983)
          have ne987 : a5 ≠ a982 := Nat.ne_of_lt (Nat.lt_of_lt_of_le f405.lt g983)
          have ne988 : a26 ≠ a982 := Nat.ne_of_lt (Nat.lt_of_lt_of_le f410.lt g983)
          have ne989 : a24 ≠ a982 := Nat.ne_of_lt (Nat.lt_of_lt_of_le f411.lt g983)
          have ne990 : a25 ≠ a982 := Nat.ne_of_lt (Nat.lt_of_lt_of_le f412.lt g983)
          have ne991 : a136 ≠ a982 := Nat.ne_of_lt (Nat.lt_of_lt_of_le f415.lt g983)
          have ne992 : a228 ≠ a982 := Nat.ne_of_lt (Nat.lt_of_lt_of_le f417.lt g983)
          have ne993 : a191 ≠ a982 := Nat.ne_of_lt (Nat.lt_of_lt_of_le f419.lt g983)
          have ne994 : a107 ≠ a982 := Nat.ne_of_lt (Nat.lt_of_lt_of_le f422.lt g983)
          have ne995 : a352 ≠ a982 := Nat.ne_of_lt (Nat.lt_of_lt_of_le f399.lt g983)
          have ge996 : Z.heap.size ≤ a982 := Nat.le_trans zs425 g983
          have f997 : Sta Z h980 "com/example/interlace/interlace/engine/Floors" "NONE" "[J" (.ref r_NONE) := own_staK f402 K981 (allS (Arz.nostat f410) all0)
          have f998 : Exa Z h980 r_NONE "[J" := f403.keep K981
          have f999 : Arj Z h980 r_NONE [] := f404.keep K981 (ninS ne49 nin0)
          have f1000 : Exa Z h980 a5 "com/example/interlace/interlace/engine/Floors" := f405.keep K981
          have f1001 : Fld Z h980 a5 "com/example/interlace/interlace/engine/Floors" "floors" "[J" (.ref a24) := f406.keep K981 (ninS ne50 nin0)
          have f1002 : Fld Z h980 a5 "com/example/interlace/interlace/engine/Floors" "hasFloor" "[Z" (.ref a25) := f407.keep K981 (ninS ne50 nin0)
          have f1003 : Fld Z h980 a5 "com/example/interlace/interlace/engine/Floors" "rests" "[[J" (.ref a26) := f408.keep K981 (ninS ne50 nin0)
          have f1004 : Fld Z h980 a5 "com/example/interlace/interlace/engine/Floors" "latest" "J" (.long i0) := f409.keep K981 (ninS ne50 nin0)
          have f1005 : Exa Z h980 a24 "[J" := f411.keep K981
          have f1006 : Exa Z h980 a25 "[Z" := f412.keep K981
          have f1007 : Arj Z h980 a24 [i4, 0] := f977.keep K981 (ninS ne31 nin0)
          have f1008 : Ari Z h980 a25 .boolean [(1 : Int32), 0] := f978.keep K981 (ninS ne32 nin0)
          have f1009 : Exa Z h980 a136 "com/example/interlace/interlace/pattern/Structure$Leaf" := f415.keep K981
          have f1010 : Fld Z h980 a136 "com/example/interlace/interlace/pattern/Structure$Leaf" "variable" "I" (.int (0 : Int32)) := f416.keep K981 (ninS (Ne.symm ne144) nin0)
          have f1011 : Exa Z h980 a228 "com/example/interlace/interlace/pattern/Structure$Leaf" := f417.keep K981
          have f1012 : Fld Z h980 a228 "com/example/interlace/interlace/pattern/Structure$Leaf" "variable" "I" (.int (1 : Int32)) := f418.keep K981 (ninS (Ne.symm ne236) nin0)
          have f1013 : Exa Z h980 a191 "com/example/interlace/interlace/engine/Plan$Required" := f419.keep K981
          have f1014 : Fld Z h980 a191 "com/example/interlace/interlace/engine/Plan$Required" "operand" "Lcom/example/interlace/interlace/pattern/Structure;" (.ref a228) := f420.keep K981 (ninS (Ne.symm ne199) nin0)
          have f1015 : Fld Z h980 a191 "com/example/interlace/interlace/engine/Plan$Required" "rest" "Lcom/example/interlace/interlace/engine/Plan$Required;" (.null) := f421.keep K981 (ninS (Ne.symm ne199) nin0)
          have f1016 : Exa Z h980 a107 "com/example/interlace/interlace/engine/Plan$Required" := f422.keep K981
          have f1017 : Fld Z h980 a107 "com/example/interlace/interlace/engine/Plan$Required" "operand" "Lcom/example/interlace/interlace/pattern/Structure;" (.ref a136) := f423.keep K981 (ninS (Ne.symm ne115) nin0)
          have f1018 : Fld Z h980 a107 "com/example/interlace/interlace/engine/Plan$Required" "rest" "Lcom/example/interlace/interlace/engine/Plan$Required;" (.ref a191) := f424.keep K981 (ninS (Ne.symm ne115) nin0)
          have f1019 : Exa Z h980 a352 "com/example/interlace/interlace/engine/Plan$Bind" := f399.keep K981
          have f1020 : Fld Z h980 a352 "com/example/interlace/interlace/engine/Plan$Bind" "variable" "I" (.int (0 : Int32)) := f400.keep K981 (ninS (Ne.symm ne360) nin0)
          have f1021 : Fld Z h980 a352 "com/example/interlace/interlace/engine/Plan$Bind" "required" "Lcom/example/interlace/interlace/engine/Plan$Required;" (.ref a107) := f401.keep K981 (ninS (Ne.symm ne360) nin0)
          have zs1022 : Z.heap.size ≤ h980.size := Nat.le_trans zs425 K981.1
          refine Go.astore 98 #[.val (.long i0), .second, .val (.int i1), .val (.long i2), .second, .val (.int i3), .val (.long i4), .second, .val (.int (1 : Int32)), .val (.int (0 : Int32)), .val (.ref a5), .val (.ref a107), .val (.ref a982), .unset, .unset, .unset, .unset, .unset, .unset, .unset, .unset, .unset, .unset] at_96 rfl rfl rfl ?_
          refine Go.iconst 99 (0) at_98 (by decide) rfl ?_
          refine Go.istore 101 #[.val (.long i0), .second, .val (.int i1), .val (.long i2), .second, .val (.int i3), .val (.long i4), .second, .val (.int (1 : Int32)), .val (.int (0 : Int32)), .val (.ref a5), .val (.ref a107), .val (.ref a982), .val (.int (0 : Int32)), .unset, .unset, .unset, .unset, .unset, .unset, .unset, .unset, .unset] at_99 rfl rfl ?_
          refine Go.iconst 102 (0) at_101 (by decide) rfl ?_
          refine Go.istore 104 #[.val (.long i0), .second, .val (.int i1), .val (.long i2), .second, .val (.int i3), .val (.long i4), .second, .val (.int (1 : Int32)), .val (.int (0 : Int32)), .val (.ref a5), .val (.ref a107), .val (.ref a982), .val (.int (0 : Int32)), .val (.int (0 : Int32)), .unset, .unset, .unset, .unset, .unset, .unset, .unset, .unset] at_102 rfl rfl ?_
          refine Go.lconst 105 (0) at_104 (by decide) rfl ?_
          refine Go.lstore 107 #[.val (.long i0), .second, .val (.int i1), .val (.long i2), .second, .val (.int i3), .val (.long i4), .second, .val (.int (1 : Int32)), .val (.int (0 : Int32)), .val (.ref a5), .val (.ref a107), .val (.ref a982), .val (.int (0 : Int32)), .val (.int (0 : Int32)), .val (.long (0 : Int64)), .second, .unset, .unset, .unset, .unset, .unset, .unset] at_105 rfl rfl ?_
          refine Go.lconst 108 (0) at_107 (by decide) rfl ?_
          refine Go.lstore 110 #[.val (.long i0), .second, .val (.int i1), .val (.long i2), .second, .val (.int i3), .val (.long i4), .second, .val (.int (1 : Int32)), .val (.int (0 : Int32)), .val (.ref a5), .val (.ref a107), .val (.ref a982), .val (.int (0 : Int32)), .val (.int (0 : Int32)), .val (.long (0 : Int64)), .second, .val (.long (0 : Int64)), .second, .unset, .unset, .unset, .unset] at_108 rfl rfl ?_
          refine Go.lload_n 111 at_110 rfl rfl ?_
          refine Go.lload_n 112 at_111 rfl rfl ?_
          refine Go.lcmp 113 at_112 rfl ?_
          refine Go.lcmp_ge 136 116 at_113 (by decide) (by decide) rfl (fun _ => ?_) (fun c => absurd c c1)
          refine Go.lload 138 at_136 rfl rfl ?_
          refine Go.lload_n 139 at_138 rfl rfl ?_
          refine Go.lcmp 140 at_139 rfl ?_
          refine Go.lcmp_ge 165 143 at_140 (by decide) (by decide) rfl (fun c => absurd c2 c) (fun _ => ?_)
          refine Go.iload 145 at_143 rfl rfl ?_
          refine Go.if_ne 158 148 at_145 (by decide) (by decide) rfl (fun c => absurd c (by decide)) (fun _ => ?_)
          refine Go.iconst 149 (1) at_148 (by decide) rfl ?_
          refine Go.istore 151 #[.val (.long i0), .second, .val (.int i1), .val (.long i2), .second, .val (.int i3), .val (.long i4), .second, .val (.int (1 : Int32)), .val (.int (0 : Int32)), .val (.ref a5), .val (.ref a107), .val (.ref a982), .val (.int (1 : Int32)), .val (.int (0 : Int32)), .val (.long (0 : Int64)), .second, .val (.long (0 : Int64)), .second, .unset, .unset, .unset, .unset] at_149 rfl rfl ?_
          refine Go.lload 153 at_151 rfl rfl ?_
          refine Go.lstore 155 #[.val (.long i0), .second, .val (.int i1), .val (.long i2), .second, .val (.int i3), .val (.long i4), .second, .val (.int (1 : Int32)), .val (.int (0 : Int32)), .val (.ref a5), .val (.ref a107), .val (.ref a982), .val (.int (1 : Int32)), .val (.int (0 : Int32)), .val (.long i4), .second, .val (.long (0 : Int64)), .second, .unset, .unset, .unset, .unset] at_153 rfl rfl ?_
          refine Go.goto 165 at_155 (by decide) (by decide) ?_
          refine Go.iload 167 at_165 rfl rfl ?_
          refine Go.if_eq 226 170 at_167 (by decide) (by decide) rfl (fun c => absurd c (by decide)) (fun _ => ?_)
          refine Go.iload 172 at_170 rfl rfl ?_
          refine Go.if_eq 226 175 at_172 (by decide) (by decide) rfl (fun _ => ?_) (fun c => absurd c (by decide))
          refine Go.iload 228 at_226 rfl rfl ?_
          refine Go.if_eq 254 231 at_228 (by decide) (by decide) rfl (fun c => absurd c (by decide)) (fun _ => ?_)
          refine Go.aload 233 at_231 rfl rfl rfl ?_
          refine Go.arraylengthJ (z := (1 : Int32)) 234 at_233 f984 (by decide : Nat.toInt32 1 = (1 : Int32)) rfl ?_
          refine Go.iconst 235 (1) at_234 (by decide) rfl ?_
          refine Go.icmp_ne 252 238 at_235 (by decide) (by decide) rfl (fun c => absurd c (by decide)) (fun _ => ?_)
          refine Go.aload 240 at_238 rfl rfl rfl ?_
          refine Go.iconst 241 (0) at_240 (by decide) rfl ?_
          refine Go.laload (x := i4) (0) 242 at_241 f984 (by decide) (by decide) rfl rfl ?_
          refine Go.lload 244 at_242 rfl rfl ?_
          refine Go.lcmp 245 at_244 rfl ?_
          refine Go.lcmp_ne 252 248 at_245 (by decide) (by decide) rfl (fun c1030 => ?_) (fun c1030 => ?_)
          ·
            refine Go.iconst 253 (0) at_252 (by decide) rfl ?_
            refine Go.nreturn (t := .boolean) (z' := (0 : Int32)) at_253 rfl (by simp) (by decide) (by decide) (by decide) ?_
            exact absurd (by first | rfl | exact own_mx _ _) c1030
          ·
            refine Go.iconst 249 (1) at_248 (by decide) rfl ?_
            refine Go.goto 253 at_249 (by decide) (by decide) ?_
            refine Go.nreturn (t := .boolean) (z' := (1 : Int32)) at_253 rfl (by simp) (by decide) (by decide) (by decide) ?_
            rfl
        ·
          have f1031 : Arj Z h397 a24 [0, 0] := by have q := f413; simp only [own_00, own_10, c1, c2, if_true, if_false] at q; exact q
          have f1032 : Ari Z h397 a25 .boolean [0, 0] := by have q := f414; simp only [own_00, own_10, c1, c2, if_true, if_false] at q; exact q
          refine Go.callVR [.ref a352] [] 96 at_93 (tw80 hw) (tw81 hw) (tw83 hw) (tw82 hw) (tw2 hw) (tw84 hw) f405 pl11 (by decide) (lenOf pd11 rfl) rfl (fun m => ef_k_ra00 m a5 a352) _ (k_ra00 hw h397 zs425 a5 a352 f405 f406 f407 f408 f1031 f1032 f410 f399 f400 f401 f422 f423 f424 f419 f420 f421 f415 f416 f417 f418 f402 f404 f403 ge51 ne50 ne31 ne32 (Ne.symm ne360) (Ne.symm ne115) (Ne.symm ne199) (Ne.symm ne144) (Ne.symm ne236) ne49) 0 rfl (Nat.le_of_eq rfl) (by decide) (by decide) (by decide) (by decide) rfl ?_
          rintro z1033 h1034 ⟨a1036, rfl, g1037, K1035, f1038, f1039⟩
          have ne1040 : r_NONE ≠ a1036 := Nat.ne_of_lt (Nat.lt_of_lt_of_le f403.lt g1037)
          have ne1041 : a5 ≠ a1036 := Nat.ne_of_lt (Nat.lt_of_lt_of_le f405.lt g1037)
          have ne1042 : a26 ≠ a1036 := Nat.ne_of_lt (Nat.lt_of_lt_of_le f410.lt g1037)
          have ne1043 : a24 ≠ a1036 := Nat.ne_of_lt (Nat.lt_of_lt_of_le f411.lt g1037)
          have ne1044 : a25 ≠ a1036 := Nat.ne_of_lt (Nat.lt_of_lt_of_le f412.lt g1037)
          have ne1045 : a136 ≠ a1036 := Nat.ne_of_lt (Nat.lt_of_lt_of_le f415.lt g1037)
          have ne1046 : a228 ≠ a1036 := Nat.ne_of_lt (Nat.lt_of_lt_of_le f417.lt g1037)
          have ne1047 : a191 ≠ a1036 := Nat.ne_of_lt (Nat.lt_of_lt_of_le f419.lt g1037)
          have ne1048 : a107 ≠ a1036 := Nat.ne_of_lt (Nat.lt_of_lt_of_le f422.lt g1037)
          have ne1049 : a352 ≠ a1036 := Nat.ne_of_lt (Nat.lt_of_lt_of_le f399.lt g1037)
          have ge1050 : Z.heap.size ≤ a1036 := Nat.le_trans zs425 g1037
          have f1051 : Sta Z h1034 "com/example/interlace/interlace/engine/Floors" "NONE" "[J" (.ref r_NONE) := own_staK f402 K1035 (allS (Arz.nostat f410) all0)
          have f1052 : Exa Z h1034 r_NONE "[J" := f403.keep K1035
          have f1053 : Arj Z h1034 r_NONE [] := f404.keep K1035 (ninS ne49 nin0)
          have f1054 : Exa Z h1034 a5 "com/example/interlace/interlace/engine/Floors" := f405.keep K1035
          have f1055 : Fld Z h1034 a5 "com/example/interlace/interlace/engine/Floors" "floors" "[J" (.ref a24) := f406.keep K1035 (ninS ne50 nin0)
          have f1056 : Fld Z h1034 a5 "com/example/interlace/interlace/engine/Floors" "hasFloor" "[Z" (.ref a25) := f407.keep K1035 (ninS ne50 nin0)
          have f1057 : Fld Z h1034 a5 "com/example/interlace/interlace/engine/Floors" "rests" "[[J" (.ref a26) := f408.keep K1035 (ninS ne50 nin0)
          have f1058 : Fld Z h1034 a5 "com/example/interlace/interlace/engine/Floors" "latest" "J" (.long i0) := f409.keep K1035 (ninS ne50 nin0)
          have f1059 : Exa Z h1034 a24 "[J" := f411.keep K1035
          have f1060 : Exa Z h1034 a25 "[Z" := f412.keep K1035
          have f1061 : Arj Z h1034 a24 [0, 0] := f1031.keep K1035 (ninS ne31 nin0)
          have f1062 : Ari Z h1034 a25 .boolean [0, 0] := f1032.keep K1035 (ninS ne32 nin0)
          have f1063 : Exa Z h1034 a136 "com/example/interlace/interlace/pattern/Structure$Leaf" := f415.keep K1035
          have f1064 : Fld Z h1034 a136 "com/example/interlace/interlace/pattern/Structure$Leaf" "variable" "I" (.int (0 : Int32)) := f416.keep K1035 (ninS (Ne.symm ne144) nin0)
          have f1065 : Exa Z h1034 a228 "com/example/interlace/interlace/pattern/Structure$Leaf" := f417.keep K1035
          have f1066 : Fld Z h1034 a228 "com/example/interlace/interlace/pattern/Structure$Leaf" "variable" "I" (.int (1 : Int32)) := f418.keep K1035 (ninS (Ne.symm ne236) nin0)
          have f1067 : Exa Z h1034 a191 "com/example/interlace/interlace/engine/Plan$Required" := f419.keep K1035
          have f1068 : Fld Z h1034 a191 "com/example/interlace/interlace/engine/Plan$Required" "operand" "Lcom/example/interlace/interlace/pattern/Structure;" (.ref a228) := f420.keep K1035 (ninS (Ne.symm ne199) nin0)
          have f1069 : Fld Z h1034 a191 "com/example/interlace/interlace/engine/Plan$Required" "rest" "Lcom/example/interlace/interlace/engine/Plan$Required;" (.null) := f421.keep K1035 (ninS (Ne.symm ne199) nin0)
          have f1070 : Exa Z h1034 a107 "com/example/interlace/interlace/engine/Plan$Required" := f422.keep K1035
          have f1071 : Fld Z h1034 a107 "com/example/interlace/interlace/engine/Plan$Required" "operand" "Lcom/example/interlace/interlace/pattern/Structure;" (.ref a136) := f423.keep K1035 (ninS (Ne.symm ne115) nin0)
          have f1072 : Fld Z h1034 a107 "com/example/interlace/interlace/engine/Plan$Required" "rest" "Lcom/example/interlace/interlace/engine/Plan$Required;" (.ref a191) := f424.keep K1035 (ninS (Ne.symm ne115) nin0)
          have f1073 : Exa Z h1034 a352 "com/example/interlace/interlace/engine/Plan$Bind" := f399.keep K1035
          have f1074 : Fld Z h1034 a352 "com/example/interlace/interlace/engine/Plan$Bind" "variable" "I" (.int (0 : Int32)) := f400.keep K1035 (ninS (Ne.symm ne360) nin0)
          have f1075 : Fld Z h1034 a352 "com/example/interlace/interlace/engine/Plan$Bind" "required" "Lcom/example/interlace/interlace/engine/Plan$Required;" (.ref a107) := f401.keep K1035 (ninS (Ne.symm ne360) nin0)
          have zs1076 : Z.heap.size ≤ h1034.size := Nat.le_trans zs425 K1035.1
          refine Go.astore 98 #[.val (.long i0), .second, .val (.int i1), .val (.long i2), .second, .val (.int i3), .val (.long i4), .second, .val (.int (1 : Int32)), .val (.int (0 : Int32)), .val (.ref a5), .val (.ref a107), .val (.ref a1036), .unset, .unset, .unset, .unset, .unset, .unset, .unset, .unset, .unset, .unset] at_96 rfl rfl rfl ?_
          refine Go.iconst 99 (0) at_98 (by decide) rfl ?_
          refine Go.istore 101 #[.val (.long i0), .second, .val (.int i1), .val (.long i2), .second, .val (.int i3), .val (.long i4), .second, .val (.int (1 : Int32)), .val (.int (0 : Int32)), .val (.ref a5), .val (.ref a107), .val (.ref a1036), .val (.int (0 : Int32)), .unset, .unset, .unset, .unset, .unset, .unset, .unset, .unset, .unset] at_99 rfl rfl ?_
          refine Go.iconst 102 (0) at_101 (by decide) rfl ?_
          refine Go.istore 104 #[.val (.long i0), .second, .val (.int i1), .val (.long i2), .second, .val (.int i3), .val (.long i4), .second, .val (.int (1 : Int32)), .val (.int (0 : Int32)), .val (.ref a5), .val (.ref a107), .val (.ref a1036), .val (.int (0 : Int32)), .val (.int (0 : Int32)), .unset, .unset, .unset, .unset, .unset, .unset, .unset, .unset] at_102 rfl rfl ?_
          refine Go.lconst 105 (0) at_104 (by decide) rfl ?_
          refine Go.lstore 107 #[.val (.long i0), .second, .val (.int i1), .val (.long i2), .second, .val (.int i3), .val (.long i4), .second, .val (.int (1 : Int32)), .val (.int (0 : Int32)), .val (.ref a5), .val (.ref a107), .val (.ref a1036), .val (.int (0 : Int32)), .val (.int (0 : Int32)), .val (.long (0 : Int64)), .second, .unset, .unset, .unset, .unset, .unset, .unset] at_105 rfl rfl ?_
          refine Go.lconst 108 (0) at_107 (by decide) rfl ?_
          refine Go.lstore 110 #[.val (.long i0), .second, .val (.int i1), .val (.long i2), .second, .val (.int i3), .val (.long i4), .second, .val (.int (1 : Int32)), .val (.int (0 : Int32)), .val (.ref a5), .val (.ref a107), .val (.ref a1036), .val (.int (0 : Int32)), .val (.int (0 : Int32)), .val (.long (0 : Int64)), .second, .val (.long (0 : Int64)), .second, .unset, .unset, .unset, .unset] at_108 rfl rfl ?_
          refine Go.lload_n 111 at_110 rfl rfl ?_
          refine Go.lload_n 112 at_111 rfl rfl ?_
          refine Go.lcmp 113 at_112 rfl ?_
          refine Go.lcmp_ge 136 116 at_113 (by decide) (by decide) rfl (fun _ => ?_) (fun c => absurd c c1)
          refine Go.lload 138 at_136 rfl rfl ?_
          refine Go.lload_n 139 at_138 rfl rfl ?_
          refine Go.lcmp 140 at_139 rfl ?_
          refine Go.lcmp_ge 165 143 at_140 (by decide) (by decide) rfl (fun _ => ?_) (fun c => absurd c c2)
          refine Go.iload 167 at_165 rfl rfl ?_
          refine Go.if_eq 226 170 at_167 (by decide) (by decide) rfl (fun _ => ?_) (fun c => absurd c (by decide))
          refine Go.iload 228 at_226 rfl rfl ?_
          refine Go.if_eq 254 231 at_228 (by decide) (by decide) rfl (fun _ => ?_) (fun c => absurd c (by decide))
          refine Go.iload 256 at_254 rfl rfl ?_
          refine Go.if_eq 282 259 at_256 (by decide) (by decide) rfl (fun _ => ?_) (fun c => absurd c (by decide))
          refine Go.aload 284 at_282 rfl rfl rfl ?_
          refine Go.arraylengthJ (z := (0 : Int32)) 285 at_284 f1038 (by decide : Nat.toInt32 0 = (0 : Int32)) rfl ?_
          refine Go.if_ne 292 288 at_285 (by decide) (by decide) rfl (fun c => absurd c (by decide)) (fun _ => ?_)
          refine Go.iconst 289 (1) at_288 (by decide) rfl ?_
          refine Go.goto 293 at_289 (by decide) (by decide) ?_
          refine Go.nreturn (t := .boolean) (z' := (1 : Int32)) at_293 rfl (by simp) (by decide) (by decide) (by decide) ?_
          rfl
    ·
      subst hs
      rcases Decidable.em (i2 < i0) with c1 | c1
      ·
        rcases Decidable.em (i4 < i0) with c2 | c2
        ·
          have f1083 : Arj Z h397 a24 [0, i4] := by have q := f413; simp only [own_00, own_10, c1, c2, if_true, if_false] at q; exact q
          have f1084 : Ari Z h397 a25 .boolean [0, (1 : Int32)] := by have q := f414; simp only [own_00, own_10, c1, c2, if_true, if_false] at q; exact q
          refine Go.callVR [.ref a352] [] 96 at_93 (tw80 hw) (tw81 hw) (tw83 hw) (tw82 hw) (tw2 hw) (tw84 hw) f405 pl11 (by decide) (lenOf pd11 rfl) rfl (fun m => ef_k_ra01 m a5 a352) _ (k_ra01 hw h397 zs425 a5 a352 f405 f406 f407 f408 f1083 f1084 f410 f399 f400 f401 f422 f423 f424 f419 f420 f421 f415 f416 f417 f418 f402 f404 f403 ge51 ne50 ne31 ne32 (Ne.symm ne360) (Ne.symm ne115) (Ne.symm ne199) (Ne.symm ne144) (Ne.symm ne236) ne49) 0 rfl (Nat.le_of_eq rfl) (by decide) (by decide) (by decide) (by decide) rfl ?_
          rintro z1085 h1086 ⟨a1088, rfl, g1089, K1087, f1090, f1091⟩
          have ne1092 : r_NONE ≠ a1088 := Nat.ne_of_lt (Nat.lt_of_lt_of_le f403.lt g1089)
          have ne1093 : a5 ≠ a1088 := Nat.ne_of_lt (Nat.lt_of_lt_of_le f405.lt g1089)
          have ne1094 : a26 ≠ a1088 := Nat.ne_of_lt (Nat.lt_of_lt_of_le f410.lt g1089)
          have ne1095 : a24 ≠ a1088 := Nat.ne_of_lt (Nat.lt_of_lt_of_le f411.lt g1089)
          have ne1096 : a25 ≠ a1088 := Nat.ne_of_lt (Nat.lt_of_lt_of_le f412.lt g1089)
          have ne1097 : a136 ≠ a1088 := Nat.ne_of_lt (Nat.lt_of_lt_of_le f415.lt g1089)
          have ne1098 : a228 ≠ a1088 := Nat.ne_of_lt (Nat.lt_of_lt_of_le f417.lt g1089)
          have ne1099 : a191 ≠ a1088 := Nat.ne_of_lt (Nat.lt_of_lt_of_le f419.lt g1089)
          have ne1100 : a107 ≠ a1088 := Nat.ne_of_lt (Nat.lt_of_lt_of_le f422.lt g1089)
          have ne1101 : a352 ≠ a1088 := Nat.ne_of_lt (Nat.lt_of_lt_of_le f399.lt g1089)
          have ge1102 : Z.heap.size ≤ a1088 := Nat.le_trans zs425 g1089
          have f1103 : Sta Z h1086 "com/example/interlace/interlace/engine/Floors" "NONE" "[J" (.ref r_NONE) := own_staK f402 K1087 (allS (Arz.nostat f410) all0)
          have f1104 : Exa Z h1086 r_NONE "[J" := f403.keep K1087
          have f1105 : Arj Z h1086 r_NONE [] := f404.keep K1087 (ninS ne49 nin0)
          have f1106 : Exa Z h1086 a5 "com/example/interlace/interlace/engine/Floors" := f405.keep K1087
          have f1107 : Fld Z h1086 a5 "com/example/interlace/interlace/engine/Floors" "floors" "[J" (.ref a24) := f406.keep K1087 (ninS ne50 nin0)
          have f1108 : Fld Z h1086 a5 "com/example/interlace/interlace/engine/Floors" "hasFloor" "[Z" (.ref a25) := f407.keep K1087 (ninS ne50 nin0)
          have f1109 : Fld Z h1086 a5 "com/example/interlace/interlace/engine/Floors" "rests" "[[J" (.ref a26) := f408.keep K1087 (ninS ne50 nin0)
          have f1110 : Fld Z h1086 a5 "com/example/interlace/interlace/engine/Floors" "latest" "J" (.long i0) := f409.keep K1087 (ninS ne50 nin0)
          have f1111 : Exa Z h1086 a24 "[J" := f411.keep K1087
          have f1112 : Exa Z h1086 a25 "[Z" := f412.keep K1087
          have f1113 : Arj Z h1086 a24 [0, i4] := f1083.keep K1087 (ninS ne31 nin0)
          have f1114 : Ari Z h1086 a25 .boolean [0, (1 : Int32)] := f1084.keep K1087 (ninS ne32 nin0)
          have f1115 : Exa Z h1086 a136 "com/example/interlace/interlace/pattern/Structure$Leaf" := f415.keep K1087
          have f1116 : Fld Z h1086 a136 "com/example/interlace/interlace/pattern/Structure$Leaf" "variable" "I" (.int (0 : Int32)) := f416.keep K1087 (ninS (Ne.symm ne144) nin0)
          have f1117 : Exa Z h1086 a228 "com/example/interlace/interlace/pattern/Structure$Leaf" := f417.keep K1087
          have f1118 : Fld Z h1086 a228 "com/example/interlace/interlace/pattern/Structure$Leaf" "variable" "I" (.int (1 : Int32)) := f418.keep K1087 (ninS (Ne.symm ne236) nin0)
          have f1119 : Exa Z h1086 a191 "com/example/interlace/interlace/engine/Plan$Required" := f419.keep K1087
          have f1120 : Fld Z h1086 a191 "com/example/interlace/interlace/engine/Plan$Required" "operand" "Lcom/example/interlace/interlace/pattern/Structure;" (.ref a228) := f420.keep K1087 (ninS (Ne.symm ne199) nin0)
          have f1121 : Fld Z h1086 a191 "com/example/interlace/interlace/engine/Plan$Required" "rest" "Lcom/example/interlace/interlace/engine/Plan$Required;" (.null) := f421.keep K1087 (ninS (Ne.symm ne199) nin0)
          have f1122 : Exa Z h1086 a107 "com/example/interlace/interlace/engine/Plan$Required" := f422.keep K1087
          have f1123 : Fld Z h1086 a107 "com/example/interlace/interlace/engine/Plan$Required" "operand" "Lcom/example/interlace/interlace/pattern/Structure;" (.ref a136) := f423.keep K1087 (ninS (Ne.symm ne115) nin0)
          have f1124 : Fld Z h1086 a107 "com/example/interlace/interlace/engine/Plan$Required" "rest" "Lcom/example/interlace/interlace/engine/Plan$Required;" (.ref a191) := f424.keep K1087 (ninS (Ne.symm ne115) nin0)
          have f1125 : Exa Z h1086 a352 "com/example/interlace/interlace/engine/Plan$Bind" := f399.keep K1087
          have f1126 : Fld Z h1086 a352 "com/example/interlace/interlace/engine/Plan$Bind" "variable" "I" (.int (0 : Int32)) := f400.keep K1087 (ninS (Ne.symm ne360) nin0)
          have f1127 : Fld Z h1086 a352 "com/example/interlace/interlace/engine/Plan$Bind" "required" "Lcom/example/interlace/interlace/engine/Plan$Required;" (.ref a107) := f401.keep K1087 (ninS (Ne.symm ne360) nin0)
          have zs1128 : Z.heap.size ≤ h1086.size := Nat.le_trans zs425 K1087.1
          refine Go.astore 98 #[.val (.long i0), .second, .val (.int i1), .val (.long i2), .second, .val (.int i3), .val (.long i4), .second, .val (.int (1 : Int32)), .val (.int (1 : Int32)), .val (.ref a5), .val (.ref a107), .val (.ref a1088), .unset, .unset, .unset, .unset, .unset, .unset, .unset, .unset, .unset, .unset] at_96 rfl rfl rfl ?_
          refine Go.iconst 99 (0) at_98 (by decide) rfl ?_
          refine Go.istore 101 #[.val (.long i0), .second, .val (.int i1), .val (.long i2), .second, .val (.int i3), .val (.long i4), .second, .val (.int (1 : Int32)), .val (.int (1 : Int32)), .val (.ref a5), .val (.ref a107), .val (.ref a1088), .val (.int (0 : Int32)), .unset, .unset, .unset, .unset, .unset, .unset, .unset, .unset, .unset] at_99 rfl rfl ?_
          refine Go.iconst 102 (0) at_101 (by decide) rfl ?_
          refine Go.istore 104 #[.val (.long i0), .second, .val (.int i1), .val (.long i2), .second, .val (.int i3), .val (.long i4), .second, .val (.int (1 : Int32)), .val (.int (1 : Int32)), .val (.ref a5), .val (.ref a107), .val (.ref a1088), .val (.int (0 : Int32)), .val (.int (0 : Int32)), .unset, .unset, .unset, .unset, .unset, .unset, .unset, .unset] at_102 rfl rfl ?_
          refine Go.lconst 105 (0) at_104 (by decide) rfl ?_
          refine Go.lstore 107 #[.val (.long i0), .second, .val (.int i1), .val (.long i2), .second, .val (.int i3), .val (.long i4), .second, .val (.int (1 : Int32)), .val (.int (1 : Int32)), .val (.ref a5), .val (.ref a107), .val (.ref a1088), .val (.int (0 : Int32)), .val (.int (0 : Int32)), .val (.long (0 : Int64)), .second, .unset, .unset, .unset, .unset, .unset, .unset] at_105 rfl rfl ?_
          refine Go.lconst 108 (0) at_107 (by decide) rfl ?_
          refine Go.lstore 110 #[.val (.long i0), .second, .val (.int i1), .val (.long i2), .second, .val (.int i3), .val (.long i4), .second, .val (.int (1 : Int32)), .val (.int (1 : Int32)), .val (.ref a5), .val (.ref a107), .val (.ref a1088), .val (.int (0 : Int32)), .val (.int (0 : Int32)), .val (.long (0 : Int64)), .second, .val (.long (0 : Int64)), .second, .unset, .unset, .unset, .unset] at_108 rfl rfl ?_
          refine Go.lload_n 111 at_110 rfl rfl ?_
          refine Go.lload_n 112 at_111 rfl rfl ?_
          refine Go.lcmp 113 at_112 rfl ?_
          refine Go.lcmp_ge 136 116 at_113 (by decide) (by decide) rfl (fun c => absurd c1 c) (fun _ => ?_)
          refine Go.iload 118 at_116 rfl rfl ?_
          refine Go.if_ne 130 121 at_118 (by decide) (by decide) rfl (fun _ => ?_) (fun c => absurd c (by decide))
          refine Go.iconst 131 (1) at_130 (by decide) rfl ?_
          refine Go.istore 133 #[.val (.long i0), .second, .val (.int i1), .val (.long i2), .second, .val (.int i3), .val (.long i4), .second, .val (.int (1 : Int32)), .val (.int (1 : Int32)), .val (.ref a5), .val (.ref a107), .val (.ref a1088), .val (.int (0 : Int32)), .val (.int (1 : Int32)), .val (.long (0 : Int64)), .second, .val (.long (0 : Int64)), .second, .unset, .unset, .unset, .unset] at_131 rfl rfl ?_
          refine Go.lload_n 134 at_133 rfl rfl ?_
          refine Go.lstore 136 #[.val (.long i0), .second, .val (.int i1), .val (.long i2), .second, .val (.int i3), .val (.long i4), .second, .val (.int (1 : Int32)), .val (.int (1 : Int32)), .val (.ref a5), .val (.ref a107), .val (.ref a1088), .val (.int (0 : Int32)), .val (.int (1 : Int32)), .val (.long (0 : Int64)), .second, .val (.long i2), .second, .unset, .unset, .unset, .unset] at_134 rfl rfl ?_
          refine Go.lload 138 at_136 rfl rfl ?_
          refine Go.lload_n 139 at_138 rfl rfl ?_
          refine Go.lcmp 140 at_139 rfl ?_
          refine Go.lcmp_ge 165 143 at_140 (by decide) (by decide) rfl (fun c => absurd c2 c) (fun _ => ?_)
          refine Go.iload 145 at_143 rfl rfl ?_
          refine Go.if_ne 158 148 at_145 (by decide) (by decide) rfl (fun _ => ?_) (fun c => absurd c (by decide))
          refine Go.iconst 159 (1) at_158 (by decide) rfl ?_
          refine Go.istore 161 #[.val (.long i0), .second, .val (.int i1), .val (.long i2), .second, .val (.int i3), .val (.long i4), .second, .val (.int (1 : Int32)), .val (.int (1 : Int32)), .val (.ref a5), .val (.ref a107), .val (.ref a1088), .val (.int (0 : Int32)), .val (.int (1 : Int32)), .val (.long (0 : Int64)), .second, .val (.long i2), .second, .unset, .unset, .unset, .unset] at_159 rfl rfl ?_
          refine Go.lload 163 at_161 rfl rfl ?_
          refine Go.lstore 165 #[.val (.long i0), .second, .val (.int i1), .val (.long i2), .second, .val (.int i3), .val (.long i4), .second, .val (.int (1 : Int32)), .val (.int (1 : Int32)), .val (.ref a5), .val (.ref a107), .val (.ref a1088), .val (.int (0 : Int32)), .val (.int (1 : Int32)), .val (.long (0 : Int64)), .second, .val (.long i4), .second, .unset, .unset, .unset, .unset] at_163 rfl rfl ?_
          refine Go.iload 167 at_165 rfl rfl ?_
          refine Go.if_eq 226 170 at_167 (by decide) (by decide) rfl (fun _ => ?_) (fun c => absurd c (by decide))
          refine Go.iload 228 at_226 rfl rfl ?_
          refine Go.if_eq 254 231 at_228 (by decide) (by decide) rfl (fun _ => ?_) (fun c => absurd c (by decide))
          refine Go.iload 256 at_254 rfl rfl ?_
          refine Go.if_eq 282 259 at_256 (by decide) (by decide) rfl (fun c => absurd c (by decide)) (fun _ => ?_)
          refine Go.aload 261 at_259 rfl rfl rfl ?_
          refine Go.arraylengthJ (z := (1 : Int32)) 262 at_261 f1090 (by decide : Nat.toInt32 1 = (1 : Int32)) rfl ?_
          refine Go.iconst 263 (1) at_262 (by decide) rfl ?_
          refine Go.icmp_ne 280 266 at_263 (by decide) (by decide) rfl (fun c => absurd c (by decide)) (fun _ => ?_)
          refine Go.aload 268 at_266 rfl rfl rfl ?_
          refine Go.iconst 269 (0) at_268 (by decide) rfl ?_
          refine Go.laload (x := i4) (0) 270 at_269 f1090 (by decide) (by decide) rfl rfl ?_
          refine Go.lload 272 at_270 rfl rfl ?_
          refine Go.lcmp 273 at_272 rfl ?_
          refine Go.lcmp_ne 280 276 at_273 (by decide) (by decide) rfl (fun c1137 => ?_) (fun c1137 => ?_)
          ·
            refine Go.iconst 281 (0) at_280 (by decide) rfl ?_
            refine Go.nreturn (t := .boolean) (z' := (0 : Int32)) at_281 rfl (by simp) (by decide) (by decide) (by decide) ?_
            exact absurd (by first | rfl | exact own_mx _ _) c1137
          ·
            refine Go.iconst 277 (1) at_276 (by decide) rfl ?_
            refine Go.goto 281 at_277 (by decide) (by decide) ?_
            refine Go.nreturn (t := .boolean) (z' := (1 : Int32)) at_281 rfl (by simp) (by decide) (by decide) (by decide) ?_
            rfl
        ·
          have f1138 : Arj Z h397 a24 [0, i2] := by have q := f413; simp only [own_00, own_10, c1, c2, if_true, if_false] at q; exact q
          have f1139 : Ari Z h397 a25 .boolean [0, (1 : Int32)] := by have q := f414; simp only [own_00, own_10, c1, c2, if_true, if_false] at q; exact q
          refine Go.callVR [.ref a352] [] 96 at_93 (tw80 hw) (tw81 hw) (tw83 hw) (tw82 hw) (tw2 hw) (tw84 hw) f405 pl11 (by decide) (lenOf pd11 rfl) rfl (fun m => ef_k_ra01 m a5 a352) _ (k_ra01 hw h397 zs425 a5 a352 f405 f406 f407 f408 f1138 f1139 f410 f399 f400 f401 f422 f423 f424 f419 f420 f421 f415 f416 f417 f418 f402 f404 f403 ge51 ne50 ne31 ne32 (Ne.symm ne360) (Ne.symm ne115) (Ne.symm ne199) (Ne.symm ne144) (Ne.symm ne236) ne49) 0 rfl (Nat.le_of_eq rfl) (by decide) (by decide) (by decide) (by decide) rfl ?_
          rintro z1140 h1141 ⟨a1143, rfl, g1144, K1142, f1145, f1146⟩
          have ne1147 : r_NONE ≠ a1143 := Nat.ne_of_lt (Nat.lt_of_lt_of_le f403.lt g1144)
          have ne1148 : a5 ≠ a1143 := Nat.ne_of_lt (Nat.lt_of_lt_of_le f405.lt g1144)
          have ne1149 : a26 ≠ a1143 := Nat.ne_of_lt (Nat.lt_of_lt_of_le f410.lt g1144)
          have ne1150 : a24 ≠ a1143 := Nat.ne_of_lt (Nat.lt_of_lt_of_le f411.lt g1144)
          have ne1151 : a25 ≠ a1143 := Nat.ne_of_lt (Nat.lt_of_lt_of_le f412.lt g1144)
          have ne1152 : a136 ≠ a1143 := Nat.ne_of_lt (Nat.lt_of_lt_of_le f415.lt g1144)
          have ne1153 : a228 ≠ a1143 := Nat.ne_of_lt (Nat.lt_of_lt_of_le f417.lt g1144)
          have ne1154 : a191 ≠ a1143 := Nat.ne_of_lt (Nat.lt_of_lt_of_le f419.lt g1144)
          have ne1155 : a107 ≠ a1143 := Nat.ne_of_lt (Nat.lt_of_lt_of_le f422.lt g1144)
          have ne1156 : a352 ≠ a1143 := Nat.ne_of_lt (Nat.lt_of_lt_of_le f399.lt g1144)
          have ge1157 : Z.heap.size ≤ a1143 := Nat.le_trans zs425 g1144
          have f1158 : Sta Z h1141 "com/example/interlace/interlace/engine/Floors" "NONE" "[J" (.ref r_NONE) := own_staK f402 K1142 (allS (Arz.nostat f410) all0)
          have f1159 : Exa Z h1141 r_NONE "[J" := f403.keep K1142
          have f1160 : Arj Z h1141 r_NONE [] := f404.keep K1142 (ninS ne49 nin0)
          have f1161 : Exa Z h1141 a5 "com/example/interlace/interlace/engine/Floors" := f405.keep K1142
          have f1162 : Fld Z h1141 a5 "com/example/interlace/interlace/engine/Floors" "floors" "[J" (.ref a24) := f406.keep K1142 (ninS ne50 nin0)
          have f1163 : Fld Z h1141 a5 "com/example/interlace/interlace/engine/Floors" "hasFloor" "[Z" (.ref a25) := f407.keep K1142 (ninS ne50 nin0)
          have f1164 : Fld Z h1141 a5 "com/example/interlace/interlace/engine/Floors" "rests" "[[J" (.ref a26) := f408.keep K1142 (ninS ne50 nin0)
          have f1165 : Fld Z h1141 a5 "com/example/interlace/interlace/engine/Floors" "latest" "J" (.long i0) := f409.keep K1142 (ninS ne50 nin0)
          have f1166 : Exa Z h1141 a24 "[J" := f411.keep K1142
          have f1167 : Exa Z h1141 a25 "[Z" := f412.keep K1142
          have f1168 : Arj Z h1141 a24 [0, i2] := f1138.keep K1142 (ninS ne31 nin0)
          have f1169 : Ari Z h1141 a25 .boolean [0, (1 : Int32)] := f1139.keep K1142 (ninS ne32 nin0)
          have f1170 : Exa Z h1141 a136 "com/example/interlace/interlace/pattern/Structure$Leaf" := f415.keep K1142
          have f1171 : Fld Z h1141 a136 "com/example/interlace/interlace/pattern/Structure$Leaf" "variable" "I" (.int (0 : Int32)) := f416.keep K1142 (ninS (Ne.symm ne144) nin0)
          have f1172 : Exa Z h1141 a228 "com/example/interlace/interlace/pattern/Structure$Leaf" := f417.keep K1142
          have f1173 : Fld Z h1141 a228 "com/example/interlace/interlace/pattern/Structure$Leaf" "variable" "I" (.int (1 : Int32)) := f418.keep K1142 (ninS (Ne.symm ne236) nin0)
          have f1174 : Exa Z h1141 a191 "com/example/interlace/interlace/engine/Plan$Required" := f419.keep K1142
          have f1175 : Fld Z h1141 a191 "com/example/interlace/interlace/engine/Plan$Required" "operand" "Lcom/example/interlace/interlace/pattern/Structure;" (.ref a228) := f420.keep K1142 (ninS (Ne.symm ne199) nin0)
          have f1176 : Fld Z h1141 a191 "com/example/interlace/interlace/engine/Plan$Required" "rest" "Lcom/example/interlace/interlace/engine/Plan$Required;" (.null) := f421.keep K1142 (ninS (Ne.symm ne199) nin0)
          have f1177 : Exa Z h1141 a107 "com/example/interlace/interlace/engine/Plan$Required" := f422.keep K1142
          have f1178 : Fld Z h1141 a107 "com/example/interlace/interlace/engine/Plan$Required" "operand" "Lcom/example/interlace/interlace/pattern/Structure;" (.ref a136) := f423.keep K1142 (ninS (Ne.symm ne115) nin0)
          have f1179 : Fld Z h1141 a107 "com/example/interlace/interlace/engine/Plan$Required" "rest" "Lcom/example/interlace/interlace/engine/Plan$Required;" (.ref a191) := f424.keep K1142 (ninS (Ne.symm ne115) nin0)
          have f1180 : Exa Z h1141 a352 "com/example/interlace/interlace/engine/Plan$Bind" := f399.keep K1142
          have f1181 : Fld Z h1141 a352 "com/example/interlace/interlace/engine/Plan$Bind" "variable" "I" (.int (0 : Int32)) := f400.keep K1142 (ninS (Ne.symm ne360) nin0)
          have f1182 : Fld Z h1141 a352 "com/example/interlace/interlace/engine/Plan$Bind" "required" "Lcom/example/interlace/interlace/engine/Plan$Required;" (.ref a107) := f401.keep K1142 (ninS (Ne.symm ne360) nin0)
          have zs1183 : Z.heap.size ≤ h1141.size := Nat.le_trans zs425 K1142.1
          refine Go.astore 98 #[.val (.long i0), .second, .val (.int i1), .val (.long i2), .second, .val (.int i3), .val (.long i4), .second, .val (.int (1 : Int32)), .val (.int (1 : Int32)), .val (.ref a5), .val (.ref a107), .val (.ref a1143), .unset, .unset, .unset, .unset, .unset, .unset, .unset, .unset, .unset, .unset] at_96 rfl rfl rfl ?_
          refine Go.iconst 99 (0) at_98 (by decide) rfl ?_
          refine Go.istore 101 #[.val (.long i0), .second, .val (.int i1), .val (.long i2), .second, .val (.int i3), .val (.long i4), .second, .val (.int (1 : Int32)), .val (.int (1 : Int32)), .val (.ref a5), .val (.ref a107), .val (.ref a1143), .val (.int (0 : Int32)), .unset, .unset, .unset, .unset, .unset, .unset, .unset, .unset, .unset] at_99 rfl rfl ?_
          refine Go.iconst 102 (0) at_101 (by decide) rfl ?_
          refine Go.istore 104 #[.val (.long i0), .second, .val (.int i1), .val (.long i2), .second, .val (.int i3), .val (.long i4), .second, .val (.int (1 : Int32)), .val (.int (1 : Int32)), .val (.ref a5), .val (.ref a107), .val (.ref a1143), .val (.int (0 : Int32)), .val (.int (0 : Int32)), .unset, .unset, .unset, .unset, .unset, .unset, .unset, .unset] at_102 rfl rfl ?_
          refine Go.lconst 105 (0) at_104 (by decide) rfl ?_
          refine Go.lstore 107 #[.val (.long i0), .second, .val (.int i1), .val (.long i2), .second, .val (.int i3), .val (.long i4), .second, .val (.int (1 : Int32)), .val (.int (1 : Int32)), .val (.ref a5), .val (.ref a107), .val (.ref a1143), .val (.int (0 : Int32)), .val (.int (0 : Int32)), .val (.long (0 : Int64)), .second, .unset, .unset, .unset, .unset, .unset, .unset] at_105 rfl rfl ?_
          refine Go.lconst 108 (0) at_107 (by decide) rfl ?_
          refine Go.lstore 110 #[.val (.long i0), .second, .val (.int i1), .val (.long i2), .second, .val (.int i3), .val (.long i4), .second, .val (.int (1 : Int32)), .val (.int (1 : Int32)), .val (.ref a5), .val (.ref a107), .val (.ref a1143), .val (.int (0 : Int32)), .val (.int (0 : Int32)), .val (.long (0 : Int64)), .second, .val (.long (0 : Int64)), .second, .unset, .unset, .unset, .unset] at_108 rfl rfl ?_
          refine Go.lload_n 111 at_110 rfl rfl ?_
          refine Go.lload_n 112 at_111 rfl rfl ?_
          refine Go.lcmp 113 at_112 rfl ?_
          refine Go.lcmp_ge 136 116 at_113 (by decide) (by decide) rfl (fun c => absurd c1 c) (fun _ => ?_)
          refine Go.iload 118 at_116 rfl rfl ?_
          refine Go.if_ne 130 121 at_118 (by decide) (by decide) rfl (fun _ => ?_) (fun c => absurd c (by decide))
          refine Go.iconst 131 (1) at_130 (by decide) rfl ?_
          refine Go.istore 133 #[.val (.long i0), .second, .val (.int i1), .val (.long i2), .second, .val (.int i3), .val (.long i4), .second, .val (.int (1 : Int32)), .val (.int (1 : Int32)), .val (.ref a5), .val (.ref a107), .val (.ref a1143), .val (.int (0 : Int32)), .val (.int (1 : Int32)), .val (.long (0 : Int64)), .second, .val (.long (0 : Int64)), .second, .unset, .unset, .unset, .unset] at_131 rfl rfl ?_
          refine Go.lload_n 134 at_133 rfl rfl ?_
          refine Go.lstore 136 #[.val (.long i0), .second, .val (.int i1), .val (.long i2), .second, .val (.int i3), .val (.long i4), .second, .val (.int (1 : Int32)), .val (.int (1 : Int32)), .val (.ref a5), .val (.ref a107), .val (.ref a1143), .val (.int (0 : Int32)), .val (.int (1 : Int32)), .val (.long (0 : Int64)), .second, .val (.long i2), .second, .unset, .unset, .unset, .unset] at_134 rfl rfl ?_
          refine Go.lload 138 at_136 rfl rfl ?_
          refine Go.lload_n 139 at_138 rfl rfl ?_
          refine Go.lcmp 140 at_139 rfl ?_
          refine Go.lcmp_ge 165 143 at_140 (by decide) (by decide) rfl (fun _ => ?_) (fun c => absurd c c2)
          refine Go.iload 167 at_165 rfl rfl ?_
          refine Go.if_eq 226 170 at_167 (by decide) (by decide) rfl (fun _ => ?_) (fun c => absurd c (by decide))
          refine Go.iload 228 at_226 rfl rfl ?_
          refine Go.if_eq 254 231 at_228 (by decide) (by decide) rfl (fun _ => ?_) (fun c => absurd c (by decide))
          refine Go.iload 256 at_254 rfl rfl ?_
          refine Go.if_eq 282 259 at_256 (by decide) (by decide) rfl (fun c => absurd c (by decide)) (fun _ => ?_)
          refine Go.aload 261 at_259 rfl rfl rfl ?_
          refine Go.arraylengthJ (z := (1 : Int32)) 262 at_261 f1145 (by decide : Nat.toInt32 1 = (1 : Int32)) rfl ?_
          refine Go.iconst 263 (1) at_262 (by decide) rfl ?_
          refine Go.icmp_ne 280 266 at_263 (by decide) (by decide) rfl (fun c => absurd c (by decide)) (fun _ => ?_)
          refine Go.aload 268 at_266 rfl rfl rfl ?_
          refine Go.iconst 269 (0) at_268 (by decide) rfl ?_
          refine Go.laload (x := i2) (0) 270 at_269 f1145 (by decide) (by decide) rfl rfl ?_
          refine Go.lload 272 at_270 rfl rfl ?_
          refine Go.lcmp 273 at_272 rfl ?_
          refine Go.lcmp_ne 280 276 at_273 (by decide) (by decide) rfl (fun c1191 => ?_) (fun c1191 => ?_)
          ·
            refine Go.iconst 281 (0) at_280 (by decide) rfl ?_
            refine Go.nreturn (t := .boolean) (z' := (0 : Int32)) at_281 rfl (by simp) (by decide) (by decide) (by decide) ?_
            exact absurd (by first | rfl | exact own_mx _ _) c1191
          ·
            refine Go.iconst 277 (1) at_276 (by decide) rfl ?_
            refine Go.goto 281 at_277 (by decide) (by decide) ?_
            refine Go.nreturn (t := .boolean) (z' := (1 : Int32)) at_281 rfl (by simp) (by decide) (by decide) (by decide) ?_
            rfl
      ·
        rcases Decidable.em (i4 < i0) with c2 | c2
        ·
          have f1192 : Arj Z h397 a24 [0, i4] := by have q := f413; simp only [own_00, own_10, c1, c2, if_true, if_false] at q; exact q
          have f1193 : Ari Z h397 a25 .boolean [0, (1 : Int32)] := by have q := f414; simp only [own_00, own_10, c1, c2, if_true, if_false] at q; exact q
          refine Go.callVR [.ref a352] [] 96 at_93 (tw80 hw) (tw81 hw) (tw83 hw) (tw82 hw) (tw2 hw) (tw84 hw) f405 pl11 (by decide) (lenOf pd11 rfl) rfl (fun m => ef_k_ra01 m a5 a352) _ (k_ra01 hw h397 zs425 a5 a352 f405 f406 f407 f408 f1192 f1193 f410 f399 f400 f401 f422 f423 f424 f419 f420 f421 f415 f416 f417 f418 f402 f404 f403 ge51 ne50 ne31 ne32 (Ne.symm ne360) (Ne.symm ne115) (Ne.symm ne199) (Ne.symm ne144) (Ne.symm ne236) ne49) 0 rfl (Nat.le_of_eq rfl) (by decide) (by decide) (by decide) (by decide) rfl ?_
          rintro z1194 h1195 ⟨a1197, rfl, g1198, K1196, f1199, f1200⟩
          have ne1201 : r_NONE ≠ a1197 := Nat.ne_of_lt (Nat.lt_of_lt_of_le f403.lt g1198)
          have ne1202 : a5 ≠ a1197 := Nat.ne_of_lt (Nat.lt_of_lt_of_le f405.lt g1198)
          have ne1203 : a26 ≠ a1197 := Nat.ne_of_lt (Nat.lt_of_lt_of_le f410.lt g1198)
          have ne1204 : a24 ≠ a1197 := Nat.ne_of_lt (Nat.lt_of_lt_of_le f411.lt g1198)
          have ne1205 : a25 ≠ a1197 := Nat.ne_of_lt (Nat.lt_of_lt_of_le f412.lt g1198)
          have ne1206 : a136 ≠ a1197 := Nat.ne_of_lt (Nat.lt_of_lt_of_le f415.lt g1198)
          have ne1207 : a228 ≠ a1197 := Nat.ne_of_lt (Nat.lt_of_lt_of_le f417.lt g1198)
          have ne1208 : a191 ≠ a1197 := Nat.ne_of_lt (Nat.lt_of_lt_of_le f419.lt g1198)
          have ne1209 : a107 ≠ a1197 := Nat.ne_of_lt (Nat.lt_of_lt_of_le f422.lt g1198)
          have ne1210 : a352 ≠ a1197 := Nat.ne_of_lt (Nat.lt_of_lt_of_le f399.lt g1198)
          have ge1211 : Z.heap.size ≤ a1197 := Nat.le_trans zs425 g1198
          have f1212 : Sta Z h1195 "com/example/interlace/interlace/engine/Floors" "NONE" "[J" (.ref r_NONE) := own_staK f402 K1196 (allS (Arz.nostat f410) all0)
          have f1213 : Exa Z h1195 r_NONE "[J" := f403.keep K1196
          have f1214 : Arj Z h1195 r_NONE [] := f404.keep K1196 (ninS ne49 nin0)
          have f1215 : Exa Z h1195 a5 "com/example/interlace/interlace/engine/Floors" := f405.keep K1196
          have f1216 : Fld Z h1195 a5 "com/example/interlace/interlace/engine/Floors" "floors" "[J" (.ref a24) := f406.keep K1196 (ninS ne50 nin0)
          have f1217 : Fld Z h1195 a5 "com/example/interlace/interlace/engine/Floors" "hasFloor" "[Z" (.ref a25) := f407.keep K1196 (ninS ne50 nin0)
          have f1218 : Fld Z h1195 a5 "com/example/interlace/interlace/engine/Floors" "rests" "[[J" (.ref a26) := f408.keep K1196 (ninS ne50 nin0)
          have f1219 : Fld Z h1195 a5 "com/example/interlace/interlace/engine/Floors" "latest" "J" (.long i0) := f409.keep K1196 (ninS ne50 nin0)
          have f1220 : Exa Z h1195 a24 "[J" := f411.keep K1196
          have f1221 : Exa Z h1195 a25 "[Z" := f412.keep K1196
          have f1222 : Arj Z h1195 a24 [0, i4] := f1192.keep K1196 (ninS ne31 nin0)
          have f1223 : Ari Z h1195 a25 .boolean [0, (1 : Int32)] := f1193.keep K1196 (ninS ne32 nin0)
          have f1224 : Exa Z h1195 a136 "com/example/interlace/interlace/pattern/Structure$Leaf" := f415.keep K1196
          have f1225 : Fld Z h1195 a136 "com/example/interlace/interlace/pattern/Structure$Leaf" "variable" "I" (.int (0 : Int32)) := f416.keep K1196 (ninS (Ne.symm ne144) nin0)
          have f1226 : Exa Z h1195 a228 "com/example/interlace/interlace/pattern/Structure$Leaf" := f417.keep K1196
          have f1227 : Fld Z h1195 a228 "com/example/interlace/interlace/pattern/Structure$Leaf" "variable" "I" (.int (1 : Int32)) := f418.keep K1196 (ninS (Ne.symm ne236) nin0)
          have f1228 : Exa Z h1195 a191 "com/example/interlace/interlace/engine/Plan$Required" := f419.keep K1196
          have f1229 : Fld Z h1195 a191 "com/example/interlace/interlace/engine/Plan$Required" "operand" "Lcom/example/interlace/interlace/pattern/Structure;" (.ref a228) := f420.keep K1196 (ninS (Ne.symm ne199) nin0)
          have f1230 : Fld Z h1195 a191 "com/example/interlace/interlace/engine/Plan$Required" "rest" "Lcom/example/interlace/interlace/engine/Plan$Required;" (.null) := f421.keep K1196 (ninS (Ne.symm ne199) nin0)
          have f1231 : Exa Z h1195 a107 "com/example/interlace/interlace/engine/Plan$Required" := f422.keep K1196
          have f1232 : Fld Z h1195 a107 "com/example/interlace/interlace/engine/Plan$Required" "operand" "Lcom/example/interlace/interlace/pattern/Structure;" (.ref a136) := f423.keep K1196 (ninS (Ne.symm ne115) nin0)
          have f1233 : Fld Z h1195 a107 "com/example/interlace/interlace/engine/Plan$Required" "rest" "Lcom/example/interlace/interlace/engine/Plan$Required;" (.ref a191) := f424.keep K1196 (ninS (Ne.symm ne115) nin0)
          have f1234 : Exa Z h1195 a352 "com/example/interlace/interlace/engine/Plan$Bind" := f399.keep K1196
          have f1235 : Fld Z h1195 a352 "com/example/interlace/interlace/engine/Plan$Bind" "variable" "I" (.int (0 : Int32)) := f400.keep K1196 (ninS (Ne.symm ne360) nin0)
          have f1236 : Fld Z h1195 a352 "com/example/interlace/interlace/engine/Plan$Bind" "required" "Lcom/example/interlace/interlace/engine/Plan$Required;" (.ref a107) := f401.keep K1196 (ninS (Ne.symm ne360) nin0)
          have zs1237 : Z.heap.size ≤ h1195.size := Nat.le_trans zs425 K1196.1
          refine Go.astore 98 #[.val (.long i0), .second, .val (.int i1), .val (.long i2), .second, .val (.int i3), .val (.long i4), .second, .val (.int (1 : Int32)), .val (.int (1 : Int32)), .val (.ref a5), .val (.ref a107), .val (.ref a1197), .unset, .unset, .unset, .unset, .unset, .unset, .unset, .unset, .unset, .unset] at_96 rfl rfl rfl ?_
          refine Go.iconst 99 (0) at_98 (by decide) rfl ?_
          refine Go.istore 101 #[.val (.long i0), .second, .val (.int i1), .val (.long i2), .second, .val (.int i3), .val (.long i4), .second, .val (.int (1 : Int32)), .val (.int (1 : Int32)), .val (.ref a5), .val (.ref a107), .val (.ref a1197), .val (.int (0 : Int32)), .unset, .unset, .unset, .unset, .unset, .unset, .unset, .unset, .unset] at_99 rfl rfl ?_
          refine Go.iconst 102 (0) at_101 (by decide) rfl ?_
          refine Go.istore 104 #[.val (.long i0), .second, .val (.int i1), .val (.long i2), .second, .val (.int i3), .val (.long i4), .second, .val (.int (1 : Int32)), .val (.int (1 : Int32)), .val (.ref a5), .val (.ref a107), .val (.ref a1197), .val (.int (0 : Int32)), .val (.int (0 : Int32)), .unset, .unset, .unset, .unset, .unset, .unset, .unset, .unset] at_102 rfl rfl ?_
          refine Go.lconst 105 (0) at_104 (by decide) rfl ?_
          refine Go.lstore 107 #[.val (.long i0), .second, .val (.int i1), .val (.long i2), .second, .val (.int i3), .val (.long i4), .second, .val (.int (1 : Int32)), .val (.int (1 : Int32)), .val (.ref a5), .val (.ref a107), .val (.ref a1197), .val (.int (0 : Int32)), .val (.int (0 : Int32)), .val (.long (0 : Int64)), .second, .unset, .unset, .unset, .unset, .unset, .unset] at_105 rfl rfl ?_
          refine Go.lconst 108 (0) at_107 (by decide) rfl ?_
          refine Go.lstore 110 #[.val (.long i0), .second, .val (.int i1), .val (.long i2), .second, .val (.int i3), .val (.long i4), .second, .val (.int (1 : Int32)), .val (.int (1 : Int32)), .val (.ref a5), .val (.ref a107), .val (.ref a1197), .val (.int (0 : Int32)), .val (.int (0 : Int32)), .val (.long (0 : Int64)), .second, .val (.long (0 : Int64)), .second, .unset, .unset, .unset, .unset] at_108 rfl rfl ?_
          refine Go.lload_n 111 at_110 rfl rfl ?_
          refine Go.lload_n 112 at_111 rfl rfl ?_
          refine Go.lcmp 113 at_112 rfl ?_
          refine Go.lcmp_ge 136 116 at_113 (by decide) (by decide) rfl (fun _ => ?_) (fun c => absurd c c1)
          refine Go.lload 138 at_136 rfl rfl ?_
          refine Go.lload_n 139 at_138 rfl rfl ?_
          refine Go.lcmp 140 at_139 rfl ?_
          refine Go.lcmp_ge 165 143 at_140 (by decide) (by decide) rfl (fun c => absurd c2 c) (fun _ => ?_)
          refine Go.iload 145 at_143 rfl rfl ?_
          refine Go.if_ne 158 148 at_145 (by decide) (by decide) rfl (fun _ => ?_) (fun c => absurd c (by decide))
          refine Go.iconst 159 (1) at_158 (by decide) rfl ?_
          refine Go.istore 161 #[.val (.long i0), .second, .val (.int i1), .val (.long i2), .second, .val (.int i3), .val (.long i4), .second, .val (.int (1 : Int32)), .val (.int (1 : Int32)), .val (.ref a5), .val (.ref a107), .val (.ref a1197), .val (.int (0 : Int32)), .val (.int (1 : Int32)), .val (.long (0 : Int64)), .second, .val (.long (0 : Int64)), .second, .unset, .unset, .unset, .unset] at_159 rfl rfl ?_
          refine Go.lload 163 at_161 rfl rfl ?_
          refine Go.lstore 165 #[.val (.long i0), .second, .val (.int i1), .val (.long i2), .second, .val (.int i3), .val (.long i4), .second, .val (.int (1 : Int32)), .val (.int (1 : Int32)), .val (.ref a5), .val (.ref a107), .val (.ref a1197), .val (.int (0 : Int32)), .val (.int (1 : Int32)), .val (.long (0 : Int64)), .second, .val (.long i4), .second, .unset, .unset, .unset, .unset] at_163 rfl rfl ?_
          refine Go.iload 167 at_165 rfl rfl ?_
          refine Go.if_eq 226 170 at_167 (by decide) (by decide) rfl (fun _ => ?_) (fun c => absurd c (by decide))
          refine Go.iload 228 at_226 rfl rfl ?_
          refine Go.if_eq 254 231 at_228 (by decide) (by decide) rfl (fun _ => ?_) (fun c => absurd c (by decide))
          refine Go.iload 256 at_254 rfl rfl ?_
          refine Go.if_eq 282 259 at_256 (by decide) (by decide) rfl (fun c => absurd c (by decide)) (fun _ => ?_)
          refine Go.aload 261 at_259 rfl rfl rfl ?_
          refine Go.arraylengthJ (z := (1 : Int32)) 262 at_261 f1199 (by decide : Nat.toInt32 1 = (1 : Int32)) rfl ?_
          refine Go.iconst 263 (1) at_262 (by decide) rfl ?_
          refine Go.icmp_ne 280 266 at_263 (by decide) (by decide) rfl (fun c => absurd c (by decide)) (fun _ => ?_)
          refine Go.aload 268 at_266 rfl rfl rfl ?_
          refine Go.iconst 269 (0) at_268 (by decide) rfl ?_
          refine Go.laload (x := i4) (0) 270 at_269 f1199 (by decide) (by decide) rfl rfl ?_
          refine Go.lload 272 at_270 rfl rfl ?_
          refine Go.lcmp 273 at_272 rfl ?_
          refine Go.lcmp_ne 280 276 at_273 (by decide) (by decide) rfl (fun c1245 => ?_) (fun c1245 => ?_)
          ·
            refine Go.iconst 281 (0) at_280 (by decide) rfl ?_
            refine Go.nreturn (t := .boolean) (z' := (0 : Int32)) at_281 rfl (by simp) (by decide) (by decide) (by decide) ?_
            exact absurd (by first | rfl | exact own_mx _ _) c1245
          ·
            refine Go.iconst 277 (1) at_276 (by decide) rfl ?_
            refine Go.goto 281 at_277 (by decide) (by decide) ?_
            refine Go.nreturn (t := .boolean) (z' := (1 : Int32)) at_281 rfl (by simp) (by decide) (by decide) (by decide) ?_
            rfl
        ·
          have f1246 : Arj Z h397 a24 [0, 0] := by have q := f413; simp only [own_00, own_10, c1, c2, if_true, if_false] at q; exact q
          have f1247 : Ari Z h397 a25 .boolean [0, 0] := by have q := f414; simp only [own_00, own_10, c1, c2, if_true, if_false] at q; exact q
          refine Go.callVR [.ref a352] [] 96 at_93 (tw80 hw) (tw81 hw) (tw83 hw) (tw82 hw) (tw2 hw) (tw84 hw) f405 pl11 (by decide) (lenOf pd11 rfl) rfl (fun m => ef_k_ra00 m a5 a352) _ (k_ra00 hw h397 zs425 a5 a352 f405 f406 f407 f408 f1246 f1247 f410 f399 f400 f401 f422 f423 f424 f419 f420 f421 f415 f416 f417 f418 f402 f404 f403 ge51 ne50 ne31 ne32 (Ne.symm ne360) (Ne.symm ne115) (Ne.symm ne199) (Ne.symm ne144) (Ne.symm ne236) ne49) 0 rfl (Nat.le_of_eq rfl) (by decide) (by decide) (by decide) (by decide) rfl ?_
          rintro z1248 h1249 ⟨a1251, rfl, g1252, K1250, f1253, f1254⟩
          have ne1255 : r_NONE ≠ a1251 := Nat.ne_of_lt (Nat.lt_of_lt_of_le f403.lt g1252)
          have ne1256 : a5 ≠ a1251 := Nat.ne_of_lt (Nat.lt_of_lt_of_le f405.lt g1252)
          have ne1257 : a26 ≠ a1251 := Nat.ne_of_lt (Nat.lt_of_lt_of_le f410.lt g1252)
          have ne1258 : a24 ≠ a1251 := Nat.ne_of_lt (Nat.lt_of_lt_of_le f411.lt g1252)
          have ne1259 : a25 ≠ a1251 := Nat.ne_of_lt (Nat.lt_of_lt_of_le f412.lt g1252)
          have ne1260 : a136 ≠ a1251 := Nat.ne_of_lt (Nat.lt_of_lt_of_le f415.lt g1252)
          have ne1261 : a228 ≠ a1251 := Nat.ne_of_lt (Nat.lt_of_lt_of_le f417.lt g1252)
          have ne1262 : a191 ≠ a1251 := Nat.ne_of_lt (Nat.lt_of_lt_of_le f419.lt g1252)
          have ne1263 : a107 ≠ a1251 := Nat.ne_of_lt (Nat.lt_of_lt_of_le f422.lt g1252)
          have ne1264 : a352 ≠ a1251 := Nat.ne_of_lt (Nat.lt_of_lt_of_le f399.lt g1252)
          have ge1265 : Z.heap.size ≤ a1251 := Nat.le_trans zs425 g1252
          have f1266 : Sta Z h1249 "com/example/interlace/interlace/engine/Floors" "NONE" "[J" (.ref r_NONE) := own_staK f402 K1250 (allS (Arz.nostat f410) all0)
          have f1267 : Exa Z h1249 r_NONE "[J" := f403.keep K1250
          have f1268 : Arj Z h1249 r_NONE [] := f404.keep K1250 (ninS ne49 nin0)
          have f1269 : Exa Z h1249 a5 "com/example/interlace/interlace/engine/Floors" := f405.keep K1250
          have f1270 : Fld Z h1249 a5 "com/example/interlace/interlace/engine/Floors" "floors" "[J" (.ref a24) := f406.keep K1250 (ninS ne50 nin0)
          have f1271 : Fld Z h1249 a5 "com/example/interlace/interlace/engine/Floors" "hasFloor" "[Z" (.ref a25) := f407.keep K1250 (ninS ne50 nin0)
          have f1272 : Fld Z h1249 a5 "com/example/interlace/interlace/engine/Floors" "rests" "[[J" (.ref a26) := f408.keep K1250 (ninS ne50 nin0)
          have f1273 : Fld Z h1249 a5 "com/example/interlace/interlace/engine/Floors" "latest" "J" (.long i0) := f409.keep K1250 (ninS ne50 nin0)
          have f1274 : Exa Z h1249 a24 "[J" := f411.keep K1250
          have f1275 : Exa Z h1249 a25 "[Z" := f412.keep K1250
          have f1276 : Arj Z h1249 a24 [0, 0] := f1246.keep K1250 (ninS ne31 nin0)
          have f1277 : Ari Z h1249 a25 .boolean [0, 0] := f1247.keep K1250 (ninS ne32 nin0)
          have f1278 : Exa Z h1249 a136 "com/example/interlace/interlace/pattern/Structure$Leaf" := f415.keep K1250
          have f1279 : Fld Z h1249 a136 "com/example/interlace/interlace/pattern/Structure$Leaf" "variable" "I" (.int (0 : Int32)) := f416.keep K1250 (ninS (Ne.symm ne144) nin0)
          have f1280 : Exa Z h1249 a228 "com/example/interlace/interlace/pattern/Structure$Leaf" := f417.keep K1250
          have f1281 : Fld Z h1249 a228 "com/example/interlace/interlace/pattern/Structure$Leaf" "variable" "I" (.int (1 : Int32)) := f418.keep K1250 (ninS (Ne.symm ne236) nin0)
          have f1282 : Exa Z h1249 a191 "com/example/interlace/interlace/engine/Plan$Required" := f419.keep K1250
          have f1283 : Fld Z h1249 a191 "com/example/interlace/interlace/engine/Plan$Required" "operand" "Lcom/example/interlace/interlace/pattern/Structure;" (.ref a228) := f420.keep K1250 (ninS (Ne.symm ne199) nin0)
          have f1284 : Fld Z h1249 a191 "com/example/interlace/interlace/engine/Plan$Required" "rest" "Lcom/example/interlace/interlace/engine/Plan$Required;" (.null) := f421.keep K1250 (ninS (Ne.symm ne199) nin0)
          have f1285 : Exa Z h1249 a107 "com/example/interlace/interlace/engine/Plan$Required" := f422.keep K1250
          have f1286 : Fld Z h1249 a107 "com/example/interlace/interlace/engine/Plan$Required" "operand" "Lcom/example/interlace/interlace/pattern/Structure;" (.ref a136) := f423.keep K1250 (ninS (Ne.symm ne115) nin0)
          have f1287 : Fld Z h1249 a107 "com/example/interlace/interlace/engine/Plan$Required" "rest" "Lcom/example/interlace/interlace/engine/Plan$Required;" (.ref a191) := f424.keep K1250 (ninS (Ne.symm ne115) nin0)
          have f1288 : Exa Z h1249 a352 "com/example/interlace/interlace/engine/Plan$Bind" := f399.keep K1250
          have f1289 : Fld Z h1249 a352 "com/example/interlace/interlace/engine/Plan$Bind" "variable" "I" (.int (0 : Int32)) := f400.keep K1250 (ninS (Ne.symm ne360) nin0)
          have f1290 : Fld Z h1249 a352 "com/example/interlace/interlace/engine/Plan$Bind" "required" "Lcom/example/interlace/interlace/engine/Plan$Required;" (.ref a107) := f401.keep K1250 (ninS (Ne.symm ne360) nin0)
          have zs1291 : Z.heap.size ≤ h1249.size := Nat.le_trans zs425 K1250.1
          refine Go.astore 98 #[.val (.long i0), .second, .val (.int i1), .val (.long i2), .second, .val (.int i3), .val (.long i4), .second, .val (.int (1 : Int32)), .val (.int (1 : Int32)), .val (.ref a5), .val (.ref a107), .val (.ref a1251), .unset, .unset, .unset, .unset, .unset, .unset, .unset, .unset, .unset, .unset] at_96 rfl rfl rfl ?_
          refine Go.iconst 99 (0) at_98 (by decide) rfl ?_
          refine Go.istore 101 #[.val (.long i0), .second, .val (.int i1), .val (.long i2), .second, .val (.int i3), .val (.long i4), .second, .val (.int (1 : Int32)), .val (.int (1 : Int32)), .val (.ref a5), .val (.ref a107), .val (.ref a1251), .val (.int (0 : Int32)), .unset, .unset, .unset, .unset, .unset, .unset, .unset, .unset, .unset] at_99 rfl rfl ?_
          refine Go.iconst 102 (0) at_101 (by decide) rfl ?_
          refine Go.istore 104 #[.val (.long i0), .second, .val (.int i1), .val (.long i2), .second, .val (.int i3), .val (.long i4), .second, .val (.int (1 : Int32)), .val (.int (1 : Int32)), .val (.ref a5), .val (.ref a107), .val (.ref a1251), .val (.int (0 : Int32)), .val (.int (0 : Int32)), .unset, .unset, .unset, .unset, .unset, .unset, .unset, .unset] at_102 rfl rfl ?_
          refine Go.lconst 105 (0) at_104 (by decide) rfl ?_
          refine Go.lstore 107 #[.val (.long i0), .second, .val (.int i1), .val (.long i2), .second, .val (.int i3), .val (.long i4), .second, .val (.int (1 : Int32)), .val (.int (1 : Int32)), .val (.ref a5), .val (.ref a107), .val (.ref a1251), .val (.int (0 : Int32)), .val (.int (0 : Int32)), .val (.long (0 : Int64)), .second, .unset, .unset, .unset, .unset, .unset, .unset] at_105 rfl rfl ?_
          refine Go.lconst 108 (0) at_107 (by decide) rfl ?_
          refine Go.lstore 110 #[.val (.long i0), .second, .val (.int i1), .val (.long i2), .second, .val (.int i3), .val (.long i4), .second, .val (.int (1 : Int32)), .val (.int (1 : Int32)), .val (.ref a5), .val (.ref a107), .val (.ref a1251), .val (.int (0 : Int32)), .val (.int (0 : Int32)), .val (.long (0 : Int64)), .second, .val (.long (0 : Int64)), .second, .unset, .unset, .unset, .unset] at_108 rfl rfl ?_
          refine Go.lload_n 111 at_110 rfl rfl ?_
          refine Go.lload_n 112 at_111 rfl rfl ?_
          refine Go.lcmp 113 at_112 rfl ?_
          refine Go.lcmp_ge 136 116 at_113 (by decide) (by decide) rfl (fun _ => ?_) (fun c => absurd c c1)
          refine Go.lload 138 at_136 rfl rfl ?_
          refine Go.lload_n 139 at_138 rfl rfl ?_
          refine Go.lcmp 140 at_139 rfl ?_
          refine Go.lcmp_ge 165 143 at_140 (by decide) (by decide) rfl (fun _ => ?_) (fun c => absurd c c2)
          refine Go.iload 167 at_165 rfl rfl ?_
          refine Go.if_eq 226 170 at_167 (by decide) (by decide) rfl (fun _ => ?_) (fun c => absurd c (by decide))
          refine Go.iload 228 at_226 rfl rfl ?_
          refine Go.if_eq 254 231 at_228 (by decide) (by decide) rfl (fun _ => ?_) (fun c => absurd c (by decide))
          refine Go.iload 256 at_254 rfl rfl ?_
          refine Go.if_eq 282 259 at_256 (by decide) (by decide) rfl (fun _ => ?_) (fun c => absurd c (by decide))
          refine Go.aload 284 at_282 rfl rfl rfl ?_
          refine Go.arraylengthJ (z := (0 : Int32)) 285 at_284 f1253 (by decide : Nat.toInt32 0 = (0 : Int32)) rfl ?_
          refine Go.if_ne 292 288 at_285 (by decide) (by decide) rfl (fun c => absurd c (by decide)) (fun _ => ?_)
          refine Go.iconst 289 (1) at_288 (by decide) rfl ?_
          refine Go.goto 293 at_289 (by decide) (by decide) ?_
          refine Go.nreturn (t := .boolean) (z' := (1 : Int32)) at_293 rfl (by simp) (by decide) (by decide) (by decide) ?_
          rfl
set_option maxRecDepth 65536 in
set_option maxHeartbeats 40000000 in
theorem comes_1 {Post : Tables → Env → Array Value → State → Outcome → State → Prop} (hpost : ∀ tb e args s v u, (limb_1_1.after args s (.returned v) u = true ∧ limb_1_2.after args s (.returned v) u = true ∧ True) → FrameEnd s (.returned v) u (Jvm.fieldLocs frame_1_writes args s ++ Jvm.arrayLocs frame_1_arrays args s ++ Jvm.staticLocs frame_1_statics s) 48 256 → Post tb e args s (.returned v) u) :
    ArmFor flags0 classFile x code maxLocals ret World_1 tables_1 room_1 Calls_1 rest_1 Pre_1 Post := by
  intro l hfl _ _ p e ha hc hk s m args below hf hA hF happ hP
  obtain ⟨hcalls, hrest, hpre⟩ := hP
  obtain ⟨-, -, -, hnamed, -, -, -, hat⟩ := (Spec.applies_iff hf).mp happ
  obtain ⟨hg, hn⟩ := and_e (Cond.before_iff.mp (show (Jvm.Cond.and given_1 narrow_1).before args s = true from hpre))
  obtain ⟨h1, g0⟩ := and_e hg
  obtain ⟨w0, w1, w2, w3, w4, rfl⟩ : ∃ w0 w1 w2 w3 w4 : Value, args = #[w0, w1, w2, w3, w4] := by
    have hs : args.size = 5 := by simpa [Cond.value, given_1] using h1
    obtain ⟨L⟩ := args
    match L, hs with
    | [w0, w1, w2, w3, w4], _ => exact ⟨w0, w1, w2, w3, w4, rfl⟩
  have hw := fun d (hd : d ∈ tables_1) => atoms_spec (ws := Jvm.Cond.code x code maxLocals ret :: tables_1) hat d (List.mem_cons_of_mem _ hd)
  obtain ⟨b0, g1⟩ := and_e g0
  obtain ⟨i0, ei0⟩ := isL_v b0
  obtain rfl : w0 = (.long i0) := Option.some.inj ei0
  obtain ⟨b1, g2⟩ := and_e g1
  obtain ⟨i1, ei1⟩ := is_v b1
  obtain rfl : w1 = (.int i1) := Option.some.inj ei1
  obtain ⟨b2, g3⟩ := and_e g2
  obtain ⟨i2, ei2⟩ := isL_v b2
  obtain rfl : w2 = (.long i2) := Option.some.inj ei2
  obtain ⟨b3, g4⟩ := and_e g3
  obtain ⟨i3, ei3⟩ := is_v b3
  obtain rfl : w3 = (.int i3) := Option.some.inj ei3
  have b4 := g4
  obtain ⟨i4, ei4⟩ := isL_v b4
  obtain rfl : w4 = (.long i4) := Option.some.inj ei4
  obtain ⟨na0, hn0⟩ := and_e hn
  obtain ⟨na1, hn1⟩ := and_e hn0
  have na2 := hn1
  -- atom 0 not taken
  obtain ⟨r_NONE, ev_r_NONE⟩ := exa_v na1
  -- atom 2 not taken
  have arjN := own_none ev_r_NONE na0 na2
  have G := law0 (l := l) hw s.heap (Nat.le_refl _) i0 i1 i2 i3 i4 (Sta.start ev_r_NONE (Or.inr ⟨(tw2 hw), (tw91 hw)⟩)) (Exa.start ev_r_NONE na1) arjN
  obtain ⟨n, o, h1, h2, h3, _, L, rfl, ⟨⟨z, rfl, rfl⟩, N⟩, hq⟩ := Go.met (as' := #[.long i0, .int i1, .long i2, .int i3, .long i4]) (plainFor_of_name pnx) (fun m => ef_law0 m i0 i1 i2 i3 i4) G tables_1 p e ha hc hk s m _ below hf ((Spec.applies_iff_loose hf).mp happ).1 ⟨rfl, State.Warmed39.refl s, rfl⟩ trivial
  refine ⟨n, _, h1, h2, h3, hpost _ _ _ _ _ _ ⟨Cond.after_iff.mpr rfl, Cond.after_iff.mpr (eq_i res_at (Term.int_eval (1)) rfl), trivial⟩ ⟨hq.1, hq.2.1, (hq.2.2.sift fun y hy => Or.inr (N y hy)).mono (by decide) (by decide)⟩⟩
theorem main_1_1 : Claimed_1_1 := comes_1 fun _ _ _ _ _ _ h hF => ⟨h.1, hF⟩
theorem main_1_2 : Claimed_1_2 := comes_1 fun _ _ _ _ _ _ h hF => ⟨h.2.1, hF⟩
end Jvm.Pilot.@@N@@
namespace Jvm.Pilot.@@N@@
open Jvm Jvm.ClassFile Sem Op Lib Jvm.Free Jvm.Stand Jvm.Pilot.@@N@@.Jvm.D
/-! MADE BY PROGRAM (witnessworld.py) out of the Statement's table words and the real class files: 31 classes; the members and pool entries that the words name. The judged class is class 1, her method 1. -/
namespace start1
open Jvm.ClassFile
def u (s : String) : CpInfo := .utf8 (stringToUtf16 s)
/-- a pool by its gaps: so many unusable entries, then the entry; so many at the end -/
def gap : Nat → List CpInfo → List CpInfo
  | 0, r => r
  | n + 1, r => .unusable :: gap n r
def poolList (es : List (Nat × CpInfo)) (last : Nat) : List CpInfo := es.foldr (fun e r => gap e.1 (e.2 :: r)) (gap last [])
def pool (es : List (Nat × CpInfo)) (last : Nat) : Array CpInfo := ⟨poolList es last⟩
def fileOf (pool : Array CpInfo) (this : Nat) (attrs : Array Attribute := #[]) (ms : Array MethodInfo := #[]) (fl : Nat := 33) (sup : Nat := 0) (ifs : Array Nat := #[]) (fds : Array FieldInfo := #[]) : ClassFile where
  minorVersion := 0
  majorVersion := 65
  constantPool := pool
  accessFlags := fl
  thisClass := this
  superClass := sup
  interfaces := ifs
  fields := fds
  methods := ms
  attributes := attrs
def plain (name : String) (sup : Option ClassId) : Class where
  name := name
  kind := .ordinary
  loader := none
  accessFlags := 33
  super := sup
  interfaces := #[]
  cf := none
  fields := #[]
  methods := #[]
  instanceTypes := #[]
  staticTypes := #[]
  resolved := #[]
  callSites := []
  init := .initialized
  statics := none
  mirror := none

def pool0 : Array CpInfo := pool [(5, u "<init>"), (0, u "()V"), (1, .class_ 10), (1, u "java/lang/Object"), (85, u "clone"), (0, u "()Ljava/lang/Object;")] 26

def k0c0 : Code := { maxStack := 0, maxLocals := 1, code := object_method_1_code, exceptionTable := #[], attributes := #[] }
def k0m0 : Method := { name := "<init>", desc := "()V", sig := { parameters := [], returnType := none }, accessFlags := 1, code := some k0c0 }
def k0m1 : Method := { name := "clone", desc := "()Ljava/lang/Object;", sig := { parameters := [], returnType := some (.object "java/lang/Object") }, accessFlags := 260, code := none }
/-- java/lang/Object -/
def k0 : Class := { plain "java/lang/Object" none with
  accessFlags := 33
  interfaces := #[]
  cf := some (fileOf pool0 8 #[] #[{ accessFlags := 1, nameIndex := 5, descriptorIndex := 6, attributes := #[] }, { accessFlags := 260, nameIndex := 96, descriptorIndex := 97, attributes := #[] }] 33 0 #[] #[])
  fields := #[]
  methods := #[k0m0, k0m1]
  instanceTypes := #[]
  staticTypes := #[]
  resolved := Array.replicate 124 none
  statics := none }

def pool1 : Array CpInfo := pool [(2, .class_ 4), (1, u "java/lang/Object"), (0, u "<init>"), (0, u "()V"), (0, .class_ 8), (0, u "com/example/interlace/interlace/engine/Floors"), (0, .methodref 7 10), (0, .nameAndType 5 11), (0, u "(I)V"), (0, .methodref 7 13), (0, .nameAndType 14 15), (0, u "clear"), (0, u "(J)V"), (0, .methodref 7 17), (0, .nameAndType 18 19), (0, u "set"), (0, u "(IJ)V"), (0, .class_ 21), (0, u "com/example/interlace/interlace/engine/Plan$Required"), (0, .class_ 23), (0, u "com/example/interlace/interlace/pattern/Structure$Leaf"), (0, .methodref 22 10), (0, .methodref 20 26), (0, .nameAndType 5 27), (0, u "(Lcom/example/interlace/interlace/pattern/Structure;ZLcom/example/interlace/interlace/engine/Plan$Required;)V"), (0, .class_ 29), (0, u "com/example/interlace/interlace/engine/Plan$Bind"), (0, .methodref 28 31), (0, .nameAndType 5 32), (0, u "(I[Lcom/example/interlace/interlace/engine/Plan$Absent;Lcom/example/interlace/interlace/engine/Plan$Required;Lcom/example/interlace/interlace/engine/Plan$Step;)V"), (0, .methodref 7 34), (0, .nameAndType 35 36), (0, u "restAfter"), (0, u "(Lcom/example/interlace/interlace/engine/Plan$Bind;)[J"), (0, .methodref 38 39), (0, .class_ 40), (0, .nameAndType 41 42), (0, u "java/lang/Math"), (0, u "min"), (0, u "(JJ)J"), (0, .methodref 38 44), (0, .nameAndType 45 42), (0, u "max"), (0, .class_ 47), (0, u "com/example/interlace/interlace/engine/FloorsSetPinLaw"), (2, u "law"), (0, u "(JIJIJ)Z")] 19

def k1m0 : Method := { name := "<init>", desc := "()V", sig := { parameters := [], returnType := none }, accessFlags := 1, code := none }
def k1c1 : Code := { maxStack := 9, maxLocals := 23, code := code, exceptionTable := #[], attributes := #[] }
def k1m1 : Method := { name := "law", desc := "(JIJIJ)Z", sig := { parameters := [.long, .int, .long, .int, .long], returnType := some .boolean }, accessFlags := 9, code := some k1c1 }
/-- com/example/interlace/interlace/engine/FloorsSetPinLaw -/
def k1 : Class := { plain "com/example/interlace/interlace/engine/FloorsSetPinLaw" (some 0) with
  accessFlags := 49
  interfaces := #[]
  cf := some (fileOf pool1 46 #[] #[{ accessFlags := 1, nameIndex := 5, descriptorIndex := 6, attributes := #[] }, { accessFlags := 9, nameIndex := 50, descriptorIndex := 51, attributes := #[] }] 49 2 #[] #[])
  fields := #[]
  methods := #[k1m0, k1m1]
  instanceTypes := #[]
  staticTypes := #[]
  resolved := Array.replicate 71 none
  statics := none }

def pool2 : Array CpInfo := pool [(1, .methodref 2 3), (0, .class_ 4), (0, .nameAndType 5 6), (0, u "java/lang/Object"), (0, u "<init>"), (0, u "()V"), (0, .fieldref 8 9), (0, .class_ 10), (0, .nameAndType 11 12), (0, u "com/example/interlace/interlace/engine/Floors"), (0, u "floors"), (0, u "[J"), (0, .fieldref 8 14), (0, .nameAndType 15 16), (0, u "hasFloor"), (0, u "[Z"), (0, .class_ 12), (0, .fieldref 8 19), (0, .nameAndType 20 21), (0, u "rests"), (0, u "[[J"), (0, .fieldref 8 23), (0, .nameAndType 24 25), (0, u "latest"), (0, u "J"), (0, .methodref 27 28), (0, .class_ 29), (0, .nameAndType 30 31), (0, u "java/util/Arrays"), (0, u "fill"), (0, u "([ZZ)V"), (0, .methodref 27 33), (0, .nameAndType 30 34), (0, u "([Ljava/lang/Object;Ljava/lang/Object;)V"), (0, .methodref 36 37), (0, .class_ 38), (0, .nameAndType 39 40), (0, u "com/example/interlace/interlace/engine/Plan$Bind"), (0, u "variable"), (0, u "()I"), (0, .fieldref 8 42), (0, .nameAndType 43 12), (0, u "NONE"), (0, .methodref 36 45), (0, .nameAndType 46 47), (0, u "required"), (0, u "()Lcom/example/interlace/interlace/engine/Plan$Required;"), (0, .methodref 49 50), (0, .class_ 51), (0, .nameAndType 52 53), (0, u "com/example/interlace/interlace/engine/Plan$Required"), (0, u "operand"), (0, u "()Lcom/example/interlace/interlace/pattern/Structure;"), (0, .methodref 8 55), (0, .nameAndType 56 57), (0, u "least"), (0, u "(Lcom/example/interlace/interlace/pattern/Structure;)[J"), (0, .methodref 8 59), (0, .nameAndType 60 61), (0, u "merged"), (0, u "([J[J)[J"), (0, .methodref 49 63), (0, .nameAndType 64 47), (0, u "rest"), (0, .class_ 66), (0, u "java/util/ArrayDeque"), (0, .methodref 65 3), (0, .methodref 8 69), (0, .nameAndType 70 71), (0, u "enter"), (0, u "(Lcom/example/interlace/interlace/pattern/Structure;Ljava/util/Deque;)[J"), (0, .interfaceMethodref 73 74), (0, .class_ 75), (0, .nameAndType 76 77), (0, u "java/util/Deque"), (0, u "isEmpty"), (0, u "()Z"), (4, .class_ 83), (0, u "com/example/interlace/interlace/engine/Floors$Adding"), (3, u "([J)V"), (10, .class_ 99), (0, u "com/example/interlace/interlace/pattern/Structure$Leaf"), (0, .methodref 98 37), (9, .methodref 27 111), (0, .nameAndType 112 113), (0, u "copyOf"), (0, u "([JI)[J"), (0, .methodref 115 116), (0, .class_ 117), (0, .nameAndType 118 119), (0, u "java/lang/System"), (0, u "arraycopy"), (0, u "(Ljava/lang/Object;ILjava/lang/Object;II)V"), (0, .methodref 27 121), (0, .nameAndType 122 87), (0, u "sort"), (10, u "(I)V"), (2, u "clear"), (0, u "(J)V"), (0, u "set"), (0, u "(IJ)V"), (1, u "restAfter"), (0, u "(Lcom/example/interlace/interlace/engine/Plan$Bind;)[J")] 17

def k2c0 : Code := { maxStack := 2, maxLocals := 2, code := prog_34_method_1_code, exceptionTable := #[], attributes := #[] }
def k2m0 : Method := { name := "<init>", desc := "(I)V", sig := { parameters := [.int], returnType := none }, accessFlags := 0, code := some k2c0 }
def k2c1 : Code := { maxStack := 3, maxLocals := 3, code := prog_34_method_2_code, exceptionTable := #[], attributes := #[] }
def k2m1 : Method := { name := "clear", desc := "(J)V", sig := { parameters := [.long], returnType := none }, accessFlags := 0, code := some k2c1 }
def k2c2 : Code := { maxStack := 4, maxLocals := 4, code := prog_34_method_3_code, exceptionTable := #[], attributes := #[] }
def k2m2 : Method := { name := "set", desc := "(IJ)V", sig := { parameters := [.int, .long], returnType := none }, accessFlags := 0, code := some k2c2 }
def k2c3 : Code := { maxStack := 3, maxLocals := 4, code := prog_34_method_4_code, exceptionTable := #[], attributes := #[] }
def k2m3 : Method := { name := "restAfter", desc := "(Lcom/example/interlace/interlace/engine/Plan$Bind;)[J", sig := { parameters := [(.object "com/example/interlace/interlace/engine/Plan$Bind")], returnType := some (.array .long) }, accessFlags := 0, code := some k2c3 }
def k2c4 : Code := { maxStack := 3, maxLocals := 6, code := prog_34_method_5_code, exceptionTable := #[], attributes := #[] }
def k2m4 : Method := { name := "least", desc := "(Lcom/example/interlace/interlace/pattern/Structure;)[J", sig := { parameters := [(.object "com/example/interlace/interlace/pattern/Structure")], returnType := some (.array .long) }, accessFlags := 2, code := some k2c4 }
def k2c5 : Code := { maxStack := 5, maxLocals := 6, code := prog_34_method_6_code, exceptionTable := #[], attributes := #[] }
def k2m5 : Method := { name := "enter", desc := "(Lcom/example/interlace/interlace/pattern/Structure;Ljava/util/Deque;)[J", sig := { parameters := [(.object "com/example/interlace/interlace/pattern/Structure"), (.object "java/util/Deque")], returnType := some (.array .long) }, accessFlags := 2, code := some k2c5 }
def k2c6 : Code := { maxStack := 5, maxLocals := 3, code := prog_34_method_7_code, exceptionTable := #[], attributes := #[] }
def k2m6 : Method := { name := "merged", desc := "([J[J)[J", sig := { parameters := [(.array .long), (.array .long)], returnType := some (.array .long) }, accessFlags := 10, code := some k2c6 }
/-- com/example/interlace/interlace/engine/Floors -/
def k2 : Class := { plain "com/example/interlace/interlace/engine/Floors" (some 0) with
  accessFlags := 48
  interfaces := #[]
  cf := some (fileOf pool2 8 #[.nestMembers #[82]] #[{ accessFlags := 0, nameIndex := 5, descriptorIndex := 133, attributes := #[] }, { accessFlags := 0, nameIndex := 136, descriptorIndex := 137, attributes := #[] }, { accessFlags := 0, nameIndex := 138, descriptorIndex := 139, attributes := #[] }, { accessFlags := 0, nameIndex := 141, descriptorIndex := 142, attributes := #[] }, { accessFlags := 2, nameIndex := 56, descriptorIndex := 57, attributes := #[] }, { accessFlags := 2, nameIndex := 70, descriptorIndex := 71, attributes := #[] }, { accessFlags := 10, nameIndex := 60, descriptorIndex := 61, attributes := #[] }] 48 2 #[] #[{ accessFlags := 26, nameIndex := 43, descriptorIndex := 12, attributes := #[] }, { accessFlags := 18, nameIndex := 11, descriptorIndex := 12, attributes := #[] }, { accessFlags := 18, nameIndex := 15, descriptorIndex := 16, attributes := #[] }, { accessFlags := 18, nameIndex := 20, descriptorIndex := 21, attributes := #[] }, { accessFlags := 2, nameIndex := 24, descriptorIndex := 25, attributes := #[] }])
  fields := #[{ name := "NONE", type := (.array .long), accessFlags := 26, slot := 0, constantValue := 0 }, { name := "floors", type := (.array .long), accessFlags := 18, slot := 0, constantValue := 0 }, { name := "hasFloor", type := (.array .boolean), accessFlags := 18, slot := 1, constantValue := 0 }, { name := "rests", type := (.array (.array .long)), accessFlags := 18, slot := 2, constantValue := 0 }, { name := "latest", type := .long, accessFlags := 2, slot := 3, constantValue := 0 }]
  methods := #[k2m0, k2m1, k2m2, k2m3, k2m4, k2m5, k2m6]
  instanceTypes := #[(.array .long), (.array .boolean), (.array (.array .long)), .long]
  staticTypes := #[(.array .long)]
  resolved := Array.replicate 160 none
  statics := some 0 }

def pool3 : Array CpInfo := pool [(2, .class_ 4), (1, u "java/lang/Object"), (0, u "<init>"), (0, u "()V"), (1, .class_ 10), (1, u "java/util/DualPivotQuicksort"), (0, u "sort"), (2, .class_ 16), (1, u "java/util/Arrays"), (2, .methodref 8 20), (0, .nameAndType 11 21), (0, u "([JIII)V"), (52, .class_ 76), (1, u "java/util/Arrays$NaturalOrder"), (32, u "()Ljava/lang/Object;"), (3, .class_ 115), (1, u "java/util/Arrays$LegacyMergeSort"), (1, u "Z"), (10, .nameAndType 129 109), (0, u "clone"), (20, .methodref 151 152), (0, .class_ 153), (0, .nameAndType 154 155), (0, u "java/lang/System"), (0, u "arraycopy"), (0, u "(Ljava/lang/Object;ILjava/lang/Object;II)V"), (146, u "copyOf"), (1, .methodref 305 306), (0, .class_ 307), (0, .nameAndType 308 309), (0, u "java/lang/Math"), (0, u "min"), (0, u "(II)I"), (9, .methodref 320 128), (0, .class_ 321), (0, u "[J"), (53, .class_ 376), (0, u "java/util/Arrays$ArrayList"), (68, u "$assertionsDisabled"), (269, u "MIN_ARRAY_SORT_GRAN"), (0, u "I"), (2, u "INSERTIONSORT_THRESHOLD"), (11, u "([J)V"), (108, u "fill"), (11, u "([ZZ)V"), (5, u "([Ljava/lang/Object;Ljava/lang/Object;)V"), (13, u "([JI)[J"), (102, .class_ 976), (0, u "java/util/Arrays$ArrayItr")] 52

def k3m0 : Method := { name := "<init>", desc := "()V", sig := { parameters := [], returnType := none }, accessFlags := 2, code := none }
def k3c1 : Code := { maxStack := 4, maxLocals := 1, code := jdk_65_method_4_code, exceptionTable := #[], attributes := #[] }
def k3m1 : Method := { name := "sort", desc := "([J)V", sig := { parameters := [(.array .long)], returnType := none }, accessFlags := 9, code := some k3c1 }
def k3c2 : Code := { maxStack := 3, maxLocals := 4, code := jdk_65_method_111_code, exceptionTable := #[], attributes := #[] }
def k3m2 : Method := { name := "fill", desc := "([ZZ)V", sig := { parameters := [(.array .boolean), .boolean], returnType := none }, accessFlags := 9, code := some k3c2 }
def k3c3 : Code := { maxStack := 3, maxLocals := 4, code := jdk_65_method_117_code, exceptionTable := #[], attributes := #[] }
def k3m3 : Method := { name := "fill", desc := "([Ljava/lang/Object;Ljava/lang/Object;)V", sig := { parameters := [(.array (.object "java/lang/Object")), (.object "java/lang/Object")], returnType := none }, accessFlags := 9, code := some k3c3 }
def k3c4 : Code := { maxStack := 6, maxLocals := 3, code := jdk_65_method_124_code, exceptionTable := #[], attributes := #[] }
def k3m4 : Method := { name := "copyOf", desc := "([JI)[J", sig := { parameters := [(.array .long), .int], returnType := some (.array .long) }, accessFlags := 9, code := some k3c4 }
/-- java/util/Arrays -/
def k3 : Class := { plain "java/util/Arrays" (some 0) with
  accessFlags := 49
  interfaces := #[]
  cf := some (fileOf pool3 14 #[.nestMembers #[975, 375, 113, 74]] #[{ accessFlags := 2, nameIndex := 5, descriptorIndex := 6, attributes := #[] }, { accessFlags := 9, nameIndex := 11, descriptorIndex := 731, attributes := #[] }, { accessFlags := 9, nameIndex := 840, descriptorIndex := 852, attributes := #[] }, { accessFlags := 9, nameIndex := 840, descriptorIndex := 858, attributes := #[] }, { accessFlags := 9, nameIndex := 302, descriptorIndex := 872, attributes := #[] }] 49 2 #[] #[{ accessFlags := 26, nameIndex := 715, descriptorIndex := 716, attributes := #[] }, { accessFlags := 26, nameIndex := 719, descriptorIndex := 716, attributes := #[] }, { accessFlags := 4120, nameIndex := 445, descriptorIndex := 117, attributes := #[] }])
  fields := #[{ name := "MIN_ARRAY_SORT_GRAN", type := .int, accessFlags := 26, slot := 0, constantValue := 0 }, { name := "INSERTIONSORT_THRESHOLD", type := .int, accessFlags := 26, slot := 1, constantValue := 0 }, { name := "$assertionsDisabled", type := .boolean, accessFlags := 4120, slot := 2, constantValue := 0 }]
  methods := #[k3m0, k3m1, k3m2, k3m3, k3m4]
  instanceTypes := #[]
  staticTypes := #[.int, .int, .boolean]
  resolved := Array.replicate 1029 none
  statics := none }

def pool4 : Array CpInfo := pool [(1, .methodref 2 3), (0, .class_ 4), (0, .nameAndType 5 6), (0, u "java/lang/Object"), (0, u "<init>"), (0, u "()V"), (0, .class_ 8), (0, u "java/lang/Record")] 13

def k4c0 : Code := { maxStack := 1, maxLocals := 1, code := jdk_30_method_1_code, exceptionTable := #[], attributes := #[] }
def k4m0 : Method := { name := "<init>", desc := "()V", sig := { parameters := [], returnType := none }, accessFlags := 4, code := some k4c0 }
/-- java/lang/Record -/
def k4 : Class := { plain "java/lang/Record" (some 0) with
  accessFlags := 1057
  interfaces := #[]
  cf := some (fileOf pool4 7 #[] #[{ accessFlags := 4, nameIndex := 5, descriptorIndex := 6, attributes := #[] }] 1057 2 #[] #[])
  fields := #[]
  methods := #[k4m0]
  instanceTypes := #[]
  staticTypes := #[]
  resolved := Array.replicate 22 none
  statics := none }

def pool5 : Array CpInfo := pool [(1, .methodref 2 3), (0, .class_ 4), (0, .nameAndType 5 6), (0, u "java/lang/Record"), (0, u "<init>"), (0, u "()V"), (0, .fieldref 8 9), (0, .class_ 10), (0, .nameAndType 11 12), (0, u "com/example/interlace/interlace/engine/Plan$Required"), (0, u "operand"), (0, u "Lcom/example/interlace/interlace/pattern/Structure;"), (0, .fieldref 8 14), (0, .nameAndType 15 16), (0, u "before"), (0, u "Z"), (0, .fieldref 8 18), (0, .nameAndType 19 20), (0, u "rest"), (0, u "Lcom/example/interlace/interlace/engine/Plan$Required;"), (23, u "(Lcom/example/interlace/interlace/pattern/Structure;ZLcom/example/interlace/interlace/engine/Plan$Required;)V"), (8, u "()Lcom/example/interlace/interlace/pattern/Structure;"), (1, u "()Lcom/example/interlace/interlace/engine/Plan$Required;"), (3, .class_ 60), (0, u "com/example/interlace/interlace/engine/Plan")] 21

def k5c0 : Code := { maxStack := 2, maxLocals := 4, code := prog_47_method_1_code, exceptionTable := #[], attributes := #[] }
def k5m0 : Method := { name := "<init>", desc := "(Lcom/example/interlace/interlace/pattern/Structure;ZLcom/example/interlace/interlace/engine/Plan$Required;)V", sig := { parameters := [(.object "com/example/interlace/interlace/pattern/Structure"), .boolean, (.object "com/example/interlace/interlace/engine/Plan$Required")], returnType := none }, accessFlags := 0, code := some k5c0 }
def k5c1 : Code := { maxStack := 1, maxLocals := 1, code := prog_47_method_8_code, exceptionTable := #[], attributes := #[] }
def k5m1 : Method := { name := "operand", desc := "()Lcom/example/interlace/interlace/pattern/Structure;", sig := { parameters := [], returnType := some (.object "com/example/interlace/interlace/pattern/Structure") }, accessFlags := 1, code := some k5c1 }
def k5c2 : Code := { maxStack := 1, maxLocals := 1, code := prog_47_method_10_code, exceptionTable := #[], attributes := #[] }
def k5m2 : Method := { name := "rest", desc := "()Lcom/example/interlace/interlace/engine/Plan$Required;", sig := { parameters := [], returnType := some (.object "com/example/interlace/interlace/engine/Plan$Required") }, accessFlags := 1, code := some k5c2 }
/-- com/example/interlace/interlace/engine/Plan$Required -/
def k5 : Class := { plain "com/example/interlace/interlace/engine/Plan$Required" (some 4) with
  accessFlags := 48
  interfaces := #[]
  cf := some (fileOf pool5 8 #[.nestHost 59] #[{ accessFlags := 0, nameIndex := 5, descriptorIndex := 44, attributes := #[] }, { accessFlags := 1, nameIndex := 11, descriptorIndex := 53, attributes := #[] }, { accessFlags := 1, nameIndex := 19, descriptorIndex := 55, attributes := #[] }] 48 2 #[] #[{ accessFlags := 18, nameIndex := 11, descriptorIndex := 12, attributes := #[] }, { accessFlags := 18, nameIndex := 15, descriptorIndex := 16, attributes := #[] }, { accessFlags := 18, nameIndex := 19, descriptorIndex := 20, attributes := #[] }])
  fields := #[{ name := "operand", type := (.object "com/example/interlace/interlace/pattern/Structure"), accessFlags := 18, slot := 0, constantValue := 0 }, { name := "before", type := .boolean, accessFlags := 18, slot := 1, constantValue := 0 }, { name := "rest", type := (.object "com/example/interlace/interlace/engine/Plan$Required"), accessFlags := 18, slot := 2, constantValue := 0 }]
  methods := #[k5m0, k5m1, k5m2]
  instanceTypes := #[(.object "com/example/interlace/interlace/pattern/Structure"), .boolean, (.object "com/example/interlace/interlace/engine/Plan$Required")]
  staticTypes := #[]
  resolved := Array.replicate 82 none
  statics := none }

def pool6 : Array CpInfo := pool [(1, .class_ 2), (0, u "com/example/interlace/interlace/pattern/Structure"), (0, .class_ 4), (0, u "java/lang/Object"), (6, .class_ 12), (0, u "com/example/interlace/interlace/pattern/Structure$Kind"), (0, .class_ 14), (0, u "com/example/interlace/interlace/pattern/Structure$Absence"), (0, .class_ 16), (0, u "com/example/interlace/interlace/pattern/Structure$Group"), (0, .class_ 18), (0, u "com/example/interlace/interlace/pattern/Structure$Leaf")] 6

/-- com/example/interlace/interlace/pattern/Structure -/
def k6 : Class := { plain "com/example/interlace/interlace/pattern/Structure" (some 0) with
  accessFlags := 1537
  interfaces := #[]
  cf := some (fileOf pool6 1 #[.nestMembers #[11, 13, 15, 17]] #[] 1537 3 #[] #[])
  fields := #[]
  methods := #[]
  instanceTypes := #[]
  staticTypes := #[]
  resolved := Array.replicate 25 none
  statics := none }

def pool7 : Array CpInfo := pool [(1, .methodref 2 3), (0, .class_ 4), (0, .nameAndType 5 6), (0, u "java/lang/Record"), (0, u "<init>"), (0, u "()V"), (0, .fieldref 8 9), (0, .class_ 10), (0, .nameAndType 11 12), (0, u "com/example/interlace/interlace/pattern/Structure$Leaf"), (0, u "variable"), (0, u "I"), (12, .class_ 26), (0, u "com/example/interlace/interlace/pattern/Structure"), (0, u "(I)V"), (4, u "()I")] 24

def k7c0 : Code := { maxStack := 2, maxLocals := 2, code := prog_83_method_1_code, exceptionTable := #[], attributes := #[] }
def k7m0 : Method := { name := "<init>", desc := "(I)V", sig := { parameters := [.int], returnType := none }, accessFlags := 1, code := some k7c0 }
def k7c1 : Code := { maxStack := 1, maxLocals := 1, code := prog_83_method_7_code, exceptionTable := #[], attributes := #[] }
def k7m1 : Method := { name := "variable", desc := "()I", sig := { parameters := [], returnType := some .int }, accessFlags := 1, code := some k7c1 }
/-- com/example/interlace/interlace/pattern/Structure$Leaf -/
def k7 : Class := { plain "com/example/interlace/interlace/pattern/Structure$Leaf" (some 4) with
  accessFlags := 49
  interfaces := #[6]
  cf := some (fileOf pool7 8 #[.nestHost 25] #[{ accessFlags := 1, nameIndex := 5, descriptorIndex := 27, attributes := #[] }, { accessFlags := 1, nameIndex := 11, descriptorIndex := 32, attributes := #[] }] 49 2 #[25] #[{ accessFlags := 18, nameIndex := 11, descriptorIndex := 12, attributes := #[] }])
  fields := #[{ name := "variable", type := .int, accessFlags := 18, slot := 0, constantValue := 0 }]
  methods := #[k7m0, k7m1]
  instanceTypes := #[.int]
  staticTypes := #[]
  resolved := Array.replicate 57 none
  statics := none }

def pool8 : Array CpInfo := pool [(1, .class_ 2), (0, u "com/example/interlace/interlace/engine/Plan$Step"), (0, .class_ 4), (0, u "java/lang/Object"), (3, .class_ 9), (0, u "com/example/interlace/interlace/engine/Plan")] 9

/-- com/example/interlace/interlace/engine/Plan$Step -/
def k8 : Class := { plain "com/example/interlace/interlace/engine/Plan$Step" (some 0) with
  accessFlags := 1536
  interfaces := #[]
  cf := some (fileOf pool8 1 #[.nestHost 8] #[] 1536 3 #[] #[])
  fields := #[]
  methods := #[]
  instanceTypes := #[]
  staticTypes := #[]
  resolved := Array.replicate 19 none
  statics := none }

def pool9 : Array CpInfo := pool [(1, .methodref 2 3), (0, .class_ 4), (0, .nameAndType 5 6), (0, u "java/lang/Record"), (0, u "<init>"), (0, u "()V"), (0, .fieldref 8 9), (0, .class_ 10), (0, .nameAndType 11 12), (0, u "com/example/interlace/interlace/engine/Plan$Bind"), (0, u "variable"), (0, u "I"), (0, .fieldref 8 14), (0, .nameAndType 15 16), (0, u "nots"), (0, u "[Lcom/example/interlace/interlace/engine/Plan$Absent;"), (0, .fieldref 8 18), (0, .nameAndType 19 20), (0, u "required"), (0, u "Lcom/example/interlace/interlace/engine/Plan$Required;"), (0, .fieldref 8 22), (0, .nameAndType 23 24), (0, u "next"), (0, u "Lcom/example/interlace/interlace/engine/Plan$Step;"), (12, .class_ 38), (0, u "com/example/interlace/interlace/engine/Plan$Step"), (0, u "(I[Lcom/example/interlace/interlace/engine/Plan$Absent;Lcom/example/interlace/interlace/engine/Plan$Required;Lcom/example/interlace/interlace/engine/Plan$Step;)V"), (4, u "()I"), (2, u "()Lcom/example/interlace/interlace/engine/Plan$Required;"), (4, .class_ 53), (0, u "com/example/interlace/interlace/engine/Plan")] 29

def k9c0 : Code := { maxStack := 2, maxLocals := 5, code := prog_41_method_1_code, exceptionTable := #[], attributes := #[] }
def k9m0 : Method := { name := "<init>", desc := "(I[Lcom/example/interlace/interlace/engine/Plan$Absent;Lcom/example/interlace/interlace/engine/Plan$Required;Lcom/example/interlace/interlace/engine/Plan$Step;)V", sig := { parameters := [.int, (.array (.object "com/example/interlace/interlace/engine/Plan$Absent")), (.object "com/example/interlace/interlace/engine/Plan$Required"), (.object "com/example/interlace/interlace/engine/Plan$Step")], returnType := none }, accessFlags := 0, code := some k9c0 }
def k9c1 : Code := { maxStack := 1, maxLocals := 1, code := prog_41_method_5_code, exceptionTable := #[], attributes := #[] }
def k9m1 : Method := { name := "variable", desc := "()I", sig := { parameters := [], returnType := some .int }, accessFlags := 1, code := some k9c1 }
def k9c2 : Code := { maxStack := 1, maxLocals := 1, code := prog_41_method_7_code, exceptionTable := #[], attributes := #[] }
def k9m2 : Method := { name := "required", desc := "()Lcom/example/interlace/interlace/engine/Plan$Required;", sig := { parameters := [], returnType := some (.object "com/example/interlace/interlace/engine/Plan$Required") }, accessFlags := 1, code := some k9c2 }
/-- com/example/interlace/interlace/engine/Plan$Bind -/
def k9 : Class := { plain "com/example/interlace/interlace/engine/Plan$Bind" (some 4) with
  accessFlags := 48
  interfaces := #[8]
  cf := some (fileOf pool9 8 #[.nestHost 52] #[{ accessFlags := 0, nameIndex := 5, descriptorIndex := 39, attributes := #[] }, { accessFlags := 1, nameIndex := 11, descriptorIndex := 44, attributes := #[] }, { accessFlags := 1, nameIndex := 19, descriptorIndex := 47, attributes := #[] }] 48 2 #[37] #[{ accessFlags := 18, nameIndex := 11, descriptorIndex := 12, attributes := #[] }, { accessFlags := 18, nameIndex := 15, descriptorIndex := 16, attributes := #[] }, { accessFlags := 18, nameIndex := 19, descriptorIndex := 20, attributes := #[] }, { accessFlags := 18, nameIndex := 23, descriptorIndex := 24, attributes := #[] }])
  fields := #[{ name := "variable", type := .int, accessFlags := 18, slot := 0, constantValue := 0 }, { name := "nots", type := (.array (.object "com/example/interlace/interlace/engine/Plan$Absent")), accessFlags := 18, slot := 1, constantValue := 0 }, { name := "required", type := (.object "com/example/interlace/interlace/engine/Plan$Required"), accessFlags := 18, slot := 2, constantValue := 0 }, { name := "next", type := (.object "com/example/interlace/interlace/engine/Plan$Step"), accessFlags := 18, slot := 3, constantValue := 0 }]
  methods := #[k9m0, k9m1, k9m2]
  instanceTypes := #[.int, (.array (.object "com/example/interlace/interlace/engine/Plan$Absent")), (.object "com/example/interlace/interlace/engine/Plan$Required"), (.object "com/example/interlace/interlace/engine/Plan$Step")]
  staticTypes := #[]
  resolved := Array.replicate 83 none
  statics := none }

def pool10 : Array CpInfo := pool [(8, .class_ 10), (1, u "java/lang/Iterable"), (24, .class_ 36), (0, u "java/lang/Object")] 25

/-- java/lang/Iterable -/
def k10 : Class := { plain "java/lang/Iterable" (some 0) with
  accessFlags := 1537
  interfaces := #[]
  cf := some (fileOf pool10 8 #[] #[] 1537 35 #[] #[])
  fields := #[]
  methods := #[]
  instanceTypes := #[]
  staticTypes := #[]
  resolved := Array.replicate 62 none
  statics := none }

def pool11 : Array CpInfo := pool [(10, .class_ 12), (1, u "java/util/Collection"), (17, u "()Z"), (29, .class_ 61), (0, u "java/lang/Object"), (0, .class_ 63), (0, u "java/lang/Iterable"), (2, u "isEmpty")] 48

def k11m0 : Method := { name := "isEmpty", desc := "()Z", sig := { parameters := [], returnType := some .boolean }, accessFlags := 1025, code := none }
/-- java/util/Collection -/
def k11 : Class := { plain "java/util/Collection" (some 0) with
  accessFlags := 1537
  interfaces := #[10]
  cf := some (fileOf pool11 10 #[] #[{ accessFlags := 1025, nameIndex := 66, descriptorIndex := 30, attributes := #[] }] 1537 60 #[62] #[])
  fields := #[]
  methods := #[k11m0]
  instanceTypes := #[]
  staticTypes := #[]
  resolved := Array.replicate 115 none
  statics := none }

def pool12 : Array CpInfo := pool [(1, .methodref 2 3), (0, .class_ 4), (0, .nameAndType 5 6), (0, u "java/lang/Object"), (0, u "<init>"), (0, u "()V"), (1, .class_ 10), (1, u "java/util/AbstractCollection"), (66, .class_ 78), (0, u "java/util/Collection")] 81

def k12c0 : Code := { maxStack := 1, maxLocals := 1, code := jdk_22_method_1_code, exceptionTable := #[], attributes := #[] }
def k12m0 : Method := { name := "<init>", desc := "()V", sig := { parameters := [], returnType := none }, accessFlags := 4, code := some k12c0 }
/-- java/util/AbstractCollection -/
def k12 : Class := { plain "java/util/AbstractCollection" (some 0) with
  accessFlags := 1057
  interfaces := #[11]
  cf := some (fileOf pool12 8 #[] #[{ accessFlags := 4, nameIndex := 5, descriptorIndex := 6, attributes := #[] }] 1057 2 #[77] #[])
  fields := #[]
  methods := #[k12m0]
  instanceTypes := #[]
  staticTypes := #[]
  resolved := Array.replicate 160 none
  statics := none }

def pool13 : Array CpInfo := pool [(1, .class_ 2), (0, u "java/util/Queue"), (0, .class_ 4), (0, u "java/lang/Object"), (0, .class_ 6), (0, u "java/util/Collection")] 14

/-- java/util/Queue -/
def k13 : Class := { plain "java/util/Queue" (some 0) with
  accessFlags := 1537
  interfaces := #[11]
  cf := some (fileOf pool13 1 #[] #[] 1537 3 #[5] #[])
  fields := #[]
  methods := #[]
  instanceTypes := #[]
  staticTypes := #[]
  resolved := Array.replicate 21 none
  statics := none }

def pool14 : Array CpInfo := pool [(8, .class_ 10), (1, u "java/util/SequencedCollection"), (15, .class_ 27), (0, u "java/lang/Object"), (0, .class_ 29), (0, u "java/util/Collection")] 27

/-- java/util/SequencedCollection -/
def k14 : Class := { plain "java/util/SequencedCollection" (some 0) with
  accessFlags := 1537
  interfaces := #[11]
  cf := some (fileOf pool14 8 #[] #[] 1537 26 #[28] #[])
  fields := #[]
  methods := #[]
  instanceTypes := #[]
  staticTypes := #[]
  resolved := Array.replicate 57 none
  statics := none }

def pool15 : Array CpInfo := pool [(8, .class_ 10), (1, u "java/util/Deque"), (2, .class_ 14), (0, u "java/lang/Object"), (0, .class_ 16), (0, u "java/util/Queue"), (0, .class_ 18), (0, u "java/util/SequencedCollection")] 51

/-- java/util/Deque -/
def k15 : Class := { plain "java/util/Deque" (some 0) with
  accessFlags := 1537
  interfaces := #[13, 14]
  cf := some (fileOf pool15 8 #[] #[] 1537 13 #[15, 17] #[])
  fields := #[]
  methods := #[]
  instanceTypes := #[]
  staticTypes := #[]
  resolved := Array.replicate 70 none
  statics := none }

def pool16 : Array CpInfo := pool [(1, .class_ 2), (0, u "java/lang/Cloneable"), (0, .class_ 4), (0, u "java/lang/Object")] 2

/-- java/lang/Cloneable -/
def k16 : Class := { plain "java/lang/Cloneable" (some 0) with
  accessFlags := 1537
  interfaces := #[]
  cf := some (fileOf pool16 1 #[] #[] 1537 3 #[] #[])
  fields := #[]
  methods := #[]
  instanceTypes := #[]
  staticTypes := #[]
  resolved := Array.replicate 7 none
  statics := none }

def pool17 : Array CpInfo := pool [(1, .class_ 2), (0, u "java/io/Serializable"), (0, .class_ 4), (0, u "java/lang/Object")] 2

/-- java/io/Serializable -/
def k17 : Class := { plain "java/io/Serializable" (some 0) with
  accessFlags := 1537
  interfaces := #[]
  cf := some (fileOf pool17 1 #[] #[] 1537 3 #[] #[])
  fields := #[]
  methods := #[]
  instanceTypes := #[]
  staticTypes := #[]
  resolved := Array.replicate 7 none
  statics := none }

def pool18 : Array CpInfo := pool [(3, .fieldref 4 5), (0, .class_ 6), (0, .nameAndType 7 8), (0, u "java/util/ArrayDeque"), (0, u "elements"), (0, u "[Ljava/lang/Object;"), (11, .fieldref 4 21), (0, .nameAndType 22 23), (0, u "tail"), (0, u "I"), (0, .fieldref 4 25), (0, .nameAndType 26 23), (0, u "head"), (12, u "<init>"), (2, .methodref 43 44), (0, .class_ 45), (0, .nameAndType 39 46), (0, u "java/util/AbstractCollection"), (0, u "()V"), (0, .class_ 48), (0, u "java/lang/Object"), (82, .class_ 132), (0, u "java/util/ArrayDeque$DeqIterator"), (3, .class_ 137), (0, u "java/util/ArrayDeque$DescendingIterator"), (1, .class_ 140), (0, u "java/util/ArrayDeque$DeqSpliterator"), (137, .class_ 279), (0, u "java/util/Deque"), (0, .class_ 281), (0, u "java/lang/Cloneable"), (0, .class_ 283), (0, u "java/io/Serializable"), (0, u "MAX_ARRAY_SIZE"), (1, u "serialVersionUID"), (0, u "J"), (59, u "isEmpty"), (0, u "()Z")] 89

def k18c0 : Code := { maxStack := 2, maxLocals := 1, code := jdk_21_method_3_code, exceptionTable := #[], attributes := #[] }
def k18m0 : Method := { name := "<init>", desc := "()V", sig := { parameters := [], returnType := none }, accessFlags := 1, code := some k18c0 }
def k18c1 : Code := { maxStack := 2, maxLocals := 1, code := jdk_21_method_38_code, exceptionTable := #[], attributes := #[] }
def k18m1 : Method := { name := "isEmpty", desc := "()Z", sig := { parameters := [], returnType := some .boolean }, accessFlags := 1, code := some k18c1 }
/-- java/util/ArrayDeque -/
def k18 : Class := { plain "java/util/ArrayDeque" (some 12) with
  accessFlags := 33
  interfaces := #[15, 16, 17]
  cf := some (fileOf pool18 4 #[.nestMembers #[139, 136, 131]] #[{ accessFlags := 1, nameIndex := 39, descriptorIndex := 46, attributes := #[] }, { accessFlags := 1, nameIndex := 347, descriptorIndex := 348, attributes := #[] }] 33 43 #[278, 280, 282] #[{ accessFlags := 128, nameIndex := 7, descriptorIndex := 8, attributes := #[] }, { accessFlags := 128, nameIndex := 26, descriptorIndex := 23, attributes := #[] }, { accessFlags := 128, nameIndex := 22, descriptorIndex := 23, attributes := #[] }, { accessFlags := 26, nameIndex := 284, descriptorIndex := 23, attributes := #[] }, { accessFlags := 26, nameIndex := 286, descriptorIndex := 287, attributes := #[] }])
  fields := #[{ name := "elements", type := (.array (.object "java/lang/Object")), accessFlags := 128, slot := 0, constantValue := 0 }, { name := "head", type := .int, accessFlags := 128, slot := 1, constantValue := 0 }, { name := "tail", type := .int, accessFlags := 128, slot := 2, constantValue := 0 }, { name := "MAX_ARRAY_SIZE", type := .int, accessFlags := 26, slot := 0, constantValue := 0 }, { name := "serialVersionUID", type := .long, accessFlags := 26, slot := 1, constantValue := 0 }]
  methods := #[k18m0, k18m1]
  instanceTypes := #[(.array (.object "java/lang/Object")), .int, .int]
  staticTypes := #[.int, .long]
  resolved := Array.replicate 438 none
  statics := none }

def pool19 : Array CpInfo := pool [(1, .class_ 2), (0, u "java/lang/Math"), (1, .class_ 6), (1, u "java/lang/Object"), (0, u "<init>"), (0, u "()V"), (89, .class_ 100), (1, u "java/lang/Math$RandomNumberGeneratorHolder"), (20, u "(JJ)J"), (50, u "negativeZeroFloatBits"), (0, u "J"), (2, u "negativeZeroDoubleBits"), (21, u "max"), (2, u "min"), (43, u "$assertionsDisabled"), (0, u "Z"), (88, u "(II)I"), (2, u "twoToTheDoubleScaleDown"), (0, u "D"), (4, u "twoToTheDoubleScaleUp"), (9, u "E"), (3, u "PI"), (2, u "TAU"), (2, u "DEGREES_TO_RADIANS"), (0, u "RADIANS_TO_DEGREES")] 94

def k19m0 : Method := { name := "<init>", desc := "()V", sig := { parameters := [], returnType := none }, accessFlags := 2, code := none }
def k19c1 : Code := { maxStack := 4, maxLocals := 4, code := jdk_29_method_66_code, exceptionTable := #[], attributes := #[] }
def k19m1 : Method := { name := "max", desc := "(JJ)J", sig := { parameters := [.long, .long], returnType := some .long }, accessFlags := 9, code := some k19c1 }
def k19c2 : Code := { maxStack := 2, maxLocals := 2, code := jdk_29_method_69_code, exceptionTable := #[], attributes := #[] }
def k19m2 : Method := { name := "min", desc := "(II)I", sig := { parameters := [.int, .int], returnType := some .int }, accessFlags := 9, code := some k19c2 }
def k19c3 : Code := { maxStack := 4, maxLocals := 4, code := jdk_29_method_70_code, exceptionTable := #[], attributes := #[] }
def k19m3 : Method := { name := "min", desc := "(JJ)J", sig := { parameters := [.long, .long], returnType := some .long }, accessFlags := 9, code := some k19c3 }
/-- java/lang/Math -/
def k19 : Class := { plain "java/lang/Math" (some 0) with
  accessFlags := 49
  interfaces := #[]
  cf := some (fileOf pool19 1 #[.nestMembers #[98]] #[{ accessFlags := 2, nameIndex := 7, descriptorIndex := 8, attributes := #[] }, { accessFlags := 9, nameIndex := 198, descriptorIndex := 121, attributes := #[] }, { accessFlags := 9, nameIndex := 201, descriptorIndex := 335, attributes := #[] }, { accessFlags := 9, nameIndex := 201, descriptorIndex := 121, attributes := #[] }] 49 4 #[] #[{ accessFlags := 25, nameIndex := 354, descriptorIndex := 339, attributes := #[] }, { accessFlags := 25, nameIndex := 358, descriptorIndex := 339, attributes := #[] }, { accessFlags := 25, nameIndex := 361, descriptorIndex := 339, attributes := #[] }, { accessFlags := 26, nameIndex := 364, descriptorIndex := 339, attributes := #[] }, { accessFlags := 26, nameIndex := 365, descriptorIndex := 339, attributes := #[] }, { accessFlags := 26, nameIndex := 172, descriptorIndex := 173, attributes := #[] }, { accessFlags := 26, nameIndex := 176, descriptorIndex := 173, attributes := #[] }, { accessFlags := 8, nameIndex := 344, descriptorIndex := 339, attributes := #[] }, { accessFlags := 8, nameIndex := 338, descriptorIndex := 339, attributes := #[] }, { accessFlags := 4120, nameIndex := 245, descriptorIndex := 246, attributes := #[] }])
  fields := #[{ name := "E", type := .double, accessFlags := 25, slot := 0, constantValue := 0 }, { name := "PI", type := .double, accessFlags := 25, slot := 1, constantValue := 0 }, { name := "TAU", type := .double, accessFlags := 25, slot := 2, constantValue := 0 }, { name := "DEGREES_TO_RADIANS", type := .double, accessFlags := 26, slot := 3, constantValue := 0 }, { name := "RADIANS_TO_DEGREES", type := .double, accessFlags := 26, slot := 4, constantValue := 0 }, { name := "negativeZeroFloatBits", type := .long, accessFlags := 26, slot := 5, constantValue := 0 }, { name := "negativeZeroDoubleBits", type := .long, accessFlags := 26, slot := 6, constantValue := 0 }, { name := "twoToTheDoubleScaleUp", type := .double, accessFlags := 8, slot := 7, constantValue := 0 }, { name := "twoToTheDoubleScaleDown", type := .double, accessFlags := 8, slot := 8, constantValue := 0 }, { name := "$assertionsDisabled", type := .boolean, accessFlags := 4120, slot := 9, constantValue := 0 }]
  methods := #[k19m0, k19m1, k19m2, k19m3]
  instanceTypes := #[]
  staticTypes := #[.double, .double, .double, .double, .double, .long, .long, .double, .double, .boolean]
  resolved := Array.replicate 460 none
  statics := none }

def pool20 : Array CpInfo := pool [(2, .class_ 4), (1, u "java/lang/Object"), (0, u "<init>"), (0, u "()V"), (1, .class_ 10), (1, u "java/lang/System"), (0, u "allowSecurityManager"), (0, u "I"), (16, u "cons"), (0, u "Ljava/io/Console;"), (77, .class_ 110), (1, u "java/lang/System$CallersHolder"), (43, u "initialErrStream"), (0, u "Ljava/io/PrintStream;"), (19, u "security"), (0, u "Ljava/lang/SecurityManager;"), (31, .class_ 209), (0, u "java/lang/System$1"), (7, u "props"), (0, u "Ljava/util/Properties;"), (2, u "lineSeparator"), (0, u "Ljava/lang/String;"), (96, .class_ 321), (1, u "java/lang/System$LoggerFinder"), (5, .class_ 328), (0, u "java/lang/System$Logger"), (67, u "err"), (2, u "out"), (91, u "notSupportedJnuEncoding"), (15, u "in"), (17, u "initialIn"), (0, u "Ljava/io/InputStream;"), (35, u "bootLayer"), (0, u "Ljava/lang/ModuleLayer;"), (99, .class_ 664), (0, u "java/lang/System$2"), (9, u "NEVER"), (2, u "MAYBE"), (49, u "arraycopy"), (0, u "(Ljava/lang/Object;ILjava/lang/Object;II)V"), (72, .class_ 802), (0, u "java/lang/System$Logger$Level")] 31

def k20m0 : Method := { name := "<init>", desc := "()V", sig := { parameters := [], returnType := none }, accessFlags := 2, code := none }
def k20m1 : Method := { name := "arraycopy", desc := "(Ljava/lang/Object;ILjava/lang/Object;II)V", sig := { parameters := [(.object "java/lang/Object"), .int, (.object "java/lang/Object"), .int, .int], returnType := none }, accessFlags := 265, code := none }
/-- java/lang/System -/
def k20 : Class := { plain "java/lang/System" (some 0) with
  accessFlags := 49
  interfaces := #[]
  cf := some (fileOf pool20 8 #[.nestMembers #[319, 327, 801, 108, 663, 208]] #[{ accessFlags := 2, nameIndex := 5, descriptorIndex := 6, attributes := #[] }, { accessFlags := 265, nameIndex := 727, descriptorIndex := 728, attributes := #[] }] 49 2 #[] #[{ accessFlags := 25, nameIndex := 507, descriptorIndex := 526, attributes := #[] }, { accessFlags := 25, nameIndex := 399, descriptorIndex := 155, attributes := #[] }, { accessFlags := 25, nameIndex := 396, descriptorIndex := 155, attributes := #[] }, { accessFlags := 10, nameIndex := 525, descriptorIndex := 526, attributes := #[] }, { accessFlags := 26, nameIndex := 674, descriptorIndex := 12, attributes := #[] }, { accessFlags := 26, nameIndex := 677, descriptorIndex := 12, attributes := #[] }, { accessFlags := 10, nameIndex := 11, descriptorIndex := 12, attributes := #[] }, { accessFlags := 74, nameIndex := 175, descriptorIndex := 176, attributes := #[] }, { accessFlags := 10, nameIndex := 491, descriptorIndex := 222, attributes := #[] }, { accessFlags := 74, nameIndex := 29, descriptorIndex := 30, attributes := #[] }, { accessFlags := 74, nameIndex := 154, descriptorIndex := 155, attributes := #[] }, { accessFlags := 10, nameIndex := 217, descriptorIndex := 218, attributes := #[] }, { accessFlags := 10, nameIndex := 221, descriptorIndex := 222, attributes := #[] }, { accessFlags := 8, nameIndex := 562, descriptorIndex := 563, attributes := #[] }])
  fields := #[{ name := "in", type := (.object "java/io/InputStream"), accessFlags := 25, slot := 0, constantValue := 0 }, { name := "out", type := (.object "java/io/PrintStream"), accessFlags := 25, slot := 1, constantValue := 0 }, { name := "err", type := (.object "java/io/PrintStream"), accessFlags := 25, slot := 2, constantValue := 0 }, { name := "initialIn", type := (.object "java/io/InputStream"), accessFlags := 10, slot := 3, constantValue := 0 }, { name := "NEVER", type := .int, accessFlags := 26, slot := 4, constantValue := 0 }, { name := "MAYBE", type := .int, accessFlags := 26, slot := 5, constantValue := 0 }, { name := "allowSecurityManager", type := .int, accessFlags := 10, slot := 6, constantValue := 0 }, { name := "security", type := (.object "java/lang/SecurityManager"), accessFlags := 74, slot := 7, constantValue := 0 }, { name := "notSupportedJnuEncoding", type := (.object "java/lang/String"), accessFlags := 10, slot := 8, constantValue := 0 }, { name := "cons", type := (.object "java/io/Console"), accessFlags := 74, slot := 9, constantValue := 0 }, { name := "initialErrStream", type := (.object "java/io/PrintStream"), accessFlags := 74, slot := 10, constantValue := 0 }, { name := "props", type := (.object "java/util/Properties"), accessFlags := 10, slot := 11, constantValue := 0 }, { name := "lineSeparator", type := (.object "java/lang/String"), accessFlags := 10, slot := 12, constantValue := 0 }, { name := "bootLayer", type := (.object "java/lang/ModuleLayer"), accessFlags := 8, slot := 13, constantValue := 0 }]
  methods := #[k20m0, k20m1]
  instanceTypes := #[]
  staticTypes := #[(.object "java/io/InputStream"), (.object "java/io/PrintStream"), (.object "java/io/PrintStream"), (.object "java/io/InputStream"), .int, .int, .int, (.object "java/lang/SecurityManager"), (.object "java/lang/String"), (.object "java/io/Console"), (.object "java/io/PrintStream"), (.object "java/util/Properties"), (.object "java/lang/String"), (.object "java/lang/ModuleLayer")]
  resolved := Array.replicate 834 none
  statics := none }

def pool21 : Array CpInfo := pool [(1, .class_ 2), (0, u "java/util/DualPivotQuicksort"), (5, .class_ 10), (1, u "java/lang/Object"), (0, u "<init>"), (0, u "()V"), (4, .class_ 18), (0, u "java/util/DualPivotQuicksort$Sorter"), (9, u "sort"), (7, u "insertionSort"), (31, u "I"), (4, .class_ 74), (0, u "java/util/DualPivotQuicksort$RunMerger"), (10, .class_ 86), (0, u "java/util/DualPivotQuicksort$Merger"), (12, .methodref 1 100), (0, .nameAndType 28 101), (0, u "(Ljava/util/DualPivotQuicksort$Sorter;[JIII)V"), (2, u "([JIII)V"), (0, .methodref 1 106), (0, .nameAndType 36 107), (0, u "([JII)V"), (106, u "MAX_MIXED_INSERTION_SORT_SIZE"), (2, u "MAX_INSERTION_SORT_SIZE"), (1, u "MIN_PARALLEL_SORT_SIZE"), (1, u "MIN_TRY_MERGE_SIZE"), (0, u "MIN_FIRST_RUN_SIZE"), (1, u "MIN_FIRST_RUNS_FACTOR"), (1, u "MAX_RUN_CAPACITY"), (1, u "MIN_RUN_COUNT"), (1, u "MIN_PARALLEL_MERGE_PARTS_SIZE"), (0, u "MIN_BYTE_COUNTING_SORT_SIZE"), (1, u "MIN_SHORT_OR_CHAR_COUNTING_SORT_SIZE"), (1, u "DELTA"), (1, u "MAX_RECURSION_DEPTH"), (1, u "NUM_BYTE_VALUES"), (1, u "MAX_BYTE_INDEX"), (0, u "NUM_CHAR_VALUES"), (0, u "NUM_SHORT_VALUES"), (0, u "MAX_SHORT_INDEX")] 86

def k21m0 : Method := { name := "<init>", desc := "()V", sig := { parameters := [], returnType := none }, accessFlags := 2, code := none }
def k21c1 : Code := { maxStack := 9, maxLocals := 7, code := jdk_2529_method_12_code, exceptionTable := #[], attributes := #[] }
def k21m1 : Method := { name := "sort", desc := "([JIII)V", sig := { parameters := [(.array .long), .int, .int, .int], returnType := none }, accessFlags := 8, code := some k21c1 }
def k21c2 : Code := { maxStack := 6, maxLocals := 25, code := jdk_2529_method_13_code, exceptionTable := #[], attributes := #[] }
def k21m2 : Method := { name := "sort", desc := "(Ljava/util/DualPivotQuicksort$Sorter;[JIII)V", sig := { parameters := [(.object "java/util/DualPivotQuicksort$Sorter"), (.array .long), .int, .int, .int], returnType := none }, accessFlags := 8, code := some k21c2 }
def k21c3 : Code := { maxStack := 5, maxLocals := 7, code := jdk_2529_method_15_code, exceptionTable := #[], attributes := #[] }
def k21m3 : Method := { name := "insertionSort", desc := "([JII)V", sig := { parameters := [(.array .long), .int, .int], returnType := none }, accessFlags := 10, code := some k21c3 }
/-- java/util/DualPivotQuicksort -/
def k21 : Class := { plain "java/util/DualPivotQuicksort" (some 0) with
  accessFlags := 48
  interfaces := #[]
  cf := some (fileOf pool21 1 #[.nestMembers #[73, 85, 17]] #[{ accessFlags := 2, nameIndex := 11, descriptorIndex := 12, attributes := #[] }, { accessFlags := 8, nameIndex := 28, descriptorIndex := 104, attributes := #[] }, { accessFlags := 8, nameIndex := 28, descriptorIndex := 101, attributes := #[] }, { accessFlags := 10, nameIndex := 36, descriptorIndex := 107, attributes := #[] }] 48 8 #[] #[{ accessFlags := 26, nameIndex := 214, descriptorIndex := 68, attributes := #[] }, { accessFlags := 26, nameIndex := 217, descriptorIndex := 68, attributes := #[] }, { accessFlags := 26, nameIndex := 219, descriptorIndex := 68, attributes := #[] }, { accessFlags := 26, nameIndex := 221, descriptorIndex := 68, attributes := #[] }, { accessFlags := 26, nameIndex := 222, descriptorIndex := 68, attributes := #[] }, { accessFlags := 26, nameIndex := 224, descriptorIndex := 68, attributes := #[] }, { accessFlags := 26, nameIndex := 226, descriptorIndex := 68, attributes := #[] }, { accessFlags := 26, nameIndex := 228, descriptorIndex := 68, attributes := #[] }, { accessFlags := 26, nameIndex := 230, descriptorIndex := 68, attributes := #[] }, { accessFlags := 26, nameIndex := 231, descriptorIndex := 68, attributes := #[] }, { accessFlags := 26, nameIndex := 233, descriptorIndex := 68, attributes := #[] }, { accessFlags := 26, nameIndex := 235, descriptorIndex := 68, attributes := #[] }, { accessFlags := 26, nameIndex := 237, descriptorIndex := 68, attributes := #[] }, { accessFlags := 26, nameIndex := 239, descriptorIndex := 68, attributes := #[] }, { accessFlags := 26, nameIndex := 241, descriptorIndex := 68, attributes := #[] }, { accessFlags := 26, nameIndex := 242, descriptorIndex := 68, attributes := #[] }, { accessFlags := 26, nameIndex := 243, descriptorIndex := 68, attributes := #[] }, { accessFlags := 26, nameIndex := 244, descriptorIndex := 68, attributes := #[] }])
  fields := #[{ name := "MAX_MIXED_INSERTION_SORT_SIZE", type := .int, accessFlags := 26, slot := 0, constantValue := 0 }, { name := "MAX_INSERTION_SORT_SIZE", type := .int, accessFlags := 26, slot := 1, constantValue := 0 }, { name := "MIN_PARALLEL_SORT_SIZE", type := .int, accessFlags := 26, slot := 2, constantValue := 0 }, { name := "MIN_TRY_MERGE_SIZE", type := .int, accessFlags := 26, slot := 3, constantValue := 0 }, { name := "MIN_FIRST_RUN_SIZE", type := .int, accessFlags := 26, slot := 4, constantValue := 0 }, { name := "MIN_FIRST_RUNS_FACTOR", type := .int, accessFlags := 26, slot := 5, constantValue := 0 }, { name := "MAX_RUN_CAPACITY", type := .int, accessFlags := 26, slot := 6, constantValue := 0 }, { name := "MIN_RUN_COUNT", type := .int, accessFlags := 26, slot := 7, constantValue := 0 }, { name := "MIN_PARALLEL_MERGE_PARTS_SIZE", type := .int, accessFlags := 26, slot := 8, constantValue := 0 }, { name := "MIN_BYTE_COUNTING_SORT_SIZE", type := .int, accessFlags := 26, slot := 9, constantValue := 0 }, { name := "MIN_SHORT_OR_CHAR_COUNTING_SORT_SIZE", type := .int, accessFlags := 26, slot := 10, constantValue := 0 }, { name := "DELTA", type := .int, accessFlags := 26, slot := 11, constantValue := 0 }, { name := "MAX_RECURSION_DEPTH", type := .int, accessFlags := 26, slot := 12, constantValue := 0 }, { name := "NUM_BYTE_VALUES", type := .int, accessFlags := 26, slot := 13, constantValue := 0 }, { name := "MAX_BYTE_INDEX", type := .int, accessFlags := 26, slot := 14, constantValue := 0 }, { name := "NUM_CHAR_VALUES", type := .int, accessFlags := 26, slot := 15, constantValue := 0 }, { name := "NUM_SHORT_VALUES", type := .int, accessFlags := 26, slot := 16, constantValue := 0 }, { name := "MAX_SHORT_INDEX", type := .int, accessFlags := 26, slot := 17, constantValue := 0 }]
  methods := #[k21m0, k21m1, k21m2, k21m3]
  instanceTypes := #[]
  staticTypes := #[.int, .int, .int, .int, .int, .int, .int, .int, .int, .int, .int, .int, .int, .int, .int, .int, .int, .int]
  resolved := Array.replicate 331 none
  statics := none }

/-- the primitive boolean -/
def k22 : Class := { plain "boolean" none with kind := .primitive 'Z', accessFlags := 0x411 }
/-- [Z -/
def k23 : Class := { plain "[Z" (some 0) with kind := .array 22 .boolean, interfaces := #[16, 17], accessFlags := 1041 }

/-- the primitive byte -/
def k24 : Class := { plain "byte" none with kind := .primitive 'B', accessFlags := 0x411 }
/-- [B -/
def k25 : Class := { plain "[B" (some 0) with kind := .array 24 .byte, interfaces := #[16, 17], accessFlags := 1041 }

/-- the primitive int -/
def k26 : Class := { plain "int" none with kind := .primitive 'I', accessFlags := 0x411 }
/-- [I -/
def k27 : Class := { plain "[I" (some 0) with kind := .array 26 .int, interfaces := #[16, 17], accessFlags := 1041 }

/-- the primitive long -/
def k28 : Class := { plain "long" none with kind := .primitive 'J', accessFlags := 0x411 }
/-- [J -/
def k29 : Class := { plain "[J" (some 0) with kind := .array 28 .long, interfaces := #[16, 17], accessFlags := 1041 }

/-- [Ljava/lang/Object; -/
def k30 : Class := { plain "[Ljava/lang/Object;" (some 0) with kind := .array 0 (.object "java/lang/Object"), interfaces := #[16, 17], accessFlags := 1041 }
/-- [[J -/
def k31 : Class := { plain "[[J" (some 0) with kind := .array 29 (.array .long), interfaces := #[16, 17], accessFlags := 1041 }

def heap : Heap := #[{ cls := 2, slots := #[.ref 1], vm := .statics 2 },
  { cls := 29, slots := #[], vm := .none }]
def classes : Array Class := #[k0, k1, k2, k3, k4, k5, k6, k7, k8, k9, k10, k11, k12, k13, k14, k15, k16, k17, k18, k19, k20, k21, k22, k23, k24, k25, k26, k27, k28, k29, k30, k31]
def interned : List (Array UInt16 × Addr) := []
def slotsUsed : Nat := 1
def theMethod : MethodId := ⟨1, 1⟩
def args0 : Array Value := #[.long 5, .int 0, .long 3, .int 1, .long 2]
def aboutOver (below : List Frame) : State where
  vm := { classes := classes, interned := interned.toArray }
  heap := heap
  slotsUsed := slotsUsed
  threads := #[{ frames := .invoking theMethod args0 :: below }]
def below0 : List Frame := [.native { method := ⟨0, 0⟩, args := #[] }]
def about1 : State := aboutOver below0
def p0 : Program := .bare "" "" ""
def e0 : Env := launch0.env 0 0 0
theorem w_frames : about1.frames = Frame.invoking theMethod args0 :: below0 := rfl
set_option maxRecDepth 65536 in
theorem w_args : argsFit about1.vm theMethod args0 = true := by decide +kernel
set_option maxRecDepth 65536 in
theorem w_heap : heapFits about1 = true := by decide +kernel
set_option maxRecDepth 65536 in
theorem w_runnable : about1.curStatus? = some .runnable := by decide +kernel
set_option maxRecDepth 65536 in
theorem w_alone : about1.alone = true := by decide +kernel
set_option maxRecDepth 65536 in
theorem w_named : about1.methodNamed? x = some theMethod := by decide +kernel
set_option maxRecDepth 65536 in
theorem w_hears : about1.hears theMethod below0 = true := by decide +kernel
set_option maxRecDepth 65536 in
theorem w_ripe : about1.ripe theMethod args0 below0 = true := by decide +kernel
theorem w_running : about1.status = .running := rfl
set_option maxRecDepth 65536 in
theorem w_room : about1.hasRoom e0.platform room_1 = true :=
  launch0.hasRoom_least _ room_1 (by decide +kernel) (by decide +kernel) (by decide +kernel) (by decide +kernel) (by decide +kernel) (by decide +kernel)
theorem allAtoms_all (ts : List Jvm.Cond) (a : Array Jvm.Value) (st : Jvm.State) : (allAtoms ts).before a st = ts.all (fun c => c.before a st) := by
  induction ts with
  | nil => rfl
  | cons c t ih =>
    show (Jvm.Cond.and c (allAtoms t)).before a st = _
    rw [Jvm.Cond.before_and, ih, List.all_cons]
def words1 : List Jvm.Cond := Jvm.Cond.code x code maxLocals ret :: tables_1
/-- a 'code' word, met by the world's own term for the bytes: nothing is compared byte by byte -/
theorem code_word {y : MethodName} {bytes : ByteArray} {mx : Nat} {rt : Option FieldType} {a : Array Value} {s : State} {m : MethodId} {meth : Method} {c : Code} (h1 : s.methodNamed? y = some m) (h2 : s.vm.method? m = some meth) (h3 : meth.code = some c) (h4 : c.code = bytes)
    (h5 : (c.maxLocals == mx && c.exceptionTable.isEmpty && decide (c.maxStack ≤ mostOperands) && decide (meth.sig.returnType = rt) && !meth.locks && decide (parseMethodDescriptor y.desc = some meth.sig)) = true) : (Jvm.Cond.code y bytes mx rt).before a s = true := by
  simp only [Bool.and_eq_true, beq_iff_eq, Bool.not_eq_true', decide_eq_true_eq] at h5
  obtain ⟨⟨⟨⟨⟨g1, g2⟩, g3⟩, g4⟩, g5⟩, g6⟩ := h5
  simp [Cond.before, Cond.holds, Cond.value, h1, h2, h3, h4, g1, g2, g3, g4, g5, g6]
def isCode : Jvm.Cond → Bool
  | .code _ _ _ _ => true
  | _ => false
theorem all_split {L : List Jvm.Cond} {P : Jvm.Cond → Bool} (h1 : L.all (fun c => isCode c || P c) = true) (h2 : ∀ c ∈ L.filter isCode, P c = true) : L.all P = true := by
  refine List.all_eq_true.mpr fun c hc => ?_
  have h := List.all_eq_true.mp h1 c hc
  rcases Bool.eq_false_or_eq_true (isCode c) with hi | hi
  · exact h2 c (List.mem_filter.mpr ⟨hc, hi⟩)
  · simpa [hi] using h
set_option maxRecDepth 65536 in
theorem w_c0 : (Jvm.Cond.code x code maxLocals ret).before args0 about1 = true := code_word (m := ⟨1, 1⟩) (meth := k1m1) (c := k1c1) (by decide +kernel) rfl rfl rfl (by decide +kernel)
set_option maxRecDepth 65536 in
theorem w_c1 : (Jvm.Cond.code ({ cls := "com/example/interlace/interlace/engine/Floors", name := "<init>", desc := "(I)V" } : Jvm.MethodName) prog_34_method_1_code (2 : Nat) (Option.none : Option Jvm.ClassFile.FieldType)).before args0 about1 = true := code_word (m := ⟨2, 0⟩) (meth := k2m0) (c := k2c0) (by decide +kernel) rfl rfl rfl (by decide +kernel)
set_option maxRecDepth 65536 in
theorem w_c2 : (Jvm.Cond.code ({ cls := "java/lang/Object", name := "<init>", desc := "()V" } : Jvm.MethodName) object_method_1_code (1 : Nat) (Option.none : Option Jvm.ClassFile.FieldType)).before args0 about1 = true := code_word (m := ⟨0, 0⟩) (meth := k0m0) (c := k0c0) (by decide +kernel) rfl rfl rfl (by decide +kernel)
set_option maxRecDepth 65536 in
theorem w_c3 : (Jvm.Cond.code ({ cls := "com/example/interlace/interlace/engine/Floors", name := "clear", desc := "(J)V" } : Jvm.MethodName) prog_34_method_2_code (3 : Nat) (Option.none : Option Jvm.ClassFile.FieldType)).before args0 about1 = true := code_word (m := ⟨2, 1⟩) (meth := k2m1) (c := k2c1) (by decide +kernel) rfl rfl rfl (by decide +kernel)
set_option maxRecDepth 65536 in
theorem w_c4 : (Jvm.Cond.code ({ cls := "java/util/Arrays", name := "fill", desc := "([ZZ)V" } : Jvm.MethodName) jdk_65_method_111_code (4 : Nat) (Option.none : Option Jvm.ClassFile.FieldType)).before args0 about1 = true := code_word (m := ⟨3, 2⟩) (meth := k3m2) (c := k3c2) (by decide +kernel) rfl rfl rfl (by decide +kernel)
set_option maxRecDepth 65536 in
theorem w_c5 : (Jvm.Cond.code ({ cls := "java/util/Arrays", name := "fill", desc := "([Ljava/lang/Object;Ljava/lang/Object;)V" } : Jvm.MethodName) jdk_65_method_117_code (4 : Nat) (Option.none : Option Jvm.ClassFile.FieldType)).before args0 about1 = true := code_word (m := ⟨3, 3⟩) (meth := k3m3) (c := k3c3) (by decide +kernel) rfl rfl rfl (by decide +kernel)
set_option maxRecDepth 65536 in
theorem w_c6 : (Jvm.Cond.code ({ cls := "com/example/interlace/interlace/engine/Floors", name := "set", desc := "(IJ)V" } : Jvm.MethodName) prog_34_method_3_code (4 : Nat) (Option.none : Option Jvm.ClassFile.FieldType)).before args0 about1 = true := code_word (m := ⟨2, 2⟩) (meth := k2m2) (c := k2c2) (by decide +kernel) rfl rfl rfl (by decide +kernel)
set_option maxRecDepth 65536 in
theorem w_c7 : (Jvm.Cond.code ({ cls := "com/example/interlace/interlace/pattern/Structure$Leaf", name := "<init>", desc := "(I)V" } : Jvm.MethodName) prog_83_method_1_code (2 : Nat) (Option.none : Option Jvm.ClassFile.FieldType)).before args0 about1 = true := code_word (m := ⟨7, 0⟩) (meth := k7m0) (c := k7c0) (by decide +kernel) rfl rfl rfl (by decide +kernel)
set_option maxRecDepth 65536 in
theorem w_c8 : (Jvm.Cond.code ({ cls := "java/lang/Record", name := "<init>", desc := "()V" } : Jvm.MethodName) jdk_30_method_1_code (1 : Nat) (Option.none : Option Jvm.ClassFile.FieldType)).before args0 about1 = true := code_word (m := ⟨4, 0⟩) (meth := k4m0) (c := k4c0) (by decide +kernel) rfl rfl rfl (by decide +kernel)
set_option maxRecDepth 65536 in
theorem w_c9 : (Jvm.Cond.code ({ cls := "com/example/interlace/interlace/engine/Plan$Required", name := "<init>", desc := "(Lcom/example/interlace/interlace/pattern/Structure;ZLcom/example/interlace/interlace/engine/Plan$Required;)V" } : Jvm.MethodName) prog_47_method_1_code (4 : Nat) (Option.none : Option Jvm.ClassFile.FieldType)).before args0 about1 = true := code_word (m := ⟨5, 0⟩) (meth := k5m0) (c := k5c0) (by decide +kernel) rfl rfl rfl (by decide +kernel)
set_option maxRecDepth 65536 in
theorem w_c10 : (Jvm.Cond.code ({ cls := "com/example/interlace/interlace/engine/Plan$Bind", name := "<init>", desc := "(I[Lcom/example/interlace/interlace/engine/Plan$Absent;Lcom/example/interlace/interlace/engine/Plan$Required;Lcom/example/interlace/interlace/engine/Plan$Step;)V" } : Jvm.MethodName) prog_41_method_1_code (5 : Nat) (Option.none : Option Jvm.ClassFile.FieldType)).before args0 about1 = true := code_word (m := ⟨9, 0⟩) (meth := k9m0) (c := k9c0) (by decide +kernel) rfl rfl rfl (by decide +kernel)
set_option maxRecDepth 65536 in
theorem w_c11 : (Jvm.Cond.code ({ cls := "com/example/interlace/interlace/engine/Floors", name := "restAfter", desc := "(Lcom/example/interlace/interlace/engine/Plan$Bind;)[J" } : Jvm.MethodName) prog_34_method_4_code (4 : Nat) (Option.some (Jvm.ClassFile.FieldType.array Jvm.ClassFile.FieldType.long))).before args0 about1 = true := code_word (m := ⟨2, 3⟩) (meth := k2m3) (c := k2c3) (by decide +kernel) rfl rfl rfl (by decide +kernel)
set_option maxRecDepth 65536 in
theorem w_c12 : (Jvm.Cond.code ({ cls := "com/example/interlace/interlace/engine/Plan$Bind", name := "variable", desc := "()I" } : Jvm.MethodName) prog_41_method_5_code (1 : Nat) (Option.some Jvm.ClassFile.FieldType.int)).before args0 about1 = true := code_word (m := ⟨9, 1⟩) (meth := k9m1) (c := k9c1) (by decide +kernel) rfl rfl rfl (by decide +kernel)
set_option maxRecDepth 65536 in
theorem w_c13 : (Jvm.Cond.code ({ cls := "com/example/interlace/interlace/engine/Plan$Bind", name := "required", desc := "()Lcom/example/interlace/interlace/engine/Plan$Required;" } : Jvm.MethodName) prog_41_method_7_code (1 : Nat) (Option.some (Jvm.ClassFile.FieldType.object "com/example/interlace/interlace/engine/Plan$Required"))).before args0 about1 = true := code_word (m := ⟨9, 2⟩) (meth := k9m2) (c := k9c2) (by decide +kernel) rfl rfl rfl (by decide +kernel)
set_option maxRecDepth 65536 in
theorem w_c14 : (Jvm.Cond.code ({ cls := "com/example/interlace/interlace/engine/Plan$Required", name := "operand", desc := "()Lcom/example/interlace/interlace/pattern/Structure;" } : Jvm.MethodName) prog_47_method_8_code (1 : Nat) (Option.some (Jvm.ClassFile.FieldType.object "com/example/interlace/interlace/pattern/Structure"))).before args0 about1 = true := code_word (m := ⟨5, 1⟩) (meth := k5m1) (c := k5c1) (by decide +kernel) rfl rfl rfl (by decide +kernel)
set_option maxRecDepth 65536 in
theorem w_c15 : (Jvm.Cond.code ({ cls := "com/example/interlace/interlace/engine/Floors", name := "least", desc := "(Lcom/example/interlace/interlace/pattern/Structure;)[J" } : Jvm.MethodName) prog_34_method_5_code (6 : Nat) (Option.some (Jvm.ClassFile.FieldType.array Jvm.ClassFile.FieldType.long))).before args0 about1 = true := code_word (m := ⟨2, 4⟩) (meth := k2m4) (c := k2c4) (by decide +kernel) rfl rfl rfl (by decide +kernel)
set_option maxRecDepth 65536 in
theorem w_c16 : (Jvm.Cond.code ({ cls := "java/util/ArrayDeque", name := "<init>", desc := "()V" } : Jvm.MethodName) jdk_21_method_3_code (1 : Nat) (Option.none : Option Jvm.ClassFile.FieldType)).before args0 about1 = true := code_word (m := ⟨18, 0⟩) (meth := k18m0) (c := k18c0) (by decide +kernel) rfl rfl rfl (by decide +kernel)
set_option maxRecDepth 65536 in
theorem w_c17 : (Jvm.Cond.code ({ cls := "java/util/AbstractCollection", name := "<init>", desc := "()V" } : Jvm.MethodName) jdk_22_method_1_code (1 : Nat) (Option.none : Option Jvm.ClassFile.FieldType)).before args0 about1 = true := code_word (m := ⟨12, 0⟩) (meth := k12m0) (c := k12c0) (by decide +kernel) rfl rfl rfl (by decide +kernel)
set_option maxRecDepth 65536 in
theorem w_c18 : (Jvm.Cond.code ({ cls := "com/example/interlace/interlace/engine/Floors", name := "enter", desc := "(Lcom/example/interlace/interlace/pattern/Structure;Ljava/util/Deque;)[J" } : Jvm.MethodName) prog_34_method_6_code (6 : Nat) (Option.some (Jvm.ClassFile.FieldType.array Jvm.ClassFile.FieldType.long))).before args0 about1 = true := code_word (m := ⟨2, 5⟩) (meth := k2m5) (c := k2c5) (by decide +kernel) rfl rfl rfl (by decide +kernel)
set_option maxRecDepth 65536 in
theorem w_c19 : (Jvm.Cond.code ({ cls := "com/example/interlace/interlace/pattern/Structure$Leaf", name := "variable", desc := "()I" } : Jvm.MethodName) prog_83_method_7_code (1 : Nat) (Option.some Jvm.ClassFile.FieldType.int)).before args0 about1 = true := code_word (m := ⟨7, 1⟩) (meth := k7m1) (c := k7c1) (by decide +kernel) rfl rfl rfl (by decide +kernel)
set_option maxRecDepth 65536 in
theorem w_c20 : (Jvm.Cond.code ({ cls := "java/util/ArrayDeque", name := "isEmpty", desc := "()Z" } : Jvm.MethodName) jdk_21_method_38_code (1 : Nat) (Option.some Jvm.ClassFile.FieldType.boolean)).before args0 about1 = true := code_word (m := ⟨18, 1⟩) (meth := k18m1) (c := k18c1) (by decide +kernel) rfl rfl rfl (by decide +kernel)
set_option maxRecDepth 65536 in
theorem w_c21 : (Jvm.Cond.code ({ cls := "com/example/interlace/interlace/engine/Floors", name := "merged", desc := "([J[J)[J" } : Jvm.MethodName) prog_34_method_7_code (3 : Nat) (Option.some (Jvm.ClassFile.FieldType.array Jvm.ClassFile.FieldType.long))).before args0 about1 = true := code_word (m := ⟨2, 6⟩) (meth := k2m6) (c := k2c6) (by decide +kernel) rfl rfl rfl (by decide +kernel)
set_option maxRecDepth 65536 in
theorem w_c22 : (Jvm.Cond.code ({ cls := "java/util/Arrays", name := "copyOf", desc := "([JI)[J" } : Jvm.MethodName) jdk_65_method_124_code (3 : Nat) (Option.some (Jvm.ClassFile.FieldType.array Jvm.ClassFile.FieldType.long))).before args0 about1 = true := code_word (m := ⟨3, 4⟩) (meth := k3m4) (c := k3c4) (by decide +kernel) rfl rfl rfl (by decide +kernel)
set_option maxRecDepth 65536 in
theorem w_c23 : (Jvm.Cond.code ({ cls := "java/lang/Math", name := "min", desc := "(II)I" } : Jvm.MethodName) jdk_29_method_69_code (2 : Nat) (Option.some Jvm.ClassFile.FieldType.int)).before args0 about1 = true := code_word (m := ⟨19, 2⟩) (meth := k19m2) (c := k19c2) (by decide +kernel) rfl rfl rfl (by decide +kernel)
set_option maxRecDepth 65536 in
theorem w_c24 : (Jvm.Cond.code ({ cls := "java/util/Arrays", name := "sort", desc := "([J)V" } : Jvm.MethodName) jdk_65_method_4_code (1 : Nat) (Option.none : Option Jvm.ClassFile.FieldType)).before args0 about1 = true := code_word (m := ⟨3, 1⟩) (meth := k3m1) (c := k3c1) (by decide +kernel) rfl rfl rfl (by decide +kernel)
set_option maxRecDepth 65536 in
theorem w_c25 : (Jvm.Cond.code ({ cls := "java/util/DualPivotQuicksort", name := "sort", desc := "([JIII)V" } : Jvm.MethodName) jdk_2529_method_12_code (7 : Nat) (Option.none : Option Jvm.ClassFile.FieldType)).before args0 about1 = true := code_word (m := ⟨21, 1⟩) (meth := k21m1) (c := k21c1) (by decide +kernel) rfl rfl rfl (by decide +kernel)
set_option maxRecDepth 65536 in
theorem w_c26 : (Jvm.Cond.code ({ cls := "java/util/DualPivotQuicksort", name := "sort", desc := "(Ljava/util/DualPivotQuicksort$Sorter;[JIII)V" } : Jvm.MethodName) jdk_2529_method_13_code (25 : Nat) (Option.none : Option Jvm.ClassFile.FieldType)).before args0 about1 = true := code_word (m := ⟨21, 2⟩) (meth := k21m2) (c := k21c2) (by decide +kernel) rfl rfl rfl (by decide +kernel)
set_option maxRecDepth 65536 in
theorem w_c27 : (Jvm.Cond.code ({ cls := "java/util/DualPivotQuicksort", name := "insertionSort", desc := "([JII)V" } : Jvm.MethodName) jdk_2529_method_15_code (7 : Nat) (Option.none : Option Jvm.ClassFile.FieldType)).before args0 about1 = true := code_word (m := ⟨21, 3⟩) (meth := k21m3) (c := k21c3) (by decide +kernel) rfl rfl rfl (by decide +kernel)
set_option maxRecDepth 65536 in
theorem w_c28 : (Jvm.Cond.code ({ cls := "com/example/interlace/interlace/engine/Plan$Required", name := "rest", desc := "()Lcom/example/interlace/interlace/engine/Plan$Required;" } : Jvm.MethodName) prog_47_method_10_code (1 : Nat) (Option.some (Jvm.ClassFile.FieldType.object "com/example/interlace/interlace/engine/Plan$Required"))).before args0 about1 = true := code_word (m := ⟨5, 2⟩) (meth := k5m2) (c := k5c2) (by decide +kernel) rfl rfl rfl (by decide +kernel)
set_option maxRecDepth 65536 in
theorem w_c29 : (Jvm.Cond.code ({ cls := "java/lang/Math", name := "min", desc := "(JJ)J" } : Jvm.MethodName) jdk_29_method_70_code (4 : Nat) (Option.some Jvm.ClassFile.FieldType.long)).before args0 about1 = true := code_word (m := ⟨19, 3⟩) (meth := k19m3) (c := k19c3) (by decide +kernel) rfl rfl rfl (by decide +kernel)
set_option maxRecDepth 65536 in
theorem w_c30 : (Jvm.Cond.code ({ cls := "java/lang/Math", name := "max", desc := "(JJ)J" } : Jvm.MethodName) jdk_29_method_66_code (4 : Nat) (Option.some Jvm.ClassFile.FieldType.long)).before args0 about1 = true := code_word (m := ⟨19, 1⟩) (meth := k19m1) (c := k19c1) (by decide +kernel) rfl rfl rfl (by decide +kernel)
def codes1 : List Jvm.Cond := [Jvm.Cond.code x code maxLocals ret, Jvm.Cond.code ({ cls := "com/example/interlace/interlace/engine/Floors", name := "<init>", desc := "(I)V" } : Jvm.MethodName) prog_34_method_1_code (2 : Nat) (Option.none : Option Jvm.ClassFile.FieldType), Jvm.Cond.code ({ cls := "java/lang/Object", name := "<init>", desc := "()V" } : Jvm.MethodName) object_method_1_code (1 : Nat) (Option.none : Option Jvm.ClassFile.FieldType), Jvm.Cond.code ({ cls := "com/example/interlace/interlace/engine/Floors", name := "clear", desc := "(J)V" } : Jvm.MethodName) prog_34_method_2_code (3 : Nat) (Option.none : Option Jvm.ClassFile.FieldType), Jvm.Cond.code ({ cls := "java/util/Arrays", name := "fill", desc := "([ZZ)V" } : Jvm.MethodName) jdk_65_method_111_code (4 : Nat) (Option.none : Option Jvm.ClassFile.FieldType), Jvm.Cond.code ({ cls := "java/util/Arrays", name := "fill", desc := "([Ljava/lang/Object;Ljava/lang/Object;)V" } : Jvm.MethodName) jdk_65_method_117_code (4 : Nat) (Option.none : Option Jvm.ClassFile.FieldType), Jvm.Cond.code ({ cls := "com/example/interlace/interlace/engine/Floors", name := "set", desc := "(IJ)V" } : Jvm.MethodName) prog_34_method_3_code (4 : Nat) (Option.none : Option Jvm.ClassFile.FieldType), Jvm.Cond.code ({ cls := "com/example/interlace/interlace/pattern/Structure$Leaf", name := "<init>", desc := "(I)V" } : Jvm.MethodName) prog_83_method_1_code (2 : Nat) (Option.none : Option Jvm.ClassFile.FieldType), Jvm.Cond.code ({ cls := "java/lang/Record", name := "<init>", desc := "()V" } : Jvm.MethodName) jdk_30_method_1_code (1 : Nat) (Option.none : Option Jvm.ClassFile.FieldType), Jvm.Cond.code ({ cls := "com/example/interlace/interlace/engine/Plan$Required", name := "<init>", desc := "(Lcom/example/interlace/interlace/pattern/Structure;ZLcom/example/interlace/interlace/engine/Plan$Required;)V" } : Jvm.MethodName) prog_47_method_1_code (4 : Nat) (Option.none : Option Jvm.ClassFile.FieldType), Jvm.Cond.code ({ cls := "com/example/interlace/interlace/engine/Plan$Bind", name := "<init>", desc := "(I[Lcom/example/interlace/interlace/engine/Plan$Absent;Lcom/example/interlace/interlace/engine/Plan$Required;Lcom/example/interlace/interlace/engine/Plan$Step;)V" } : Jvm.MethodName) prog_41_method_1_code (5 : Nat) (Option.none : Option Jvm.ClassFile.FieldType), Jvm.Cond.code ({ cls := "com/example/interlace/interlace/engine/Floors", name := "restAfter", desc := "(Lcom/example/interlace/interlace/engine/Plan$Bind;)[J" } : Jvm.MethodName) prog_34_method_4_code (4 : Nat) (Option.some (Jvm.ClassFile.FieldType.array Jvm.ClassFile.FieldType.long)), Jvm.Cond.code ({ cls := "com/example/interlace/interlace/engine/Plan$Bind", name := "variable", desc := "()I" } : Jvm.MethodName) prog_41_method_5_code (1 : Nat) (Option.some Jvm.ClassFile.FieldType.int), Jvm.Cond.code ({ cls := "com/example/interlace/interlace/engine/Plan$Bind", name := "required", desc := "()Lcom/example/interlace/interlace/engine/Plan$Required;" } : Jvm.MethodName) prog_41_method_7_code (1 : Nat) (Option.some (Jvm.ClassFile.FieldType.object "com/example/interlace/interlace/engine/Plan$Required")), Jvm.Cond.code ({ cls := "com/example/interlace/interlace/engine/Plan$Required", name := "operand", desc := "()Lcom/example/interlace/interlace/pattern/Structure;" } : Jvm.MethodName) prog_47_method_8_code (1 : Nat) (Option.some (Jvm.ClassFile.FieldType.object "com/example/interlace/interlace/pattern/Structure")), Jvm.Cond.code ({ cls := "com/example/interlace/interlace/engine/Floors", name := "least", desc := "(Lcom/example/interlace/interlace/pattern/Structure;)[J" } : Jvm.MethodName) prog_34_method_5_code (6 : Nat) (Option.some (Jvm.ClassFile.FieldType.array Jvm.ClassFile.FieldType.long)), Jvm.Cond.code ({ cls := "java/util/ArrayDeque", name := "<init>", desc := "()V" } : Jvm.MethodName) jdk_21_method_3_code (1 : Nat) (Option.none : Option Jvm.ClassFile.FieldType), Jvm.Cond.code ({ cls := "java/util/AbstractCollection", name := "<init>", desc := "()V" } : Jvm.MethodName) jdk_22_method_1_code (1 : Nat) (Option.none : Option Jvm.ClassFile.FieldType), Jvm.Cond.code ({ cls := "com/example/interlace/interlace/engine/Floors", name := "enter", desc := "(Lcom/example/interlace/interlace/pattern/Structure;Ljava/util/Deque;)[J" } : Jvm.MethodName) prog_34_method_6_code (6 : Nat) (Option.some (Jvm.ClassFile.FieldType.array Jvm.ClassFile.FieldType.long)), Jvm.Cond.code ({ cls := "com/example/interlace/interlace/pattern/Structure$Leaf", name := "variable", desc := "()I" } : Jvm.MethodName) prog_83_method_7_code (1 : Nat) (Option.some Jvm.ClassFile.FieldType.int), Jvm.Cond.code ({ cls := "java/util/ArrayDeque", name := "isEmpty", desc := "()Z" } : Jvm.MethodName) jdk_21_method_38_code (1 : Nat) (Option.some Jvm.ClassFile.FieldType.boolean), Jvm.Cond.code ({ cls := "com/example/interlace/interlace/engine/Floors", name := "merged", desc := "([J[J)[J" } : Jvm.MethodName) prog_34_method_7_code (3 : Nat) (Option.some (Jvm.ClassFile.FieldType.array Jvm.ClassFile.FieldType.long)), Jvm.Cond.code ({ cls := "java/util/Arrays", name := "copyOf", desc := "([JI)[J" } : Jvm.MethodName) jdk_65_method_124_code (3 : Nat) (Option.some (Jvm.ClassFile.FieldType.array Jvm.ClassFile.FieldType.long)), Jvm.Cond.code ({ cls := "java/lang/Math", name := "min", desc := "(II)I" } : Jvm.MethodName) jdk_29_method_69_code (2 : Nat) (Option.some Jvm.ClassFile.FieldType.int), Jvm.Cond.code ({ cls := "java/util/Arrays", name := "sort", desc := "([J)V" } : Jvm.MethodName) jdk_65_method_4_code (1 : Nat) (Option.none : Option Jvm.ClassFile.FieldType), Jvm.Cond.code ({ cls := "java/util/DualPivotQuicksort", name := "sort", desc := "([JIII)V" } : Jvm.MethodName) jdk_2529_method_12_code (7 : Nat) (Option.none : Option Jvm.ClassFile.FieldType), Jvm.Cond.code ({ cls := "java/util/DualPivotQuicksort", name := "sort", desc := "(Ljava/util/DualPivotQuicksort$Sorter;[JIII)V" } : Jvm.MethodName) jdk_2529_method_13_code (25 : Nat) (Option.none : Option Jvm.ClassFile.FieldType), Jvm.Cond.code ({ cls := "java/util/DualPivotQuicksort", name := "insertionSort", desc := "([JII)V" } : Jvm.MethodName) jdk_2529_method_15_code (7 : Nat) (Option.none : Option Jvm.ClassFile.FieldType), Jvm.Cond.code ({ cls := "com/example/interlace/interlace/engine/Plan$Required", name := "rest", desc := "()Lcom/example/interlace/interlace/engine/Plan$Required;" } : Jvm.MethodName) prog_47_method_10_code (1 : Nat) (Option.some (Jvm.ClassFile.FieldType.object "com/example/interlace/interlace/engine/Plan$Required")), Jvm.Cond.code ({ cls := "java/lang/Math", name := "min", desc := "(JJ)J" } : Jvm.MethodName) jdk_29_method_70_code (4 : Nat) (Option.some Jvm.ClassFile.FieldType.long), Jvm.Cond.code ({ cls := "java/lang/Math", name := "max", desc := "(JJ)J" } : Jvm.MethodName) jdk_29_method_66_code (4 : Nat) (Option.some Jvm.ClassFile.FieldType.long)]
set_option maxRecDepth 65536 in
theorem codes_eq : words1.filter isCode = codes1 := rfl
theorem w_codes : ∀ c ∈ words1.filter isCode, c.before args0 about1 = true := by
  rw [codes_eq]
  intro c hc
  simp only [codes1, List.mem_cons, List.not_mem_nil, or_false] at hc
  rcases hc with rfl | rfl | rfl | rfl | rfl | rfl | rfl | rfl | rfl | rfl | rfl | rfl | rfl | rfl | rfl | rfl | rfl | rfl | rfl | rfl | rfl | rfl | rfl | rfl | rfl | rfl | rfl | rfl | rfl | rfl | rfl
  · exact w_c0
  · exact w_c1
  · exact w_c2
  · exact w_c3
  · exact w_c4
  · exact w_c5
  · exact w_c6
  · exact w_c7
  · exact w_c8
  · exact w_c9
  · exact w_c10
  · exact w_c11
  · exact w_c12
  · exact w_c13
  · exact w_c14
  · exact w_c15
  · exact w_c16
  · exact w_c17
  · exact w_c18
  · exact w_c19
  · exact w_c20
  · exact w_c21
  · exact w_c22
  · exact w_c23
  · exact w_c24
  · exact w_c25
  · exact w_c26
  · exact w_c27
  · exact w_c28
  · exact w_c29
  · exact w_c30
set_option maxRecDepth 65536 in
theorem w_t1 : (words1.take 24).all (fun c => isCode c || c.before args0 about1) = true := by decide +kernel
set_option maxRecDepth 65536 in
theorem w_t2 : ((words1.drop 24).take 24).all (fun c => isCode c || c.before args0 about1) = true := by decide +kernel
set_option maxRecDepth 65536 in
theorem w_t3 : (((words1.drop 24).drop 24).take 24).all (fun c => isCode c || c.before args0 about1) = true := by decide +kernel
set_option maxRecDepth 65536 in
theorem w_t4 : ((((words1.drop 24).drop 24).drop 24).take 24).all (fun c => isCode c || c.before args0 about1) = true := by decide +kernel
set_option maxRecDepth 65536 in
theorem w_t5 : (((((words1.drop 24).drop 24).drop 24).drop 24).take 24).all (fun c => isCode c || c.before args0 about1) = true := by decide +kernel
set_option maxRecDepth 65536 in
theorem w_t6 : ((((((words1.drop 24).drop 24).drop 24).drop 24).drop 24).take 24).all (fun c => isCode c || c.before args0 about1) = true := by decide +kernel
set_option maxRecDepth 65536 in
theorem w_t7 : (((((((words1.drop 24).drop 24).drop 24).drop 24).drop 24).drop 24).take 24).all (fun c => isCode c || c.before args0 about1) = true := by decide +kernel
set_option maxRecDepth 65536 in
theorem w_t8 : ((((((((words1.drop 24).drop 24).drop 24).drop 24).drop 24).drop 24).drop 24).take 24).all (fun c => isCode c || c.before args0 about1) = true := by decide +kernel
set_option maxRecDepth 65536 in
theorem w_t9 : ((((((((words1.drop 24).drop 24).drop 24).drop 24).drop 24).drop 24).drop 24).drop 24).all (fun c => isCode c || c.before args0 about1) = true := by decide +kernel
theorem w_tables : (allAtoms (Jvm.Cond.code x code maxLocals ret :: tables_1)).before args0 about1 = true := by
  rw [allAtoms_all]
  show words1.all (fun c => c.before args0 about1) = true
  refine all_split ?_ w_codes
  rw [← List.take_append_drop 24 words1, List.all_append, w_t1, ← List.take_append_drop 24 (words1.drop 24), List.all_append, w_t2, ← List.take_append_drop 24 ((words1.drop 24).drop 24), List.all_append, w_t3, ← List.take_append_drop 24 (((words1.drop 24).drop 24).drop 24), List.all_append, w_t4, ← List.take_append_drop 24 ((((words1.drop 24).drop 24).drop 24).drop 24), List.all_append, w_t5, ← List.take_append_drop 24 (((((words1.drop 24).drop 24).drop 24).drop 24).drop 24), List.all_append, w_t6, ← List.take_append_drop 24 ((((((words1.drop 24).drop 24).drop 24).drop 24).drop 24).drop 24), List.all_append, w_t7, ← List.take_append_drop 24 (((((((words1.drop 24).drop 24).drop 24).drop 24).drop 24).drop 24).drop 24), List.all_append, w_t8, w_t9]
  rfl
set_option maxRecDepth 65536 in
theorem w_case : (Jvm.Cond.and given_1 narrow_1).before args0 about1 = true := by decide +kernel
theorem w_applies : (headSpec (Jvm.Cond.code x code maxLocals ret :: tables_1) room_1).applies x e0.platform about1 = true :=
  (Spec.applies_iff w_frames).mpr ⟨w_running, w_runnable, w_alone, w_named, w_hears, w_ripe, w_room, w_tables⟩
theorem atStart : AtStart classFile x code maxLocals ret World_1 tables_1 room_1 Calls_1 rest_1 Pre_1 launch0 p0 e0 about1 theMethod args0 below0 :=
  ⟨lists_1, trivial, launch0.admits_env _ _ _, launch0.least_env, fairChoices_fair.cas, fairChoices_fair.clock, w_frames, w_args, w_heap, w_applies, trivial, trivial, w_case⟩
end start1
theorem witness_1 : WitnessClaimed_1 := ⟨start1.p0, start1.e0, start1.about1, start1.theMethod, start1.args0, start1.below0, start1.atStart⟩
end Jvm.Pilot.@@N@@
